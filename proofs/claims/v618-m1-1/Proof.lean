import JvmDerived
import JvmDerived.Pilot.@@N@@Statement
import JvmDerived.Pilot.@@N@@Code
set_option linter.unusedVariables false
set_option linter.unusedSimpArgs false
namespace Jvm.Pilot.@@N@@
open Jvm Jvm.ClassFile Sem Op Lib Jvm.Free Jvm.Stand Jvm.LawKit Jvm.RoadKit Bundle Jvm.Pilot.@@N@@.Jvm.D
/-! A walk as one goal: from the state U the run comes to an end that answers Q. -/
section Kit
def Go (p : Program) (e : Env) (below : List Frame) (s : State) (Q : Option Value → Heap → List Loc → Prop) (C N : Nat) (U : State) : Prop :=
  ∃ s₂ o, Steps p.tables e below U s₂ ∧ s₂.status = .running ∧ Ended s₂ below o ∧ ∃ v L, o = .returned v ∧ Q v s₂.heap L ∧ FrameEnd s o s₂ L C N
variable {p : Program} {l : Launch} {e : Env} {R : Room} {s : State} {m : MethodId} {args : Array Value} {below : List Frame} {meth : Method} {c : Code} {T : State} {locs : List Loc} {cells slots : Nat} {Q : Option Value → Heap → List Loc → Prop} {C N : Nat}
abbrev gO {p : Program} {e : Env} {below : List Frame} {s : State} {Q : Option Value → Heap → List Loc → Prop} {C N : Nat} (U : State) : Prop := Go p e below s Q C N U
abbrev tF (T : State) (m : MethodId) (pc : Nat) (ls : Array Slot) (st : List Value) : State := T.setTop (mkF m pc ls st)
theorem gob {U U' : State} (h : ∀ t, Steps p.tables e below U' t → Steps p.tables e below U t) (k : Go p e below s Q C N U') : Go p e below s Q C N U := by
  obtain ⟨s₂, o, h1, r⟩ := k
  exact ⟨s₂, o, h _ h1, r⟩
theorem goZ (X : Stand p l e R s m args below meth c T locs cells slots) (hx : p.tables.exec = Jvm.exec) (hlk : meth.locks = false) {t : FieldType} {pc : Nat} {Ls : Array Slot} {z z' : Int32} {rest : List Value} (hret : meth.sig.returnType = some t) (ht : t = .boolean ∨ t = .byte ∨ t = .char ∨ t = .short) (hd : decode c.code pc = .ok (.ireturn, 1)) (hz : nar t z = z') (hq : Q (some (.int z')) T.heap locs) (hc : cells ≤ C) (hn : slots ≤ N) :
    Go p e below s Q C N (T.setTop (mkF m pc Ls (.int z :: rest))) := by
  subst hz
  obtain ⟨fs, hr, hrun, hended, hW, hsame⟩ := X.leave (v := some (.int (nar t z))) (fun h => by rw [hret] at h; cases h) hlk
  exact ⟨_, _, retN X hx hret ht hd hr, hrun, hended, _, _, rfl, hq, ⟨_, rfl⟩, hW, hsame.mono hc hn⟩
theorem goI (X : Stand p l e R s m args below meth c T locs cells slots) (hx : p.tables.exec = Jvm.exec) (hlk : meth.locks = false) {pc : Nat} {Ls : Array Slot} {z : Int32} {rest : List Value} (hret : meth.sig.returnType = some .int) (hd : decode c.code pc = .ok (.ireturn, 1)) (hq : Q (some (.int z)) T.heap locs) (hc : cells ≤ C) (hn : slots ≤ N) :
    Go p e below s Q C N (T.setTop (mkF m pc Ls (.int z :: rest))) := by
  obtain ⟨fs, hr, hrun, hended, hW, hsame⟩ := X.leave (v := some (.int z)) (fun h => by rw [hret] at h; cases h) hlk
  exact ⟨_, _, retOut X hx hret rfl (Or.inl ⟨rfl, Or.inl rfl, z, rfl⟩) hd hr, hrun, hended, _, _, rfl, hq, ⟨_, rfl⟩, hW, hsame.mono hc hn⟩
theorem goJ (X : Stand p l e R s m args below meth c T locs cells slots) (hx : p.tables.exec = Jvm.exec) (hlk : meth.locks = false) {pc : Nat} {Ls : Array Slot} {z : Int64} {rest : List Value} (hret : meth.sig.returnType = some .long) (hd : decode c.code pc = .ok (.lreturn, 1)) (hq : Q (some (.long z)) T.heap locs) (hc : cells ≤ C) (hn : slots ≤ N) :
    Go p e below s Q C N (T.setTop (mkF m pc Ls (.long z :: rest))) := by
  obtain ⟨fs, hr, hrun, hended, hW, hsame⟩ := X.leave (v := some (.long z)) (fun h => by rw [hret] at h; cases h) hlk
  exact ⟨_, _, retOut X hx hret rfl (Or.inr (Or.inl ⟨rfl, rfl, z, rfl⟩)) hd hr, hrun, hended, _, _, rfl, hq, ⟨_, rfl⟩, hW, hsame.mono hc hn⟩
theorem goD (X : Stand p l e R s m args below meth c T locs cells slots) (hx : p.tables.exec = Jvm.exec) (hlk : meth.locks = false) {pc : Nat} {Ls : Array Slot} {z : UInt64} {rest : List Value} (hret : meth.sig.returnType = some .double) (hd : decode c.code pc = .ok (.dreturn, 1)) (hq : Q (some (.double z)) T.heap locs) (hc : cells ≤ C) (hn : slots ≤ N) :
    Go p e below s Q C N (T.setTop (mkF m pc Ls (.double z :: rest))) := by
  obtain ⟨fs, hr, hrun, hended, hW, hsame⟩ := X.leave (v := some (.double z)) (fun h => by rw [hret] at h; cases h) hlk
  exact ⟨_, _, retOut X hx hret rfl (Or.inr (Or.inr (Or.inl ⟨rfl, rfl, z, rfl⟩))) hd hr, hrun, hended, _, _, rfl, hq, ⟨_, rfl⟩, hW, hsame.mono hc hn⟩
theorem goA (X : Stand p l e R s m args below meth c T locs cells slots) (hx : p.tables.exec = Jvm.exec) (hlk : meth.locks = false) {t : FieldType} {pc : Nat} {Ls : Array Slot} {z : Value} {rest : List Value} (hret : meth.sig.returnType = some t) (ht : t.isReference = true) (hv : z.isRef = true) (hd : decode c.code pc = .ok (.areturn, 1)) (hq : Q (some z) T.heap locs) (hc : cells ≤ C) (hn : slots ≤ N) :
    Go p e below s Q C N (T.setTop (mkF m pc Ls (z :: rest))) := by
  obtain ⟨fs, hr, hrun, hended, hW, hsame⟩ := X.leave (v := some z) (fun h => by rw [hret] at h; cases h) hlk
  have hnw : narrow t z = z := by cases z <;> cases t <;> first | rfl | (simp [Value.isRef] at hv) | (simp [FieldType.isReference] at ht)
  exact ⟨_, _, retOut X hx hret hnw (Or.inr (Or.inr (Or.inr (Or.inr ⟨rfl, ht, hv⟩)))) hd hr, hrun, hended, _, _, rfl, hq, ⟨_, rfl⟩, hW, hsame.mono hc hn⟩
theorem goV (X : Stand p l e R s m args below meth c T locs cells slots) (hx : p.tables.exec = Jvm.exec) (hlk : meth.locks = false) {pc : Nat} {Ls : Array Slot} (hret : meth.sig.returnType = none) (hd : decode c.code pc = .ok (.return_, 1)) (hq : Q none T.heap locs) (hc : cells ≤ C) (hn : slots ≤ N) :
    Go p e below s Q C N (T.setTop (mkF m pc Ls [])) := by
  obtain ⟨fs, hr, hrun, hended, hW, hsame⟩ := X.leave (v := none) (fun _ => rfl) hlk
  exact ⟨_, _, X.returnOut hx hret hd hr, hrun, hended, _, _, rfl, hq, ⟨_, rfl⟩, hW, hsame.mono hc hn⟩
theorem lremM {g : JFrame} {target : State} (X : Stand p l e R s m args below meth c T locs cells slots) (hx : p.tables.exec = Jvm.exec) (hg : g.method = m) {x y : Int64} {rest : List Value} (hd : decode c.code g.pc = .ok (.lrem, 1)) (hs : g.stack = .long y :: .long x :: rest) (hy : y ≠ 0)
    (hr : Steps p.tables e below (T.setTop { g with pc := g.pc + 1, stack := .long (x % y) :: rest }) target) : Steps p.tables e below (T.setTop g) target :=
  XS.lrem X.here hx hg hd hs hy (by rw [lrem_mod x y]; exact hr)
theorem own_lrem (x y : Int64) (d : Int) (hy : y.toInt = d) : (0 ≤ x.toInt → (x % y).toInt = x.toInt % d) ∧ (x.toInt < 0 → (x % y).toInt = -((-x.toInt) % d)) := by rw [Int64.toInt_mod, hy]; exact tr _ _
theorem own_lxor (x y : Int64) (hy : 0 ≤ y.toInt) : ((x ^^^ y).toInt < 0 ↔ x.toInt < 0) := by
  have h1 : (x ^^^ y).toBitVec.msb = (x.toBitVec.msb ^^ y.toBitVec.msb) := by rw [Int64.toBitVec_xor, BitVec.msb_xor]
  have h2 := BitVec.msb_eq_toInt (x := (x ^^^ y).toBitVec)
  have h3 := BitVec.msb_eq_toInt (x := x.toBitVec)
  have h4 := BitVec.msb_eq_toInt (x := y.toBitVec)
  have e1 : (x ^^^ y).toBitVec.toInt = (x ^^^ y).toInt := rfl
  have e2 : x.toBitVec.toInt = x.toInt := rfl
  have e3 : y.toBitVec.toInt = y.toInt := rfl
  rw [e1] at h2
  rw [e2] at h3
  rw [e3] at h4
  have h5 : ¬ y.toInt < 0 := by omega
  rw [h2, h3, h4, decide_eq_false h5, Bool.xor_false] at h1
  simpa using h1
theorem pop2L {g : JFrame} {target : State} (X : Stand p l e R s m args below meth c T locs cells slots) (hx : p.tables.exec = Jvm.exec) (hg : g.method = m) {x : Int64} {rest : List Value} (hd : decode c.code g.pc = .ok (.pop2, 1)) (hs : g.stack = .long x :: rest)
    (hr : Steps p.tables e below (T.setTop { g with pc := g.pc + 1, stack := rest }) target) : Steps p.tables e below (T.setTop g) target := by
  subst hg
  jvm_step X.here [X.here.top, hx, hd, hs, Value.category]
  exact hr
theorem own_staKeep {Z : State} {h h' : Heap} {C n d : String} {v : Value} {ws : List Addr} (F : Sta Z h C n d v) (K : Keep h h' ws) (hn : ∀ x ∈ ws, ∀ cell : Cell, h[x]? = some cell → cell.vm.isStatics = false) : Sta Z h' C n d v := by
  obtain ⟨cf, i, k, f, st, cell, h1, h2, h3, h4, h5, h6, h7⟩ := F
  exact ⟨cf, i, k, f, st, cell, h1, h2, h3, h4, K.2.1 _ _ h5 (fun q => by have q2 := hn _ q _ h5; rw [h6] at q2; cases q2), h6, h7⟩
theorem own_lmulR (x y : Int64) (d : Int) (hy : y.toInt = d) : ((x * y).toInt - x.toInt * d) % 18446744073709551616 = 0 := by rw [← hy]; exact c_lmul x y
theorem own_lmulL (x y : Int64) (d : Int) (hx : x.toInt = d) : ((x * y).toInt - d * y.toInt) % 18446744073709551616 = 0 := by rw [← hx]; exact c_lmul x y
theorem own_imulR (x y : Int32) (d : Int) (hy : y.toInt = d) : ((x * y).toInt - x.toInt * d) % 4294967296 = 0 := by rw [← hy]; exact c_imul x y
theorem own_imulL (x y : Int32) (d : Int) (hx : x.toInt = d) : ((x * y).toInt - d * y.toInt) % 4294967296 = 0 := by rw [← hx]; exact c_imul x y
theorem castX {k' n' : Nat} (X : Stand p l e R s m args below meth c T locs cells slots) (h1 : cells = k') (h2 : slots = n') : Stand p l e R s m args below meth c T locs k' n' := by
  subst h1
  subst h2
  exact X
theorem hW {Z : State} {a0 : Array Value} (hw : ∀ d ∈ tables_1, d.before a0 Z = true) (i : Nat) {d : Jvm.Cond} (h : tables_1[i]? = some d) : d.before a0 Z = true := hw _ (List.mem_of_getElem? h)
end Kit

/-- 1 where x is the sign of a lower hex digit -/
def own_hv (x : Int32) : Int32 := if (48 ≤ x.toInt ∧ x.toInt ≤ 57) ∨ (97 ≤ x.toInt ∧ x.toInt ≤ 102) then 1 else 0
theorem own_hv1 {x : Int32} (h : (48 ≤ x.toInt ∧ x.toInt ≤ 57) ∨ (97 ≤ x.toInt ∧ x.toInt ≤ 102)) : own_hv x = 1 := if_pos h
theorem own_hv0 {x : Int32} (h : ¬ ((48 ≤ x.toInt ∧ x.toInt ≤ 57) ∨ (97 ≤ x.toInt ∧ x.toInt ≤ 102))) : own_hv x = 0 := if_neg h
theorem own_hv01 (x : Int32) : own_hv x = 1 ∨ own_hv x = 0 := by
  by_cases h : (48 ≤ x.toInt ∧ x.toInt ≤ 57) ∨ (97 ≤ x.toInt ∧ x.toInt ≤ 102)
  · exact Or.inl (own_hv1 h)
  · exact Or.inr (own_hv0 h)
def own_bl : List Int32 := [48, 49, 50, 51, 52, 53, 54, 55, 56, 57, 97, 98, 99, 100, 101, 102, 48, 49, 50, 51, 52, 53, 54, 55, 56, 57, 97, 98, 99, 100, 101, 102, 48, 49, 50, 51, 52, 53, 54, 55, 56, 57, 97, 98]
def own_base (i : Nat) : Int32 := own_bl.getD i 0
theorem own_getD : ∀ (L : List Int32) (i : Nat), (L.map Value.int).getD i (.int 0) = .int (L.getD i 0)
  | [], _ => rfl
  | _ :: _, 0 => rfl
  | _ :: r, i + 1 => own_getD r i
theorem own_base_eq (i : Nat) : ([(.int 48), (.int 49), (.int 50), (.int 51), (.int 52), (.int 53), (.int 54), (.int 55), (.int 56), (.int 57), (.int 97), (.int 98), (.int 99), (.int 100), (.int 101), (.int 102), (.int 48), (.int 49), (.int 50), (.int 51), (.int 52), (.int 53), (.int 54), (.int 55), (.int 56), (.int 57), (.int 97), (.int 98), (.int 99), (.int 100), (.int 101), (.int 102), (.int 48), (.int 49), (.int 50), (.int 51), (.int 52), (.int 53), (.int 54), (.int 55), (.int 56), (.int 57), (.int 97), (.int 98)] : List Value).getD i (.int 0) = .int (own_base i) := own_getD own_bl i
theorem own_base_hex : ∀ i : Fin 44, own_hv (own_base i.val) = 1 := by decide +kernel
/-- a byte[44] whose places hold g -/
def Bar (Z : State) (h : Heap) (a : Addr) (g : Nat → Int32) : Prop := ∃ c : Cell, Arr Z h a c .byte ∧ c.slots.size = 44 ∧ ∀ i : Nat, i < 44 → c.slots[i]? = some (.int (g i))
/-- the table of the signs below 128 -/
def Tbl (Z : State) (h : Heap) (a : Addr) : Prop := ∃ c : Cell, Arr Z h a c .boolean ∧ c.slots.size = 128 ∧ ∀ x : Int32, 0 ≤ x.toInt → x.toInt < 128 → c.slots[x.toNatClampNeg]? = some (.int (own_hv x))
theorem own_nn {j : Int32} (h0 : 0 ≤ j.toInt) : ¬ j < 0 := by
  rw [Int32.lt_iff_toInt_lt]
  have : (0 : Int32).toInt = 0 := by decide
  omega
theorem own_nat {j : Int32} (h0 : 0 ≤ j.toInt) : j.toInt = (j.toNatClampNeg : Int) := nat_of (own_nn h0)
theorem own_lt {j : Int32} {n : Nat} (h0 : 0 ≤ j.toInt) (h1 : j.toInt < n) : j.toNatClampNeg < n := by
  have := own_nat h0
  omega
theorem own_in {c : Cell} {j : Int32} {n : Nat} (S : c.slots.size = n) (h0 : 0 ≤ j.toInt) (h1 : j.toInt < n) : ¬ (j < 0 ∨ c.slots.size ≤ j.toNatClampNeg) := fun q => by
  rcases q with q | q
  · exact own_nn h0 q
  · have := own_lt h0 h1
    omega
theorem own_nar (v : Int32) : nar .byte v.toInt8.toInt32 = v.toInt8.toInt32 := by
  show v.toInt8.toInt32.toInt8.toInt32 = v.toInt8.toInt32
  have h1 := c_i2b v
  have h2 := c_i2b v.toInt8.toInt32
  rw [← Int32.toInt_inj]
  omega
theorem own_barset {Z : State} {h h' : Heap} {a : Addr} {c : Cell} {g : Nat → Int32} {j : Nat} {v w : Int32} (A : Arr Z h a c .byte) (S : c.slots.size = 44) (H : ∀ i : Nat, i < 44 → c.slots[i]? = some (.int (g i))) (W : Wr h h' a j (.int w)) (hw : w = v) (hj : j < 44) : Bar Z h' a (fun i => if i = j then v else g i) := by
  subst hw
  refine ⟨_, Arr.same W A, by rw [sz_set]; exact S, fun i hi => ?_⟩
  by_cases q : i = j
  · subst q
    simp [Cell.setSlot, S, hi]
  · simp only [q, if_false]
    rw [← H i hi]
    simp only [Cell.setSlot]
    exact Array.getElem?_setIfInBounds_ne (fun e => q e.symm)

theorem own_ge {x : Int32} (h : ¬ (x < (0 : Int32))) : 0 ≤ x.toInt := by
  rw [Int32.lt_iff_toInt_lt] at h
  have : (0 : Int32).toInt = 0 := by decide
  omega
theorem own_inc (i p2 : Int32) (h : i < p2) : (i + (1 : Int32)).toInt = i.toInt + 1 := by
  rw [Int32.lt_iff_toInt_lt] at h
  have h1 := c_iadd i 1
  have h2 := rng32 (i + 1)
  have h3 := rng32 p2
  have h4 := rng32 i
  have e : (1 : Int32).toInt = 1 := by decide
  omega

theorem own_neg {x : Int32} (h : x < (0 : Int32)) : own_hv x ≠ 1 := by
  rw [Int32.lt_iff_toInt_lt] at h
  have e : (0 : Int32).toInt = 0 := by decide
  rw [own_hv0 (by omega)]
  decide

theorem own_base_rng : ∀ i : Fin 44, -128 ≤ (own_base i.val).toInt ∧ (own_base i.val).toInt ≤ 127 := by decide +kernel
theorem own_base_out (i : Nat) (h : 44 ≤ i) : own_base i = 0 := by
  unfold own_base
  rw [List.getD_eq_getElem?_getD, List.getElem?_eq_none (show own_bl.length ≤ i from h)]
  rfl
theorem own_bytes (j1 j2 : Nat) (v1 v2 : Int32) (i : Nat) : -128 ≤ (if i = j2 then v2.toInt8.toInt32 else if i = j1 then v1.toInt8.toInt32 else own_base i).toInt ∧ (if i = j2 then v2.toInt8.toInt32 else if i = j1 then v1.toInt8.toInt32 else own_base i).toInt ≤ 127 := by
  have h1 := c_i2b v1
  have h2 := c_i2b v2
  split
  · omega
  · split
    · omega
    · by_cases h : i < 44
      · exact own_base_rng ⟨i, h⟩
      · rw [own_base_out i (by omega)]
        decide

theorem Tbl.ext {Z : State} {h h' : Heap} {a : Addr} (T : Tbl Z h a) (E : Ext h h') : Tbl Z h' a := by
  obtain ⟨c, A, r⟩ := T
  exact ⟨c, Arr.ext E A, r⟩
theorem Tbl.other {Z : State} {h h' : Heap} {a b : Addr} {sl : Nat} {v : Value} (T : Tbl Z h b) (W : Wr h h' a sl v) (n : b ≠ a) : Tbl Z h' b := by
  obtain ⟨c, A, r⟩ := T
  exact ⟨c, Arr.other W A n, r⟩
theorem Tbl.lt {Z : State} {h : Heap} {a : Addr} (T : Tbl Z h a) : a < h.size := by
  obtain ⟨c, A, r⟩ := T
  exact A.lt

theorem own_addsub (s d : Int32) : (s + d) - s = d := by rw [Int32.add_comm, Int32.add_sub_cancel]
theorem own_h40 {s d e : Int32} (he : (s + d) = e) (hs : 0 ≤ s.toInt ∧ s.toInt ≤ 4) (hz : (e - s) = (40 : Int32)) : 0 ≤ s.toInt ∧ e.toInt = s.toInt + 40 ∧ e.toInt ≤ 44 := by
  have hd : e - s = d := by rw [← he]; exact own_addsub s d
  rw [hd] at hz
  rw [hz] at he
  have h1 := c_iadd s 40
  have h2 := rng32 (s + 40)
  rw [he] at h1 h2
  have e40 : (40 : Int32).toInt = 40 := by decide
  omega
theorem own_ok {s e q : Int32} {gg : Nat → Int32} {v o r : Int32} (h1 : (q < s ∧ v = (0 : Int32)) ∨ (¬ (q < s) ∧ q < e ∧ v = (1 : Int32)) ∨ (¬ (q < s) ∧ ¬ (q < e) ∧ v = (0 : Int32)))
    (h2 : (v = (0 : Int32) ∧ o = (1 : Int32)) ∨ (¬ (v = (0 : Int32)) ∧ r = own_hv (gg (q).toNatClampNeg) ∧ r = (0 : Int32) ∧ o = (0 : Int32)) ∨ (¬ (v = (0 : Int32)) ∧ r = own_hv (gg (q).toNatClampNeg) ∧ ¬ (r = (0 : Int32)) ∧ o = (1 : Int32))) :
    (o = 1 ∧ (s.toInt ≤ q.toInt → q.toInt < e.toInt → own_hv (gg q.toNatClampNeg) = 1)) ∨ (o = 0 ∧ s.toInt ≤ q.toInt ∧ q.toInt < e.toInt ∧ own_hv (gg q.toNatClampNeg) ≠ 1) := by
  have z : ¬ ((1 : Int32) = 0) := by decide
  have z' : ¬ ((0 : Int32) = 1) := by decide
  rcases h1 with ⟨a, b⟩ | ⟨a, b, c⟩ | ⟨a, b, c⟩
  · subst b
    rcases h2 with ⟨-, k⟩ | ⟨k, -⟩ | ⟨k, -⟩
    · refine Or.inl ⟨k, fun h _ => ?_⟩
      rw [Int32.lt_iff_toInt_lt] at a
      omega
    · exact absurd rfl k
    · exact absurd rfl k
  · subst c
    rw [Int32.lt_iff_toInt_lt] at a b
    rcases h2 with ⟨k, -⟩ | ⟨-, k1, k2, k3⟩ | ⟨-, k1, k2, k3⟩
    · exact absurd k z
    · exact Or.inr ⟨k3, by omega, b, by rw [← k1, k2]; exact z'⟩
    · refine Or.inl ⟨k3, fun _ _ => (own_hv01 _).resolve_right ?_⟩
      rw [← k1]
      exact k2
  · subst c
    rcases h2 with ⟨-, k⟩ | ⟨k, -⟩ | ⟨k, -⟩
    · refine Or.inl ⟨k, fun _ h => ?_⟩
      rw [Int32.lt_iff_toInt_lt] at b
      omega
    · exact absurd rfl k
    · exact absurd rfl k
theorem own_final {s e d q1 q2 u1 u2 i1 i2 o1 o2 r1 r2 ex r : Int32} {gg : Nat → Int32} (hgg : gg = (fun i => if i = (q2).toNatClampNeg then u2 else if i = (q1).toNatClampNeg then u1 else own_base i))
    (h40 : (e - s) = (40 : Int32) → 0 ≤ s.toInt ∧ e.toInt = s.toInt + 40 ∧ e.toInt ≤ 44) (hq1 : 0 ≤ q1.toInt ∧ q1.toInt < (44 : Nat)) (hq2 : 0 ≤ q2.toInt ∧ q2.toInt < (44 : Nat)) (he : (s + d) = e)
    (hi1 : (q1 < s ∧ i1 = (0 : Int32)) ∨ (¬ (q1 < s) ∧ q1 < e ∧ i1 = (1 : Int32)) ∨ (¬ (q1 < s) ∧ ¬ (q1 < e) ∧ i1 = (0 : Int32)))
    (hi2 : (q2 < s ∧ i2 = (0 : Int32)) ∨ (¬ (q2 < s) ∧ q2 < e ∧ i2 = (1 : Int32)) ∨ (¬ (q2 < s) ∧ ¬ (q2 < e) ∧ i2 = (0 : Int32)))
    (ho1 : (i1 = (0 : Int32) ∧ o1 = (1 : Int32)) ∨ (¬ (i1 = (0 : Int32)) ∧ r1 = own_hv (gg (q1).toNatClampNeg) ∧ r1 = (0 : Int32) ∧ o1 = (0 : Int32)) ∨ (¬ (i1 = (0 : Int32)) ∧ r1 = own_hv (gg (q1).toNatClampNeg) ∧ ¬ (r1 = (0 : Int32)) ∧ o1 = (1 : Int32)))
    (ho2 : (i2 = (0 : Int32) ∧ o2 = (1 : Int32)) ∨ (¬ (i2 = (0 : Int32)) ∧ r2 = own_hv (gg (q2).toNatClampNeg) ∧ r2 = (0 : Int32) ∧ o2 = (0 : Int32)) ∨ (¬ (i2 = (0 : Int32)) ∧ r2 = own_hv (gg (q2).toNatClampNeg) ∧ ¬ (r2 = (0 : Int32)) ∧ o2 = (1 : Int32)))
    (hx : (d = (40 : Int32) ∧ o1 = (0 : Int32) ∧ ex = (0 : Int32)) ∨ (d = (40 : Int32) ∧ ¬ (o1 = (0 : Int32)) ∧ o2 = (0 : Int32) ∧ ex = (0 : Int32)) ∨ (d = (40 : Int32) ∧ ¬ (o1 = (0 : Int32)) ∧ ¬ (o2 = (0 : Int32)) ∧ ex = (1 : Int32)) ∨ (¬ (d = (40 : Int32)) ∧ ex = (0 : Int32)))
    (hr : (r = 1 ∧ (e - s) = (40 : Int32) ∧ (∀ i : Nat, s.toInt ≤ i → i < e.toInt → own_hv (gg i) = 1)) ∨ (r = 0 ∧ ((¬ ((e - s) = (40 : Int32))) ∨ ∃ i : Nat, s.toInt ≤ i ∧ i < e.toInt ∧ own_hv (gg i) ≠ 1))) : r = ex := by
  have k1 := own_ok hi1 ho1
  have k2 := own_ok hi2 ho2
  have z : ¬ ((1 : Int32) = 0) := by decide
  have n1 := own_nat hq1.1
  have n2 := own_nat hq2.1
  have hd : e - s = d := by rw [← he]; exact own_addsub s d
  rw [hd] at h40 hr
  rcases hr with ⟨a, b, c⟩ | ⟨a, b⟩
  · have p1 : o1 = 1 := by
      rcases k1 with k | ⟨-, ka, kb, kc⟩
      · exact k.1
      · exact absurd (c _ (by omega) (by omega)) kc
    have p2 : o2 = 1 := by
      rcases k2 with k | ⟨-, ka, kb, kc⟩
      · exact k.1
      · exact absurd (c _ (by omega) (by omega)) kc
    rcases hx with ⟨-, q, -⟩ | ⟨-, -, q, -⟩ | ⟨-, -, -, q⟩ | ⟨q, -⟩
    · rw [p1] at q; exact absurd q z
    · rw [p2] at q; exact absurd q z
    · rw [a, q]
    · exact absurd b q
  · rw [a]
    rcases hx with ⟨-, -, q⟩ | ⟨-, -, -, q⟩ | ⟨hd40, m1, m2, q⟩ | ⟨-, q⟩
    · exact q.symm
    · exact q.symm
    · exfalso
      obtain ⟨f1, f2, f3⟩ := h40 hd40
      rcases b with b | ⟨i, ia, ib, ic⟩
      · exact b hd40
      · have g1 := k1.resolve_right fun k => m1 k.1
        have g2 := k2.resolve_right fun k => m2 k.1
        by_cases t2 : i = q2.toNatClampNeg
        · subst t2
          exact ic (g2.2 (by omega) (by omega))
        by_cases t1 : i = q1.toNatClampNeg
        · subst t1
          exact ic (g1.2 (by omega) (by omega))
        rw [hgg] at ic
        simp only [t1, t2, if_false] at ic
        exact ic (own_base_hex ⟨i, by omega⟩)
    · exact q.symm

theorem own_len {s : State} {args : Array Value} {t : Term} {k : Int32} {a : Addr} {cl : Cell} {ty : FieldType} (A : Arr s s.heap a cl ty) (ht : t.eval args s none [] s = some (.ref a)) (h : (Jvm.Cond.eq (.length t) (.int k)).value args s none s [] = some true) : cl.slots.size < 2 ^ 31 ∧ cl.slots.size.toInt32 = k := by
  obtain ⟨x, y, e1, e2, -, -⟩ := cmp_v (Or.inl h)
  have q : (Term.int k).eval args s none [] s = some (.int k) := rfl
  have e3 : y = .int k := by
    rw [q] at e2
    exact (Option.some.inj e2).symm
  subst e3
  have e4 : x = .int k := by
    cases x <;> simp [Cond.value, e1, q] at h
    rw [h]
  subst e4
  have ha := Arr.fin (U := s) (State.Warmed39.refl s).alike A
  by_cases hl : cl.slots.size < 2 ^ 31
  · rw [len_f ht ha hl] at e1
    exact ⟨hl, Value.int.inj (Option.some.inj e1)⟩
  · simp [Term.eval, ht, ha, hl] at e1
theorem own_arrOf_v {s : State} {args : Array Value} {t : Term} {ty : FieldType} (h : (Jvm.Cond.arrayOf t ty).value args s none s [] = some true) : ∃ a, t.eval args s none [] s = some (.ref a) := by
  cases e : t.eval args s none [] s with
  | none => simp [Cond.value, e] at h
  | some v => cases v <;> simp [Cond.value, e] at h ⊢
theorem own_or {s : State} {args : Array Value} {c d : Cond} {ix : List Nat} (h : (Jvm.Cond.or c d).value args s none s ix = some true) : c.value args s none s ix = some true ∨ d.value args s none s ix = some true := by
  simp only [Cond.value] at h
  cases hc : c.value args s none s ix with
  | none => simp [hc] at h
  | some b => cases b
              · simp [hc] at h
                exact Or.inr h
              · exact Or.inl rfl
theorem own_leI {s : State} {args : Array Value} {i : Nat} {k : Int32} (h : (Jvm.Cond.le (.int k) (.index 0)).value args s none s [i] = some true) : k.toInt ≤ i.toInt32.toInt := by
  simp [Cond.value, Term.eval] at h
  exact Int32.le_iff_toInt_le.mp h
theorem own_ltI {s : State} {args : Array Value} {i : Nat} {k : Int32} (h : (Jvm.Cond.lt (.index 0) (.int k)).value args s none s [i] = some true) : i.toInt32.toInt < k.toInt := by
  simp [Cond.value, Term.eval] at h
  exact Int32.lt_iff_toInt_lt.mp h
theorem own_elI {s : State} {args : Array Value} {t : Term} {i : Nat} {k : Int32} {a : Addr} {cl : Cell} {ty : FieldType} (A : Arr s s.heap a cl ty) (ht : t.eval args s none [i] s = some (.ref a)) (hn : ¬ i.toInt32 < 0) (h : (Jvm.Cond.eq (.elem t (.index 0)) (.int k)).value args s none s [i] = some true) : cl.slots[i.toInt32.toNatClampNeg]? = some (.int k) := by
  obtain ⟨x, y, e1, e2, -, -⟩ := cmp_v (Or.inl h)
  have q : (Term.int k).eval args s none [i] s = some (.int k) := rfl
  have e3 : y = .int k := by
    rw [q] at e2
    exact (Option.some.inj e2).symm
  subst e3
  have e4 : x = .int k := by
    cases x <;> simp [Cond.value, e1, q] at h
    rw [h]
  subst e4
  have ha := Arr.fin (U := s) (State.Warmed39.refl s).alike A
  rw [elem_f ht rfl ha hn] at e1
  exact e1
theorem own_tbl {s : State} {args : Array Value} {a : Addr} {cl : Cell} {C f d : String} (A : Arr s s.heap a cl .boolean) (ht : (Term.static C f d).eval args s none [] s = some (.ref a)) (hl : cl.slots.size < 2 ^ 31 ∧ cl.slots.size.toInt32 = 128)
    (h1 : (Jvm.Cond.all (.static C f d) (.or (.le (.int 48) (.index 0)) (.eq (.elem (.static C f d) (.index 0)) (.int 0)))).value args s none s [] = some true)
    (h2 : (Jvm.Cond.all (.static C f d) (.or (.lt (.index 0) (.int 48)) (.or (.le (.int 58) (.index 0)) (.eq (.elem (.static C f d) (.index 0)) (.int 1))))).value args s none s [] = some true)
    (h3 : (Jvm.Cond.all (.static C f d) (.or (.lt (.index 0) (.int 58)) (.or (.le (.int 97) (.index 0)) (.eq (.elem (.static C f d) (.index 0)) (.int 0))))).value args s none s [] = some true)
    (h4 : (Jvm.Cond.all (.static C f d) (.or (.lt (.index 0) (.int 97)) (.or (.le (.int 103) (.index 0)) (.eq (.elem (.static C f d) (.index 0)) (.int 1))))).value args s none s [] = some true)
    (h5 : (Jvm.Cond.all (.static C f d) (.or (.lt (.index 0) (.int 103)) (.eq (.elem (.static C f d) (.index 0)) (.int 0)))).value args s none s [] = some true) : Tbl s s.heap a := by
  have hz : cl.slots.size = 128 := by
    have e1 := congrArg Int32.toInt hl.2
    have e2 : (128 : Int32).toInt = 128 := by decide
    have e3 : cl.slots.size.toInt32.toInt = (cl.slots.size : Int) := Int32.toInt_ofNat_of_lt hl.1
    omega
  have ha := Arr.fin (U := s) (State.Warmed39.refl s).alike A
  refine ⟨cl, A, hz, fun x x0 x1 => ?_⟩
  have hi : x.toNatClampNeg < cl.slots.size := by rw [hz]; exact own_lt x0 x1
  have hx : x.toNatClampNeg.toInt32 = x := by
    rw [← Int32.toInt_inj]
    have e3 : x.toNatClampNeg.toInt32.toInt = (x.toNatClampNeg : Int) := Int32.toInt_ofNat_of_lt (by omega)
    rw [e3]
    exact (own_nat x0).symm
  have ht' : (Term.static C f d).eval args s none [x.toNatClampNeg] s = some (.ref a) := ht
  have hn : ¬ x.toNatClampNeg.toInt32 < 0 := by rw [hx]; exact own_nn x0
  have q1 := own_or (Jvm.Cond.all_elim ht ha h1 _ hi)
  have q2 := own_or (Jvm.Cond.all_elim ht ha h2 _ hi)
  have q3 := own_or (Jvm.Cond.all_elim ht ha h3 _ hi)
  have q4 := own_or (Jvm.Cond.all_elim ht ha h4 _ hi)
  have q5 := own_or (Jvm.Cond.all_elim ht ha h5 _ hi)
  have e48 : (48 : Int32).toInt = 48 := by decide
  have e58 : (58 : Int32).toInt = 58 := by decide
  have e97 : (97 : Int32).toInt = 97 := by decide
  have e103 : (103 : Int32).toInt = 103 := by decide
  have E : ∀ k : Int32, (Jvm.Cond.eq (.elem (.static C f d) (.index 0)) (.int k)).value args s none s [x.toNatClampNeg] = some true → cl.slots[x.toNatClampNeg]? = some (.int k) := fun k h => by
    have := own_elI A ht' hn h
    rwa [hx] at this
  have LE : ∀ k : Int32, (Jvm.Cond.le (.int k) (.index 0)).value args s none s [x.toNatClampNeg] = some true → k.toInt ≤ x.toInt := fun k h => by
    have := own_leI h
    rwa [hx] at this
  have LT : ∀ k : Int32, (Jvm.Cond.lt (.index 0) (.int k)).value args s none s [x.toNatClampNeg] = some true → x.toInt < k.toInt := fun k h => by
    have := own_ltI h
    rwa [hx] at this
  by_cases c1 : x.toInt < 48
  · rw [own_hv0 (by omega)]
    rcases q1 with q | q
    · have := LE _ q
      omega
    · exact E _ q
  by_cases c2 : x.toInt < 58
  · rw [own_hv1 (by omega)]
    rcases q2 with q | q
    · have := LT _ q
      omega
    rcases own_or q with q | q
    · have := LE _ q
      omega
    · exact E _ q
  by_cases c3 : x.toInt < 97
  · rw [own_hv0 (by omega)]
    rcases q3 with q | q
    · have := LT _ q
      omega
    rcases own_or q with q | q
    · have := LE _ q
      omega
    · exact E _ q
  by_cases c4 : x.toInt < 103
  · rw [own_hv1 (by omega)]
    rcases q4 with q | q
    · have := LT _ q
      omega
    rcases own_or q with q | q
    · have := LE _ q
      omega
    · exact E _ q
  · rw [own_hv0 (by omega)]
    rcases q5 with q | q
    · have := LT _ q
      omega
    · exact E _ q

abbrev la0 (a0 : Addr) (a1 : Int32) (a2 : Int32) : Array Slot := #[.val (.ref a0), .val (.int a1), .val (.int a2), .unset, .unset]
abbrev la1 (a0 : Addr) (a1 : Int32) (a2 : Int32) (a3 : Int32) : Array Slot := #[.val (.ref a0), .val (.int a1), .val (.int a2), .val (.int a3), .unset]
abbrev la2 (a0 : Addr) (a1 : Int32) (a2 : Int32) (a3 : Int32) (a4 : Int32) : Array Slot := #[.val (.ref a0), .val (.int a1), .val (.int a2), .val (.int a3), .val (.int a4)]
abbrev la3 (a0 : Int32) (a1 : Int32) (a2 : Int32) (a3 : Int32) (a4 : Int32) (a5 : Int32) : Array Slot := #[.val (.int a0), .val (.int a1), .val (.int a2), .val (.int a3), .val (.int a4), .val (.int a5), .unset, .unset, .unset, .unset, .unset, .unset, .unset, .unset, .unset, .unset, .unset, .unset]
abbrev la4 (a0 : Int32) (a1 : Int32) (a2 : Int32) (a3 : Int32) (a4 : Int32) (a5 : Int32) (a6 : Addr) : Array Slot := #[.val (.int a0), .val (.int a1), .val (.int a2), .val (.int a3), .val (.int a4), .val (.int a5), .val (.ref a6), .unset, .unset, .unset, .unset, .unset, .unset, .unset, .unset, .unset, .unset, .unset]
abbrev la5 (a0 : Int32) (a1 : Int32) (a2 : Int32) (a3 : Int32) (a4 : Int32) (a5 : Int32) (a6 : Addr) (a7 : Int32) : Array Slot := #[.val (.int a0), .val (.int a1), .val (.int a2), .val (.int a3), .val (.int a4), .val (.int a5), .val (.ref a6), .val (.int a7), .unset, .unset, .unset, .unset, .unset, .unset, .unset, .unset, .unset, .unset]
abbrev la6 (a0 : Int32) (a1 : Int32) (a2 : Int32) (a3 : Int32) (a4 : Int32) (a5 : Int32) (a6 : Addr) (a7 : Int32) (a8 : Int32) : Array Slot := #[.val (.int a0), .val (.int a1), .val (.int a2), .val (.int a3), .val (.int a4), .val (.int a5), .val (.ref a6), .val (.int a7), .val (.int a8), .unset, .unset, .unset, .unset, .unset, .unset, .unset, .unset, .unset]
abbrev la7 (a0 : Int32) (a1 : Int32) (a2 : Int32) (a3 : Int32) (a4 : Int32) (a5 : Int32) (a6 : Addr) (a7 : Int32) (a8 : Int32) (a9 : Int32) : Array Slot := #[.val (.int a0), .val (.int a1), .val (.int a2), .val (.int a3), .val (.int a4), .val (.int a5), .val (.ref a6), .val (.int a7), .val (.int a8), .val (.int a9), .unset, .unset, .unset, .unset, .unset, .unset, .unset, .unset]
abbrev la8 (a0 : Int32) (a1 : Int32) (a2 : Int32) (a3 : Int32) (a4 : Int32) (a5 : Int32) (a6 : Addr) (a7 : Int32) (a8 : Int32) (a9 : Int32) (a10 : Int32) : Array Slot := #[.val (.int a0), .val (.int a1), .val (.int a2), .val (.int a3), .val (.int a4), .val (.int a5), .val (.ref a6), .val (.int a7), .val (.int a8), .val (.int a9), .val (.int a10), .unset, .unset, .unset, .unset, .unset, .unset, .unset]
abbrev la9 (a0 : Int32) (a1 : Int32) (a2 : Int32) (a3 : Int32) (a4 : Int32) (a5 : Int32) (a6 : Addr) (a7 : Int32) (a8 : Int32) (a9 : Int32) (a10 : Int32) (a11 : Int32) : Array Slot := #[.val (.int a0), .val (.int a1), .val (.int a2), .val (.int a3), .val (.int a4), .val (.int a5), .val (.ref a6), .val (.int a7), .val (.int a8), .val (.int a9), .val (.int a10), .val (.int a11), .unset, .unset, .unset, .unset, .unset, .unset]
abbrev la10 (a0 : Int32) (a1 : Int32) (a2 : Int32) (a3 : Int32) (a4 : Int32) (a5 : Int32) (a6 : Addr) (a7 : Int32) (a8 : Int32) (a9 : Int32) (a10 : Int32) (a11 : Int32) (a12 : Int32) : Array Slot := #[.val (.int a0), .val (.int a1), .val (.int a2), .val (.int a3), .val (.int a4), .val (.int a5), .val (.ref a6), .val (.int a7), .val (.int a8), .val (.int a9), .val (.int a10), .val (.int a11), .val (.int a12), .unset, .unset, .unset, .unset, .unset]
abbrev la11 (a0 : Int32) (a1 : Int32) (a2 : Int32) (a3 : Int32) (a4 : Int32) (a5 : Int32) (a6 : Addr) (a7 : Int32) (a8 : Int32) (a9 : Int32) (a10 : Int32) (a11 : Int32) (a12 : Int32) (a13 : Int32) : Array Slot := #[.val (.int a0), .val (.int a1), .val (.int a2), .val (.int a3), .val (.int a4), .val (.int a5), .val (.ref a6), .val (.int a7), .val (.int a8), .val (.int a9), .val (.int a10), .val (.int a11), .val (.int a12), .val (.int a13), .unset, .unset, .unset, .unset]
abbrev la12 (a0 : Int32) (a1 : Int32) (a2 : Int32) (a3 : Int32) (a4 : Int32) (a5 : Int32) (a6 : Addr) (a7 : Int32) (a8 : Int32) (a9 : Int32) (a10 : Int32) (a11 : Int32) (a12 : Int32) (a13 : Int32) (a14 : Int32) : Array Slot := #[.val (.int a0), .val (.int a1), .val (.int a2), .val (.int a3), .val (.int a4), .val (.int a5), .val (.ref a6), .val (.int a7), .val (.int a8), .val (.int a9), .val (.int a10), .val (.int a11), .val (.int a12), .val (.int a13), .val (.int a14), .unset, .unset, .unset]
abbrev la13 (a0 : Int32) (a1 : Int32) (a2 : Int32) (a3 : Int32) (a4 : Int32) (a5 : Int32) (a6 : Addr) (a7 : Int32) (a8 : Int32) (a9 : Int32) (a10 : Int32) (a11 : Int32) (a12 : Int32) (a13 : Int32) (a14 : Int32) (a15 : Int32) : Array Slot := #[.val (.int a0), .val (.int a1), .val (.int a2), .val (.int a3), .val (.int a4), .val (.int a5), .val (.ref a6), .val (.int a7), .val (.int a8), .val (.int a9), .val (.int a10), .val (.int a11), .val (.int a12), .val (.int a13), .val (.int a14), .val (.int a15), .unset, .unset]
abbrev la14 (a0 : Int32) (a1 : Int32) (a2 : Int32) (a3 : Int32) (a4 : Int32) (a5 : Int32) (a6 : Addr) (a7 : Int32) (a8 : Int32) (a9 : Int32) (a10 : Int32) (a11 : Int32) (a12 : Int32) (a13 : Int32) (a14 : Int32) (a15 : Int32) (a16 : Int32) : Array Slot := #[.val (.int a0), .val (.int a1), .val (.int a2), .val (.int a3), .val (.int a4), .val (.int a5), .val (.ref a6), .val (.int a7), .val (.int a8), .val (.int a9), .val (.int a10), .val (.int a11), .val (.int a12), .val (.int a13), .val (.int a14), .val (.int a15), .val (.int a16), .unset]
abbrev la15 (a0 : Int32) (a1 : Int32) (a2 : Int32) (a3 : Int32) (a4 : Int32) (a5 : Int32) (a6 : Addr) (a7 : Int32) (a8 : Int32) (a9 : Int32) (a10 : Int32) (a11 : Int32) (a12 : Int32) (a13 : Int32) (a14 : Int32) (a15 : Int32) (a16 : Int32) (a17 : Int32) : Array Slot := #[.val (.int a0), .val (.int a1), .val (.int a2), .val (.int a3), .val (.int a4), .val (.int a5), .val (.ref a6), .val (.int a7), .val (.int a8), .val (.int a9), .val (.int a10), .val (.int a11), .val (.int a12), .val (.int a13), .val (.int a14), .val (.int a15), .val (.int a16), .val (.int a17)]
theorem d2_0 : decode method_2_code 0 = .ok (.iload_n 0, 1) := by decide +kernel
theorem d2_1 : decode method_2_code 1 = .ok (.bipush 48, 2) := by decide +kernel
theorem d2_3 : decode method_2_code 3 = .ok (.if_icmp .lt 9, 3) := by decide +kernel
theorem d2_6 : decode method_2_code 6 = .ok (.iload_n 0, 1) := by decide +kernel
theorem d2_7 : decode method_2_code 7 = .ok (.bipush 57, 2) := by decide +kernel
theorem d2_9 : decode method_2_code 9 = .ok (.if_icmp .le 15, 3) := by decide +kernel
theorem d2_12 : decode method_2_code 12 = .ok (.iload_n 0, 1) := by decide +kernel
theorem d2_13 : decode method_2_code 13 = .ok (.bipush 97, 2) := by decide +kernel
theorem d2_15 : decode method_2_code 15 = .ok (.if_icmp .lt 13, 3) := by decide +kernel
theorem d2_18 : decode method_2_code 18 = .ok (.iload_n 0, 1) := by decide +kernel
theorem d2_19 : decode method_2_code 19 = .ok (.bipush 102, 2) := by decide +kernel
theorem d2_21 : decode method_2_code 21 = .ok (.if_icmp .gt 7, 3) := by decide +kernel
theorem d2_24 : decode method_2_code 24 = .ok (.iconst 1, 1) := by decide +kernel
theorem d2_25 : decode method_2_code 25 = .ok (.goto 4, 3) := by decide +kernel
theorem d2_28 : decode method_2_code 28 = .ok (.iconst 0, 1) := by decide +kernel
theorem d2_29 : decode method_2_code 29 = .ok (.ireturn, 1) := by decide +kernel
theorem ef_2 (m : MethodId) (x0 : Int32) : entryFrame m #[(.int x0)] 1 = mkF m 0 #[.val (.int x0)] [] := by first | (simp [entryFrame, mkF, argsToLocals, Value.category]; done) | rfl
def Q2 (Z : State) (p0 : Int32) (h0 : Heap) (n0 : Nat) (v : Option Value) (h : Heap) (L : List Loc) : Prop := ∃ r : Int32, v = some (.int r) ∧ (r = own_hv p0) ∧ Fr n0 L ∧ h = h0
theorem lf_2_0 (p0 : Int32) (hc3_1 : p0 < (48 : Int32)) (hc15_2 : p0 < (97 : Int32)) : (0 : Int32) = own_hv p0 := by
  have e48 : (48 : Int32).toInt = 48 := by decide
  have e57 : (57 : Int32).toInt = 57 := by decide
  have e97 : (97 : Int32).toInt = 97 := by decide
  have e102 : (102 : Int32).toInt = 102 := by decide
  simp only [Int32.lt_iff_toInt_lt] at *
  first | exact (own_hv1 (by omega)).symm | exact (own_hv0 (by omega)).symm
theorem lf_2_1 (p0 : Int32) (hc3_1 : p0 < (48 : Int32)) (hc15_2 : ¬ (p0 < (97 : Int32))) (hc21_3 : (102 : Int32) < p0) : (0 : Int32) = own_hv p0 := by
  have e48 : (48 : Int32).toInt = 48 := by decide
  have e57 : (57 : Int32).toInt = 57 := by decide
  have e97 : (97 : Int32).toInt = 97 := by decide
  have e102 : (102 : Int32).toInt = 102 := by decide
  simp only [Int32.lt_iff_toInt_lt] at *
  first | exact (own_hv1 (by omega)).symm | exact (own_hv0 (by omega)).symm
theorem lf_2_2 (p0 : Int32) (hc3_1 : p0 < (48 : Int32)) (hc15_2 : ¬ (p0 < (97 : Int32))) (hc21_3 : ¬ ((102 : Int32) < p0)) : (1 : Int32) = own_hv p0 := by
  have e48 : (48 : Int32).toInt = 48 := by decide
  have e57 : (57 : Int32).toInt = 57 := by decide
  have e97 : (97 : Int32).toInt = 97 := by decide
  have e102 : (102 : Int32).toInt = 102 := by decide
  simp only [Int32.lt_iff_toInt_lt] at *
  first | exact (own_hv1 (by omega)).symm | exact (own_hv0 (by omega)).symm
theorem lf_2_3 (p0 : Int32) (hc3_1 : ¬ (p0 < (48 : Int32))) (hc9_4 : (57 : Int32) < p0) (hc15_5 : p0 < (97 : Int32)) : (0 : Int32) = own_hv p0 := by
  have e48 : (48 : Int32).toInt = 48 := by decide
  have e57 : (57 : Int32).toInt = 57 := by decide
  have e97 : (97 : Int32).toInt = 97 := by decide
  have e102 : (102 : Int32).toInt = 102 := by decide
  simp only [Int32.lt_iff_toInt_lt] at *
  first | exact (own_hv1 (by omega)).symm | exact (own_hv0 (by omega)).symm
theorem lf_2_4 (p0 : Int32) (hc3_1 : ¬ (p0 < (48 : Int32))) (hc9_4 : (57 : Int32) < p0) (hc15_5 : ¬ (p0 < (97 : Int32))) (hc21_6 : (102 : Int32) < p0) : (0 : Int32) = own_hv p0 := by
  have e48 : (48 : Int32).toInt = 48 := by decide
  have e57 : (57 : Int32).toInt = 57 := by decide
  have e97 : (97 : Int32).toInt = 97 := by decide
  have e102 : (102 : Int32).toInt = 102 := by decide
  simp only [Int32.lt_iff_toInt_lt] at *
  first | exact (own_hv1 (by omega)).symm | exact (own_hv0 (by omega)).symm
theorem lf_2_5 (p0 : Int32) (hc3_1 : ¬ (p0 < (48 : Int32))) (hc9_4 : (57 : Int32) < p0) (hc15_5 : ¬ (p0 < (97 : Int32))) (hc21_6 : ¬ ((102 : Int32) < p0)) : (1 : Int32) = own_hv p0 := by
  have e48 : (48 : Int32).toInt = 48 := by decide
  have e57 : (57 : Int32).toInt = 57 := by decide
  have e97 : (97 : Int32).toInt = 97 := by decide
  have e102 : (102 : Int32).toInt = 102 := by decide
  simp only [Int32.lt_iff_toInt_lt] at *
  first | exact (own_hv1 (by omega)).symm | exact (own_hv0 (by omega)).symm
theorem lf_2_6 (p0 : Int32) (hc3_1 : ¬ (p0 < (48 : Int32))) (hc9_4 : ¬ ((57 : Int32) < p0)) : (1 : Int32) = own_hv p0 := by
  have e48 : (48 : Int32).toInt = 48 := by decide
  have e57 : (57 : Int32).toInt = 57 := by decide
  have e97 : (97 : Int32).toInt = 97 := by decide
  have e102 : (102 : Int32).toInt = 102 := by decide
  simp only [Int32.lt_iff_toInt_lt] at *
  first | exact (own_hv1 (by omega)).symm | exact (own_hv0 (by omega)).symm
set_option maxRecDepth 65536 in
set_option maxHeartbeats 40000000 in
theorem rm2 (l : Launch) (Z : State) (a0 : Array Value) (hw : ∀ d ∈ tables_1, d.before a0 Z = true) (ws : List Jvm.Cond) (p0 : Int32) (h0 : Heap) (n0 : Nat) (Z0 : n0 ≤ h0.size) :
    MetFree l (⟨"com/example/cairnlog/cairnlog/ContentIdIsWellFormedPinLaw", "isLowerHex", "(B)Z"⟩ : MethodName) (head1 (Jvm.Cond.code (⟨"com/example/cairnlog/cairnlog/ContentIdIsWellFormedPinLaw", "isLowerHex", "(B)Z"⟩ : MethodName) method_2_code 1 (some .boolean) :: ws) ({ frames := 0, cells := 0, slots := 0, locals := 0 } : Room)) (fun a U => a = #[(.int p0)] ∧ Z.Warmed39 U.vm ∧ U.heap = h0) (fun _ _ _ _ _ => True) (fun _ U o U' => ∃ v L, o = .returned v ∧ Q2 Z p0 h0 n0 v U'.heap L ∧ FrameEnd U o U' L ({ frames := 0, cells := 0, slots := 0, locals := 0 } : Room).cells ({ frames := 0, cells := 0, slots := 0, locals := 0 } : Room).slots) := by
  refine MetFree.of_bodySF (plainFor_of_name (by first | (simp [plainName, overriddenIn]; done) | decide +kernel)) hisR ?_
  intro p e s m args below meth c s₁ Bd hml0 hP hK
  obtain ⟨rfl, hZ, hh⟩ := hP
  have hx := Bd.exec
  have hby := Bd.bytes
  have hml : c.maxLocals = 1 := hml0
  have hown : s.vm.findClass "com/example/cairnlog/cairnlog/ContentIdIsWellFormedPinLaw" = some m.cls := findClass_of_methodNamed Bd.named
  have hnm := (name_of_methodNamed Bd.named Bd.method).1
  have hlk := BodyLoose.notSynchronized Bd
  have X0 : Stand p l e ({ frames := 0, cells := 0, slots := 0, locals := 0 } : Room) s m #[(.int p0)] below meth c s₁ [] 0 0 := Stand.of_body Bd
  have e0 : s₁.heap = h0 := by rw [← hh, Bd.state]; rfl
  have N0 := Fr.nil n0
  show Go p e below s (Q2 Z p0 h0 n0) 0 0 (s₁.setTop (entryFrame m #[(.int p0)] 1))
  rw [ef_2]
  show gO (tF s₁ m 0 #[.val (.int p0)] [])
  refine gob (fun _ k => XS.iloadN X0.here hx rfl (hb hby d2_0) rfl k) ?_
  show gO (tF s₁ m 1 #[.val (.int p0)] [(.int p0)])
  refine gob (fun _ k => XS.bipush X0.here hx rfl (hb hby d2_1) k) ?_
  show gO (tF s₁ m 3 #[.val (.int p0)] [(.int 48), (.int p0)])
  by_cases hc3_1 : p0 < (48 : Int32)
  · skip
    refine gob (fun _ k => XS.icmpYes X0.here hx rfl (pc0 := 3) (pc' := 12) rfl (hb hby d2_3) rfl (tlt hc3_1).1 (by decide) (by decide) k) ?_
    show gO (tF s₁ m 12 #[.val (.int p0)] [])
    refine gob (fun _ k => XS.iloadN X0.here hx rfl (hb hby d2_12) rfl k) ?_
    show gO (tF s₁ m 13 #[.val (.int p0)] [(.int p0)])
    refine gob (fun _ k => XS.bipush X0.here hx rfl (hb hby d2_13) k) ?_
    show gO (tF s₁ m 15 #[.val (.int p0)] [(.int 97), (.int p0)])
    by_cases hc15_2 : p0 < (97 : Int32)
    · skip
      refine gob (fun _ k => XS.icmpYes X0.here hx rfl (pc0 := 15) (pc' := 28) rfl (hb hby d2_15) rfl (tlt hc15_2).1 (by decide) (by decide) k) ?_
      show gO (tF s₁ m 28 #[.val (.int p0)] [])
      refine gob (fun _ k => XS.iconst X0.here hx rfl (hb hby d2_28) k) ?_
      show gO (tF s₁ m 29 #[.val (.int p0)] [(.int 0)])
      refine goZ X0 hx hlk (t := .boolean) Bd.returns (by simp) (hb hby d2_29) (z' := (0 : Int32)) rfl ?_ (by decide) (by decide)
      show Q2 Z p0 h0 n0 (some (.int (0 : Int32))) s₁.heap _
      exact ⟨(0 : Int32), rfl, lf_2_0 p0 hc3_1 hc15_2, N0, e0⟩
    · skip
      refine gob (fun _ k => XS.icmpNo X0.here hx rfl (hb hby d2_15) rfl (flt hc15_2).1 k) ?_
      show gO (tF s₁ m 18 #[.val (.int p0)] [])
      refine gob (fun _ k => XS.iloadN X0.here hx rfl (hb hby d2_18) rfl k) ?_
      show gO (tF s₁ m 19 #[.val (.int p0)] [(.int p0)])
      refine gob (fun _ k => XS.bipush X0.here hx rfl (hb hby d2_19) k) ?_
      show gO (tF s₁ m 21 #[.val (.int p0)] [(.int 102), (.int p0)])
      by_cases hc21_3 : (102 : Int32) < p0
      · skip
        refine gob (fun _ k => XS.icmpYes X0.here hx rfl (pc0 := 21) (pc' := 28) rfl (hb hby d2_21) rfl (tlt hc21_3).2.2.1 (by decide) (by decide) k) ?_
        show gO (tF s₁ m 28 #[.val (.int p0)] [])
        refine gob (fun _ k => XS.iconst X0.here hx rfl (hb hby d2_28) k) ?_
        show gO (tF s₁ m 29 #[.val (.int p0)] [(.int 0)])
        refine goZ X0 hx hlk (t := .boolean) Bd.returns (by simp) (hb hby d2_29) (z' := (0 : Int32)) rfl ?_ (by decide) (by decide)
        show Q2 Z p0 h0 n0 (some (.int (0 : Int32))) s₁.heap _
        exact ⟨(0 : Int32), rfl, lf_2_1 p0 hc3_1 hc15_2 hc21_3, N0, e0⟩
      · skip
        refine gob (fun _ k => XS.icmpNo X0.here hx rfl (hb hby d2_21) rfl (flt hc21_3).2.2.1 k) ?_
        show gO (tF s₁ m 24 #[.val (.int p0)] [])
        refine gob (fun _ k => XS.iconst X0.here hx rfl (hb hby d2_24) k) ?_
        show gO (tF s₁ m 25 #[.val (.int p0)] [(.int 1)])
        refine gob (fun _ k => XS.goto X0.here hx rfl (pc0 := 25) (pc' := 29) rfl (hb hby d2_25) (by decide) (by decide) k) ?_
        show gO (tF s₁ m 29 #[.val (.int p0)] [(.int 1)])
        refine goZ X0 hx hlk (t := .boolean) Bd.returns (by simp) (hb hby d2_29) (z' := (1 : Int32)) rfl ?_ (by decide) (by decide)
        show Q2 Z p0 h0 n0 (some (.int (1 : Int32))) s₁.heap _
        exact ⟨(1 : Int32), rfl, lf_2_2 p0 hc3_1 hc15_2 hc21_3, N0, e0⟩
  · skip
    refine gob (fun _ k => XS.icmpNo X0.here hx rfl (hb hby d2_3) rfl (flt hc3_1).1 k) ?_
    show gO (tF s₁ m 6 #[.val (.int p0)] [])
    refine gob (fun _ k => XS.iloadN X0.here hx rfl (hb hby d2_6) rfl k) ?_
    show gO (tF s₁ m 7 #[.val (.int p0)] [(.int p0)])
    refine gob (fun _ k => XS.bipush X0.here hx rfl (hb hby d2_7) k) ?_
    show gO (tF s₁ m 9 #[.val (.int p0)] [(.int 57), (.int p0)])
    by_cases hc9_4 : (57 : Int32) < p0
    · skip
      refine gob (fun _ k => XS.icmpNo X0.here hx rfl (hb hby d2_9) rfl (tlt hc9_4).2.2.2 k) ?_
      show gO (tF s₁ m 12 #[.val (.int p0)] [])
      refine gob (fun _ k => XS.iloadN X0.here hx rfl (hb hby d2_12) rfl k) ?_
      show gO (tF s₁ m 13 #[.val (.int p0)] [(.int p0)])
      refine gob (fun _ k => XS.bipush X0.here hx rfl (hb hby d2_13) k) ?_
      show gO (tF s₁ m 15 #[.val (.int p0)] [(.int 97), (.int p0)])
      by_cases hc15_5 : p0 < (97 : Int32)
      · skip
        refine gob (fun _ k => XS.icmpYes X0.here hx rfl (pc0 := 15) (pc' := 28) rfl (hb hby d2_15) rfl (tlt hc15_5).1 (by decide) (by decide) k) ?_
        show gO (tF s₁ m 28 #[.val (.int p0)] [])
        refine gob (fun _ k => XS.iconst X0.here hx rfl (hb hby d2_28) k) ?_
        show gO (tF s₁ m 29 #[.val (.int p0)] [(.int 0)])
        refine goZ X0 hx hlk (t := .boolean) Bd.returns (by simp) (hb hby d2_29) (z' := (0 : Int32)) rfl ?_ (by decide) (by decide)
        show Q2 Z p0 h0 n0 (some (.int (0 : Int32))) s₁.heap _
        exact ⟨(0 : Int32), rfl, lf_2_3 p0 hc3_1 hc9_4 hc15_5, N0, e0⟩
      · skip
        refine gob (fun _ k => XS.icmpNo X0.here hx rfl (hb hby d2_15) rfl (flt hc15_5).1 k) ?_
        show gO (tF s₁ m 18 #[.val (.int p0)] [])
        refine gob (fun _ k => XS.iloadN X0.here hx rfl (hb hby d2_18) rfl k) ?_
        show gO (tF s₁ m 19 #[.val (.int p0)] [(.int p0)])
        refine gob (fun _ k => XS.bipush X0.here hx rfl (hb hby d2_19) k) ?_
        show gO (tF s₁ m 21 #[.val (.int p0)] [(.int 102), (.int p0)])
        by_cases hc21_6 : (102 : Int32) < p0
        · skip
          refine gob (fun _ k => XS.icmpYes X0.here hx rfl (pc0 := 21) (pc' := 28) rfl (hb hby d2_21) rfl (tlt hc21_6).2.2.1 (by decide) (by decide) k) ?_
          show gO (tF s₁ m 28 #[.val (.int p0)] [])
          refine gob (fun _ k => XS.iconst X0.here hx rfl (hb hby d2_28) k) ?_
          show gO (tF s₁ m 29 #[.val (.int p0)] [(.int 0)])
          refine goZ X0 hx hlk (t := .boolean) Bd.returns (by simp) (hb hby d2_29) (z' := (0 : Int32)) rfl ?_ (by decide) (by decide)
          show Q2 Z p0 h0 n0 (some (.int (0 : Int32))) s₁.heap _
          exact ⟨(0 : Int32), rfl, lf_2_4 p0 hc3_1 hc9_4 hc15_5 hc21_6, N0, e0⟩
        · skip
          refine gob (fun _ k => XS.icmpNo X0.here hx rfl (hb hby d2_21) rfl (flt hc21_6).2.2.1 k) ?_
          show gO (tF s₁ m 24 #[.val (.int p0)] [])
          refine gob (fun _ k => XS.iconst X0.here hx rfl (hb hby d2_24) k) ?_
          show gO (tF s₁ m 25 #[.val (.int p0)] [(.int 1)])
          refine gob (fun _ k => XS.goto X0.here hx rfl (pc0 := 25) (pc' := 29) rfl (hb hby d2_25) (by decide) (by decide) k) ?_
          show gO (tF s₁ m 29 #[.val (.int p0)] [(.int 1)])
          refine goZ X0 hx hlk (t := .boolean) Bd.returns (by simp) (hb hby d2_29) (z' := (1 : Int32)) rfl ?_ (by decide) (by decide)
          show Q2 Z p0 h0 n0 (some (.int (1 : Int32))) s₁.heap _
          exact ⟨(1 : Int32), rfl, lf_2_5 p0 hc3_1 hc9_4 hc15_5 hc21_6, N0, e0⟩
    · skip
      refine gob (fun _ k => XS.icmpYes X0.here hx rfl (pc0 := 9) (pc' := 24) rfl (hb hby d2_9) rfl (flt hc9_4).2.2.2 (by decide) (by decide) k) ?_
      show gO (tF s₁ m 24 #[.val (.int p0)] [])
      refine gob (fun _ k => XS.iconst X0.here hx rfl (hb hby d2_24) k) ?_
      show gO (tF s₁ m 25 #[.val (.int p0)] [(.int 1)])
      refine gob (fun _ k => XS.goto X0.here hx rfl (pc0 := 25) (pc' := 29) rfl (hb hby d2_25) (by decide) (by decide) k) ?_
      show gO (tF s₁ m 29 #[.val (.int p0)] [(.int 1)])
      refine goZ X0 hx hlk (t := .boolean) Bd.returns (by simp) (hb hby d2_29) (z' := (1 : Int32)) rfl ?_ (by decide) (by decide)
      show Q2 Z p0 h0 n0 (some (.int (1 : Int32))) s₁.heap _
      exact ⟨(1 : Int32), rfl, lf_2_6 p0 hc3_1 hc9_4, N0, e0⟩
theorem d1_0 : decode prog_9_method_3_code 0 = .ok (.iload_n 2, 1) := by decide +kernel
theorem d1_1 : decode prog_9_method_3_code 1 = .ok (.iload_n 1, 1) := by decide +kernel
theorem d1_2 : decode prog_9_method_3_code 2 = .ok (.isub, 1) := by decide +kernel
theorem d1_3 : decode prog_9_method_3_code 3 = .ok (.bipush 40, 2) := by decide +kernel
theorem d1_5 : decode prog_9_method_3_code 5 = .ok (.if_icmp .ne 7, 3) := by decide +kernel
theorem d1_8 : decode prog_9_method_3_code 8 = .ok (.iconst 1, 1) := by decide +kernel
theorem d1_9 : decode prog_9_method_3_code 9 = .ok (.goto 4, 3) := by decide +kernel
theorem d1_12 : decode prog_9_method_3_code 12 = .ok (.iconst 0, 1) := by decide +kernel
theorem d1_13 : decode prog_9_method_3_code 13 = .ok (.istore_n 3, 1) := by decide +kernel
theorem d1_14 : decode prog_9_method_3_code 14 = .ok (.iload_n 1, 1) := by decide +kernel
theorem d1_15 : decode prog_9_method_3_code 15 = .ok (.istore 4, 2) := by decide +kernel
theorem d1_17 : decode prog_9_method_3_code 17 = .ok (.iload 4, 2) := by decide +kernel
theorem d1_19 : decode prog_9_method_3_code 19 = .ok (.iload_n 2, 1) := by decide +kernel
theorem d1_20 : decode prog_9_method_3_code 20 = .ok (.if_icmp .ge 37, 3) := by decide +kernel
theorem d1_23 : decode prog_9_method_3_code 23 = .ok (.iload_n 3, 1) := by decide +kernel
theorem d1_24 : decode prog_9_method_3_code 24 = .ok (.ifCond .eq 33, 3) := by decide +kernel
theorem d1_27 : decode prog_9_method_3_code 27 = .ok (.aload_n 0, 1) := by decide +kernel
theorem d1_28 : decode prog_9_method_3_code 28 = .ok (.iload 4, 2) := by decide +kernel
theorem d1_30 : decode prog_9_method_3_code 30 = .ok (.baload, 1) := by decide +kernel
theorem d1_31 : decode prog_9_method_3_code 31 = .ok (.ifCond .lt 18, 3) := by decide +kernel
theorem d1_34 : decode prog_9_method_3_code 34 = .ok (.getstatic 15, 3) := by decide +kernel
theorem d1_37 : decode prog_9_method_3_code 37 = .ok (.aload_n 0, 1) := by decide +kernel
theorem d1_38 : decode prog_9_method_3_code 38 = .ok (.iload 4, 2) := by decide +kernel
theorem d1_40 : decode prog_9_method_3_code 40 = .ok (.baload, 1) := by decide +kernel
theorem d1_41 : decode prog_9_method_3_code 41 = .ok (.baload, 1) := by decide +kernel
theorem d1_42 : decode prog_9_method_3_code 42 = .ok (.ifCond .eq 7, 3) := by decide +kernel
theorem d1_45 : decode prog_9_method_3_code 45 = .ok (.iconst 1, 1) := by decide +kernel
theorem d1_46 : decode prog_9_method_3_code 46 = .ok (.goto 4, 3) := by decide +kernel
theorem d1_49 : decode prog_9_method_3_code 49 = .ok (.iconst 0, 1) := by decide +kernel
theorem d1_50 : decode prog_9_method_3_code 50 = .ok (.istore_n 3, 1) := by decide +kernel
theorem d1_51 : decode prog_9_method_3_code 51 = .ok (.iinc 4 1, 3) := by decide +kernel
theorem d1_54 : decode prog_9_method_3_code 54 = .ok (.goto (-37), 3) := by decide +kernel
theorem d1_57 : decode prog_9_method_3_code 57 = .ok (.iload_n 3, 1) := by decide +kernel
theorem d1_58 : decode prog_9_method_3_code 58 = .ok (.ireturn, 1) := by decide +kernel
theorem ef_1 (m : MethodId) (x0 : Addr) (x1 : Int32) (x2 : Int32) : entryFrame m #[(.ref x0), (.int x1), (.int x2)] 5 = mkF m 0 #[.val (.ref x0), .val (.int x1), .val (.int x2), .unset, .unset] [] := by first | (simp [entryFrame, mkF, argsToLocals, Value.category]; done) | rfl
def Q1 (Z : State) (o0 : Addr) (p1 : Int32) (p2 : Int32) (g_ : Nat → Int32) (w_T : Addr) (h0 : Heap) (n0 : Nat) (v : Option Value) (h : Heap) (L : List Loc) : Prop := ∃ r : Int32, v = some (.int r) ∧ ((r = 1 ∧ (p2 - p1) = (40 : Int32) ∧ (∀ i : Nat, p1.toInt ≤ i → i < p2.toInt → own_hv (g_ i) = 1)) ∨ (r = 0 ∧ ((¬ ((p2 - p1) = (40 : Int32))) ∨ ∃ i : Nat, p1.toInt ≤ i ∧ i < p2.toInt ∧ own_hv (g_ i) ≠ 1))) ∧ Fr n0 L ∧ h = h0
set_option maxRecDepth 65536 in
set_option maxHeartbeats 40000000 in
theorem rm1 (l : Launch) (Z : State) (a0 : Array Value) (hw : ∀ d ∈ tables_1, d.before a0 Z = true) (ws : List Jvm.Cond) (o0 : Addr) (p1 : Int32) (p2 : Int32) (g_ : Nat → Int32) (w_T : Addr) (h0 : Heap) (n0 : Nat) (Z0 : n0 ≤ h0.size) (B_ : Bar Z h0 o0 g_) (S_T : Sta Z h0 "com/example/cairnlog/cairnlog/ContentId" "IN_ID" "[Z" (.ref w_T)) (TB : Tbl Z h0 w_T) (hbt : ∀ i : Nat, -128 ≤ (g_ i).toInt ∧ (g_ i).toInt ≤ 127) (hr40 : (p2 - p1) = (40 : Int32) → 0 ≤ p1.toInt ∧ p2.toInt = p1.toInt + 40 ∧ p2.toInt ≤ 44) :
    MetFree l (⟨"com/example/cairnlog/cairnlog/ContentId", "isWellFormed", "([BII)Z"⟩ : MethodName) (head1 (Jvm.Cond.code (⟨"com/example/cairnlog/cairnlog/ContentId", "isWellFormed", "([BII)Z"⟩ : MethodName) prog_9_method_3_code 5 (some .boolean) :: ws) ({ frames := 0, cells := 0, slots := 0, locals := 0 } : Room)) (fun a U => a = #[(.ref o0), (.int p1), (.int p2)] ∧ Z.Warmed39 U.vm ∧ U.heap = h0) (fun _ _ _ _ _ => True) (fun _ U o U' => ∃ v L, o = .returned v ∧ Q1 Z o0 p1 p2 g_ w_T h0 n0 v U'.heap L ∧ FrameEnd U o U' L ({ frames := 0, cells := 0, slots := 0, locals := 0 } : Room).cells ({ frames := 0, cells := 0, slots := 0, locals := 0 } : Room).slots) := by
  refine MetFree.of_bodySF (plainFor_of_name (by first | (simp [plainName, overriddenIn]; done) | decide +kernel)) hisR ?_
  intro p e s m args below meth c s₁ Bd hml0 hP hK
  obtain ⟨rfl, hZ, hh⟩ := hP
  have hx := Bd.exec
  have hby := Bd.bytes
  have hml : c.maxLocals = 5 := hml0
  have hown : s.vm.findClass "com/example/cairnlog/cairnlog/ContentId" = some m.cls := findClass_of_methodNamed Bd.named
  have hnm := (name_of_methodNamed Bd.named Bd.method).1
  have hlk := BodyLoose.notSynchronized Bd
  have X0 : Stand p l e ({ frames := 0, cells := 0, slots := 0, locals := 0 } : Room) s m #[(.ref o0), (.int p1), (.int p2)] below meth c s₁ [] 0 0 := Stand.of_body Bd
  have e0 : s₁.heap = h0 := by rw [← hh, Bd.state]; rfl
  have N0 := Fr.nil n0
  show Go p e below s (Q1 Z o0 p1 p2 g_ w_T h0 n0) 0 0 (s₁.setTop (entryFrame m #[(.ref o0), (.int p1), (.int p2)] 5))
  rw [ef_1]
  show gO (tF s₁ m 0 (la0 o0 p1 p2) [])
  refine gob (fun _ k => XS.iloadN X0.here hx rfl (hb hby d1_0) rfl k) ?_
  show gO (tF s₁ m 1 (la0 o0 p1 p2) [(.int p2)])
  refine gob (fun _ k => XS.iloadN X0.here hx rfl (hb hby d1_1) rfl k) ?_
  show gO (tF s₁ m 2 (la0 o0 p1 p2) [(.int p1), (.int p2)])
  refine gob (fun _ k => XS.isub X0.here hx rfl (hb hby d1_2) rfl k) ?_
  show gO (tF s₁ m 3 (la0 o0 p1 p2) [(.int (p2 - p1))])
  refine gob (fun _ k => XS.bipush X0.here hx rfl (hb hby d1_3) k) ?_
  show gO (tF s₁ m 5 (la0 o0 p1 p2) [(.int 40), (.int (p2 - p1))])
  by_cases hc5_1 : (p2 - p1) = (40 : Int32)
  · skip
    refine gob (fun _ k => XS.icmpNo X0.here hx rfl (hb hby d1_5) rfl (teq hc5_1).2 k) ?_
    show gO (tF s₁ m 8 (la0 o0 p1 p2) [])
    refine gob (fun _ k => XS.iconst X0.here hx rfl (hb hby d1_8) k) ?_
    show gO (tF s₁ m 9 (la0 o0 p1 p2) [(.int 1)])
    refine gob (fun _ k => XS.goto X0.here hx rfl (pc0 := 9) (pc' := 13) rfl (hb hby d1_9) (by decide) (by decide) k) ?_
    show gO (tF s₁ m 13 (la0 o0 p1 p2) [(.int 1)])
    refine gob (fun _ k => XS.istoreN X0.here hx rfl (hb hby d1_13) rfl (l' := (la1 o0 p1 p2 1)) rfl k) ?_
    show gO (tF s₁ m 14 (la1 o0 p1 p2 1) [])
    refine gob (fun _ k => XS.iloadN X0.here hx rfl (hb hby d1_14) rfl k) ?_
    show gO (tF s₁ m 15 (la1 o0 p1 p2 1) [(.int p1)])
    refine gob (fun _ k => XS.istore X0.here hx rfl (hb hby d1_15) rfl (l' := (la2 o0 p1 p2 1 p1)) rfl k) ?_
    show gO (tF s₁ m 17 (la2 o0 p1 p2 1 p1) [])
    have hlen : (p2 - p1) = (40 : Int32) := hc5_1
    have hend := hr40 hlen
    have loop : ∀ (k : Nat) (i_ : Int32) (T_ : State) (lc_ : List Loc), i_.toInt + k = p2.toInt → p1.toInt ≤ i_.toInt → (∀ j : Nat, p1.toInt ≤ j → j < i_.toInt → own_hv (g_ j) = 1) → Stand p l e ({ frames := 0, cells := 0, slots := 0, locals := 0 } : Room) s m #[(.ref o0), (.int p1), (.int p2)] below meth c T_ lc_ 0 0 → T_.heap = h0 → Fr n0 lc_ → Go p e below s (Q1 Z o0 p1 p2 g_ w_T h0 n0) 0 0 (T_.setTop (mkF m 17 (la2 o0 p1 p2 1 i_) [])) := by
      intro k
      induction k with
      | zero =>
        intro i_ T_ lc_ hk hip hall X_ e_ N_
        show gO (tF T_ m 17 (la2 o0 p1 p2 1 i_) [])
        refine gob (fun _ k => XS.iload X_.here hx rfl (hb hby d1_17) rfl k) ?_
        show gO (tF T_ m 19 (la2 o0 p1 p2 1 i_) [(.int i_)])
        refine gob (fun _ k => XS.iloadN X_.here hx rfl (hb hby d1_19) rfl k) ?_
        show gO (tF T_ m 20 (la2 o0 p1 p2 1 i_) [(.int p2), (.int i_)])
        have hd20 : ¬ (i_ < p2) := by rw [Int32.lt_iff_toInt_lt]; omega
        refine gob (fun _ k => XS.icmpYes X_.here hx rfl (pc0 := 20) (pc' := 57) rfl (hb hby d1_20) rfl (flt (hd20 : ¬ (i_ < p2))).2.1 (by decide) (by decide) k) ?_
        show gO (tF T_ m 57 (la2 o0 p1 p2 1 i_) [])
        refine gob (fun _ k => XS.iloadN X_.here hx rfl (hb hby d1_57) rfl k) ?_
        show gO (tF T_ m 58 (la2 o0 p1 p2 1 i_) [(.int 1)])
        refine goZ X_ hx hlk (t := .boolean) Bd.returns (by simp) (hb hby d1_58) (z' := (1 : Int32)) rfl ?_ (by decide) (by decide)
        show Q1 Z o0 p1 p2 g_ w_T h0 n0 (some (.int (1 : Int32))) T_.heap _
        exact ⟨(1 : Int32), rfl, Or.inl ⟨rfl, hlen, fun j h1 h2 => hall j h1 (by omega)⟩, N_, e_⟩
      | succ k ih =>
        intro i_ T_ lc_ hk hip hall X_ e_ N_
        have hlt : i_ < p2 := by rw [Int32.lt_iff_toInt_lt]; omega
        have hi0 : 0 ≤ i_.toInt := by omega
        have hi44 : i_.toInt < (44 : Nat) := by omega
        show gO (tF T_ m 17 (la2 o0 p1 p2 1 i_) [])
        refine gob (fun _ k => XS.iload X_.here hx rfl (hb hby d1_17) rfl k) ?_
        show gO (tF T_ m 19 (la2 o0 p1 p2 1 i_) [(.int i_)])
        refine gob (fun _ k => XS.iloadN X_.here hx rfl (hb hby d1_19) rfl k) ?_
        show gO (tF T_ m 20 (la2 o0 p1 p2 1 i_) [(.int p2), (.int i_)])
        refine gob (fun _ k => XS.icmpNo X_.here hx rfl (hb hby d1_20) rfl (tlt (hlt : i_ < p2)).2.1 k) ?_
        show gO (tF T_ m 23 (la2 o0 p1 p2 1 i_) [])
        refine gob (fun _ k => XS.iloadN X_.here hx rfl (hb hby d1_23) rfl k) ?_
        show gO (tF T_ m 24 (la2 o0 p1 p2 1 i_) [(.int 1)])
        refine gob (fun _ k => XS.ifNo X_.here hx rfl (hb hby d1_24) rfl ((if0 _ _).trans (feq (by decide : ¬ ((1 : Int32) = (0 : Int32)))).1) k) ?_
        show gO (tF T_ m 27 (la2 o0 p1 p2 1 i_) [])
        refine gob (fun _ k => XS.aloadN X_.here hx rfl (hb hby d1_27) rfl rfl k) ?_
        show gO (tF T_ m 28 (la2 o0 p1 p2 1 i_) [(.ref o0)])
        refine gob (fun _ k => XS.iload X_.here hx rfl (hb hby d1_28) rfl k) ?_
        show gO (tF T_ m 30 (la2 o0 p1 p2 1 i_) [(.int i_), (.ref o0)])
        obtain ⟨cb2, Ab2, Sb2, Hb2⟩ := id B_
        refine gob (X_.baloadBytes hx (j := i_) (v := (.int (g_ (i_).toNatClampNeg))) (by rw [e_]; exact Ab2.1) (State.isArrayOf_alike hZ.alike Ab2.2.1) Ab2.2.2 (own_in Sb2 hi0 hi44) (Hb2 _ (own_lt hi0 hi44)) (g := (mkF m 30 (la2 o0 p1 p2 1 i_) [(.int i_), (.ref o0)])) rfl rfl (hb hby d1_30)) ?_
        show gO (tF T_ m 31 (la2 o0 p1 p2 1 i_) [(.int (g_ (i_).toNatClampNeg))])
        by_cases hc31_3 : (g_ (i_).toNatClampNeg) < (0 : Int32)
        · skip
          refine gob (fun _ k => XS.ifYes X_.here hx rfl (pc0 := 31) (pc' := 49) rfl (hb hby d1_31) rfl ((if0 _ _).trans (tlt hc31_3).1) (by decide) (by decide) k) ?_
          show gO (tF T_ m 49 (la2 o0 p1 p2 1 i_) [])
          refine gob (fun _ k => XS.iconst X_.here hx rfl (hb hby d1_49) k) ?_
          show gO (tF T_ m 50 (la2 o0 p1 p2 1 i_) [(.int 0)])
          refine gob (fun _ k => XS.istoreN X_.here hx rfl (hb hby d1_50) rfl (l' := (la2 o0 p1 p2 0 i_)) rfl k) ?_
          show gO (tF T_ m 51 (la2 o0 p1 p2 0 i_) [])
          refine gob (fun _ k => XS.iinc X_.here hx rfl (hb hby d1_51) rfl (l' := (la2 o0 p1 p2 0 (i_ + (1 : Int32)))) rfl k) ?_
          show gO (tF T_ m 54 (la2 o0 p1 p2 0 (i_ + (1 : Int32))) [])
          refine gob (fun _ k => XS.goto X_.here hx rfl (pc0 := 54) (pc' := 17) rfl (hb hby d1_54) (by decide) (by decide) k) ?_
          show gO (tF T_ m 17 (la2 o0 p1 p2 0 (i_ + (1 : Int32))) [])
          have hbad : own_hv (g_ i_.toNatClampNeg) ≠ 1 := own_neg hc31_3
          refine gob (fun _ k => XS.iload X_.here hx rfl (hb hby d1_17) rfl k) ?_
          show gO (tF T_ m 19 (la2 o0 p1 p2 0 (i_ + (1 : Int32))) [(.int (i_ + (1 : Int32)))])
          refine gob (fun _ k => XS.iloadN X_.here hx rfl (hb hby d1_19) rfl k) ?_
          show gO (tF T_ m 20 (la2 o0 p1 p2 0 (i_ + (1 : Int32))) [(.int p2), (.int (i_ + (1 : Int32)))])
          by_cases hc20_4 : (i_ + (1 : Int32)) < p2
          · skip
            refine gob (fun _ k => XS.icmpNo X_.here hx rfl (hb hby d1_20) rfl (tlt hc20_4).2.1 k) ?_
            show gO (tF T_ m 23 (la2 o0 p1 p2 0 (i_ + (1 : Int32))) [])
            refine gob (fun _ k => XS.iloadN X_.here hx rfl (hb hby d1_23) rfl k) ?_
            show gO (tF T_ m 24 (la2 o0 p1 p2 0 (i_ + (1 : Int32))) [(.int 0)])
            refine gob (fun _ k => XS.ifYes X_.here hx rfl (pc0 := 24) (pc' := 57) rfl (hb hby d1_24) rfl ((if0 _ _).trans (teq (by decide : (0 : Int32) = (0 : Int32))).1) (by decide) (by decide) k) ?_
            show gO (tF T_ m 57 (la2 o0 p1 p2 0 (i_ + (1 : Int32))) [])
            refine gob (fun _ k => XS.iloadN X_.here hx rfl (hb hby d1_57) rfl k) ?_
            show gO (tF T_ m 58 (la2 o0 p1 p2 0 (i_ + (1 : Int32))) [(.int 0)])
            refine goZ X_ hx hlk (t := .boolean) Bd.returns (by simp) (hb hby d1_58) (z' := (0 : Int32)) rfl ?_ (by decide) (by decide)
            show Q1 Z o0 p1 p2 g_ w_T h0 n0 (some (.int (0 : Int32))) T_.heap _
            exact ⟨(0 : Int32), rfl, Or.inr ⟨rfl, Or.inr ⟨i_.toNatClampNeg, by rw [← own_nat hi0]; exact hip, by rw [← own_nat hi0]; exact Int32.lt_iff_toInt_lt.mp hlt, hbad⟩⟩, N_, e_⟩
          · skip
            refine gob (fun _ k => XS.icmpYes X_.here hx rfl (pc0 := 20) (pc' := 57) rfl (hb hby d1_20) rfl (flt hc20_4).2.1 (by decide) (by decide) k) ?_
            show gO (tF T_ m 57 (la2 o0 p1 p2 0 (i_ + (1 : Int32))) [])
            refine gob (fun _ k => XS.iloadN X_.here hx rfl (hb hby d1_57) rfl k) ?_
            show gO (tF T_ m 58 (la2 o0 p1 p2 0 (i_ + (1 : Int32))) [(.int 0)])
            refine goZ X_ hx hlk (t := .boolean) Bd.returns (by simp) (hb hby d1_58) (z' := (0 : Int32)) rfl ?_ (by decide) (by decide)
            show Q1 Z o0 p1 p2 g_ w_T h0 n0 (some (.int (0 : Int32))) T_.heap _
            exact ⟨(0 : Int32), rfl, Or.inr ⟨rfl, Or.inr ⟨i_.toNatClampNeg, by rw [← own_nat hi0]; exact hip, by rw [← own_nat hi0]; exact Int32.lt_iff_toInt_lt.mp hlt, hbad⟩⟩, N_, e_⟩
        · skip
          refine gob (fun _ k => XS.ifNo X_.here hx rfl (hb hby d1_31) rfl ((if0 _ _).trans (flt hc31_3).1) k) ?_
          show gO (tF T_ m 34 (la2 o0 p1 p2 1 i_) [])
          obtain ⟨T5, X5, e5, st5⟩ := getS2 X_ hx hZ hown (host := "") (Or.inl (hW hw 10 rfl)) Via.refl e_ S_T (g := (mkF m 34 (la2 o0 p1 p2 1 i_) [])) rfl (hb hby d1_34)
          refine gob st5 ?_
          show gO (tF T5 m 37 (la2 o0 p1 p2 1 i_) [(.ref w_T)])
          refine gob (fun _ k => XS.aloadN X5.here hx rfl (hb hby d1_37) rfl rfl k) ?_
          show gO (tF T5 m 38 (la2 o0 p1 p2 1 i_) [(.ref o0), (.ref w_T)])
          refine gob (fun _ k => XS.iload X5.here hx rfl (hb hby d1_38) rfl k) ?_
          show gO (tF T5 m 40 (la2 o0 p1 p2 1 i_) [(.int i_), (.ref o0), (.ref w_T)])
          obtain ⟨cb6, Ab6, Sb6, Hb6⟩ := id B_
          refine gob (X5.baloadBytes hx (j := i_) (v := (.int (g_ (i_).toNatClampNeg))) (by rw [e5]; exact Ab6.1) (State.isArrayOf_alike hZ.alike Ab6.2.1) Ab6.2.2 (own_in Sb6 hi0 hi44) (Hb6 _ (own_lt hi0 hi44)) (g := (mkF m 40 (la2 o0 p1 p2 1 i_) [(.int i_), (.ref o0), (.ref w_T)])) rfl rfl (hb hby d1_40)) ?_
          show gO (tF T5 m 41 (la2 o0 p1 p2 1 i_) [(.int (g_ (i_).toNatClampNeg)), (.ref w_T)])
          obtain ⟨ct7, At7, St7, Ht7⟩ := id TB
          have lo7 : 0 ≤ (g_ (i_).toNatClampNeg).toInt := own_ge hc31_3
          have hi7 : (g_ (i_).toNatClampNeg).toInt < (128 : Nat) := by have := hbt i_.toNatClampNeg; omega
          refine gob (X5.baloadBooleans hx (j := (g_ (i_).toNatClampNeg)) (v := (.int (own_hv (g_ (i_).toNatClampNeg)))) (by rw [e5]; exact At7.1) (State.isArrayOf_alike hZ.alike At7.2.1) At7.2.2 (own_in St7 lo7 hi7) (Ht7 _ lo7 hi7) (g := (mkF m 41 (la2 o0 p1 p2 1 i_) [(.int (g_ (i_).toNatClampNeg)), (.ref w_T)])) rfl rfl (hb hby d1_41)) ?_
          show gO (tF T5 m 42 (la2 o0 p1 p2 1 i_) [(.int (own_hv (g_ (i_).toNatClampNeg)))])
          by_cases hc42_8 : (own_hv (g_ (i_).toNatClampNeg)) = (0 : Int32)
          · skip
            refine gob (fun _ k => XS.ifYes X5.here hx rfl (pc0 := 42) (pc' := 49) rfl (hb hby d1_42) rfl ((if0 _ _).trans (teq hc42_8).1) (by decide) (by decide) k) ?_
            show gO (tF T5 m 49 (la2 o0 p1 p2 1 i_) [])
            refine gob (fun _ k => XS.iconst X5.here hx rfl (hb hby d1_49) k) ?_
            show gO (tF T5 m 50 (la2 o0 p1 p2 1 i_) [(.int 0)])
            refine gob (fun _ k => XS.istoreN X5.here hx rfl (hb hby d1_50) rfl (l' := (la2 o0 p1 p2 0 i_)) rfl k) ?_
            show gO (tF T5 m 51 (la2 o0 p1 p2 0 i_) [])
            refine gob (fun _ k => XS.iinc X5.here hx rfl (hb hby d1_51) rfl (l' := (la2 o0 p1 p2 0 (i_ + (1 : Int32)))) rfl k) ?_
            show gO (tF T5 m 54 (la2 o0 p1 p2 0 (i_ + (1 : Int32))) [])
            refine gob (fun _ k => XS.goto X5.here hx rfl (pc0 := 54) (pc' := 17) rfl (hb hby d1_54) (by decide) (by decide) k) ?_
            show gO (tF T5 m 17 (la2 o0 p1 p2 0 (i_ + (1 : Int32))) [])
            have hbad : own_hv (g_ i_.toNatClampNeg) ≠ 1 := by rw [hc42_8]; decide
            refine gob (fun _ k => XS.iload X5.here hx rfl (hb hby d1_17) rfl k) ?_
            show gO (tF T5 m 19 (la2 o0 p1 p2 0 (i_ + (1 : Int32))) [(.int (i_ + (1 : Int32)))])
            refine gob (fun _ k => XS.iloadN X5.here hx rfl (hb hby d1_19) rfl k) ?_
            show gO (tF T5 m 20 (la2 o0 p1 p2 0 (i_ + (1 : Int32))) [(.int p2), (.int (i_ + (1 : Int32)))])
            by_cases hc20_9 : (i_ + (1 : Int32)) < p2
            · skip
              refine gob (fun _ k => XS.icmpNo X5.here hx rfl (hb hby d1_20) rfl (tlt hc20_9).2.1 k) ?_
              show gO (tF T5 m 23 (la2 o0 p1 p2 0 (i_ + (1 : Int32))) [])
              refine gob (fun _ k => XS.iloadN X5.here hx rfl (hb hby d1_23) rfl k) ?_
              show gO (tF T5 m 24 (la2 o0 p1 p2 0 (i_ + (1 : Int32))) [(.int 0)])
              refine gob (fun _ k => XS.ifYes X5.here hx rfl (pc0 := 24) (pc' := 57) rfl (hb hby d1_24) rfl ((if0 _ _).trans (teq (by decide : (0 : Int32) = (0 : Int32))).1) (by decide) (by decide) k) ?_
              show gO (tF T5 m 57 (la2 o0 p1 p2 0 (i_ + (1 : Int32))) [])
              refine gob (fun _ k => XS.iloadN X5.here hx rfl (hb hby d1_57) rfl k) ?_
              show gO (tF T5 m 58 (la2 o0 p1 p2 0 (i_ + (1 : Int32))) [(.int 0)])
              refine goZ X5 hx hlk (t := .boolean) Bd.returns (by simp) (hb hby d1_58) (z' := (0 : Int32)) rfl ?_ (by decide) (by decide)
              show Q1 Z o0 p1 p2 g_ w_T h0 n0 (some (.int (0 : Int32))) T5.heap _
              exact ⟨(0 : Int32), rfl, Or.inr ⟨rfl, Or.inr ⟨i_.toNatClampNeg, by rw [← own_nat hi0]; exact hip, by rw [← own_nat hi0]; exact Int32.lt_iff_toInt_lt.mp hlt, hbad⟩⟩, N_, e5⟩
            · skip
              refine gob (fun _ k => XS.icmpYes X5.here hx rfl (pc0 := 20) (pc' := 57) rfl (hb hby d1_20) rfl (flt hc20_9).2.1 (by decide) (by decide) k) ?_
              show gO (tF T5 m 57 (la2 o0 p1 p2 0 (i_ + (1 : Int32))) [])
              refine gob (fun _ k => XS.iloadN X5.here hx rfl (hb hby d1_57) rfl k) ?_
              show gO (tF T5 m 58 (la2 o0 p1 p2 0 (i_ + (1 : Int32))) [(.int 0)])
              refine goZ X5 hx hlk (t := .boolean) Bd.returns (by simp) (hb hby d1_58) (z' := (0 : Int32)) rfl ?_ (by decide) (by decide)
              show Q1 Z o0 p1 p2 g_ w_T h0 n0 (some (.int (0 : Int32))) T5.heap _
              exact ⟨(0 : Int32), rfl, Or.inr ⟨rfl, Or.inr ⟨i_.toNatClampNeg, by rw [← own_nat hi0]; exact hip, by rw [← own_nat hi0]; exact Int32.lt_iff_toInt_lt.mp hlt, hbad⟩⟩, N_, e5⟩
          · skip
            refine gob (fun _ k => XS.ifNo X5.here hx rfl (hb hby d1_42) rfl ((if0 _ _).trans (feq hc42_8).1) k) ?_
            show gO (tF T5 m 45 (la2 o0 p1 p2 1 i_) [])
            refine gob (fun _ k => XS.iconst X5.here hx rfl (hb hby d1_45) k) ?_
            show gO (tF T5 m 46 (la2 o0 p1 p2 1 i_) [(.int 1)])
            refine gob (fun _ k => XS.goto X5.here hx rfl (pc0 := 46) (pc' := 50) rfl (hb hby d1_46) (by decide) (by decide) k) ?_
            show gO (tF T5 m 50 (la2 o0 p1 p2 1 i_) [(.int 1)])
            refine gob (fun _ k => XS.istoreN X5.here hx rfl (hb hby d1_50) rfl (l' := (la2 o0 p1 p2 1 i_)) rfl k) ?_
            show gO (tF T5 m 51 (la2 o0 p1 p2 1 i_) [])
            refine gob (fun _ k => XS.iinc X5.here hx rfl (hb hby d1_51) rfl (l' := (la2 o0 p1 p2 1 (i_ + (1 : Int32)))) rfl k) ?_
            show gO (tF T5 m 54 (la2 o0 p1 p2 1 (i_ + (1 : Int32))) [])
            refine gob (fun _ k => XS.goto X5.here hx rfl (pc0 := 54) (pc' := 17) rfl (hb hby d1_54) (by decide) (by decide) k) ?_
            show gO (tF T5 m 17 (la2 o0 p1 p2 1 (i_ + (1 : Int32))) [])
            have hone : own_hv (g_ i_.toNatClampNeg) = 1 := (own_hv01 _).resolve_right hc42_8
            have hinc := own_inc i_ p2 hlt
            exact ih (i_ + (1 : Int32)) _ _ (by omega) (by omega) (fun j h1 h2 => by by_cases q : (j : Int) < i_.toInt; exact hall j h1 q; have q2 : j = i_.toNatClampNeg := by { have := own_nat hi0; omega }; rw [q2]; exact hone) X5 e5 N_
    exact loop 40 p1 _ _ (by omega) (Int.le_refl _) (fun j h1 h2 => absurd h1 (by omega)) X0 e0 N0
  · skip
    refine gob (fun _ k => XS.icmpYes X0.here hx rfl (pc0 := 5) (pc' := 12) rfl (hb hby d1_5) rfl (feq hc5_1).2 (by decide) (by decide) k) ?_
    show gO (tF s₁ m 12 (la0 o0 p1 p2) [])
    refine gob (fun _ k => XS.iconst X0.here hx rfl (hb hby d1_12) k) ?_
    show gO (tF s₁ m 13 (la0 o0 p1 p2) [(.int 0)])
    refine gob (fun _ k => XS.istoreN X0.here hx rfl (hb hby d1_13) rfl (l' := (la1 o0 p1 p2 0)) rfl k) ?_
    show gO (tF s₁ m 14 (la1 o0 p1 p2 0) [])
    refine gob (fun _ k => XS.iloadN X0.here hx rfl (hb hby d1_14) rfl k) ?_
    show gO (tF s₁ m 15 (la1 o0 p1 p2 0) [(.int p1)])
    refine gob (fun _ k => XS.istore X0.here hx rfl (hb hby d1_15) rfl (l' := (la2 o0 p1 p2 0 p1)) rfl k) ?_
    show gO (tF s₁ m 17 (la2 o0 p1 p2 0 p1) [])
    refine gob (fun _ k => XS.iload X0.here hx rfl (hb hby d1_17) rfl k) ?_
    show gO (tF s₁ m 19 (la2 o0 p1 p2 0 p1) [(.int p1)])
    refine gob (fun _ k => XS.iloadN X0.here hx rfl (hb hby d1_19) rfl k) ?_
    show gO (tF s₁ m 20 (la2 o0 p1 p2 0 p1) [(.int p2), (.int p1)])
    by_cases hc20_10 : p1 < p2
    · skip
      refine gob (fun _ k => XS.icmpNo X0.here hx rfl (hb hby d1_20) rfl (tlt hc20_10).2.1 k) ?_
      show gO (tF s₁ m 23 (la2 o0 p1 p2 0 p1) [])
      refine gob (fun _ k => XS.iloadN X0.here hx rfl (hb hby d1_23) rfl k) ?_
      show gO (tF s₁ m 24 (la2 o0 p1 p2 0 p1) [(.int 0)])
      refine gob (fun _ k => XS.ifYes X0.here hx rfl (pc0 := 24) (pc' := 57) rfl (hb hby d1_24) rfl ((if0 _ _).trans (teq (by decide : (0 : Int32) = (0 : Int32))).1) (by decide) (by decide) k) ?_
      show gO (tF s₁ m 57 (la2 o0 p1 p2 0 p1) [])
      refine gob (fun _ k => XS.iloadN X0.here hx rfl (hb hby d1_57) rfl k) ?_
      show gO (tF s₁ m 58 (la2 o0 p1 p2 0 p1) [(.int 0)])
      refine goZ X0 hx hlk (t := .boolean) Bd.returns (by simp) (hb hby d1_58) (z' := (0 : Int32)) rfl ?_ (by decide) (by decide)
      show Q1 Z o0 p1 p2 g_ w_T h0 n0 (some (.int (0 : Int32))) s₁.heap _
      exact ⟨(0 : Int32), rfl, Or.inr ⟨rfl, Or.inl hc5_1⟩, N0, e0⟩
    · skip
      refine gob (fun _ k => XS.icmpYes X0.here hx rfl (pc0 := 20) (pc' := 57) rfl (hb hby d1_20) rfl (flt hc20_10).2.1 (by decide) (by decide) k) ?_
      show gO (tF s₁ m 57 (la2 o0 p1 p2 0 p1) [])
      refine gob (fun _ k => XS.iloadN X0.here hx rfl (hb hby d1_57) rfl k) ?_
      show gO (tF s₁ m 58 (la2 o0 p1 p2 0 p1) [(.int 0)])
      refine goZ X0 hx hlk (t := .boolean) Bd.returns (by simp) (hb hby d1_58) (z' := (0 : Int32)) rfl ?_ (by decide) (by decide)
      show Q1 Z o0 p1 p2 g_ w_T h0 n0 (some (.int (0 : Int32))) s₁.heap _
      exact ⟨(0 : Int32), rfl, Or.inr ⟨rfl, Or.inl hc5_1⟩, N0, e0⟩
theorem pd_0 : parseMethodDescriptor "(B)Z" = some ⟨[.byte], some .boolean⟩ := by decide +kernel
theorem pd_1 : parseMethodDescriptor "([BII)Z" = some ⟨[(.array .byte), .int, .int], some .boolean⟩ := by decide +kernel
theorem ef_0 (m : MethodId) (x0 : Int32) (x1 : Int32) (x2 : Int32) (x3 : Int32) (x4 : Int32) (x5 : Int32) : entryFrame m #[(.int x0), (.int x1), (.int x2), (.int x3), (.int x4), (.int x5)] maxLocals = mkF m 0 #[.val (.int x0), .val (.int x1), .val (.int x2), .val (.int x3), .val (.int x4), .val (.int x5), .unset, .unset, .unset, .unset, .unset, .unset, .unset, .unset, .unset, .unset, .unset, .unset] [] := by first | (simp [entryFrame, mkF, argsToLocals, Value.category, maxLocals]; done) | rfl
def Q0 (Z : State) (p0 : Int32) (p1 : Int32) (p2 : Int32) (p3 : Int32) (p4 : Int32) (p5 : Int32) (w_T : Addr) (h0 : Heap) (n0 : Nat) (v : Option Value) (h : Heap) (L : List Loc) : Prop := v = some (.int 1) ∧ Fr n0 L
theorem la_0_327_152 (p2 : Int32) (x148 : Int32) (hx148 : ((p2 &&& (2147483647 : Int32)) % (44 : Int32)) = x148) : 0 ≤ x148.toInt ∧ x148.toInt < (44 : Nat) := by
  have := rng32 p2
  have := rng32 x148
  have : (2147483647 : Int32).toInt = 2147483647 := by decide
  have : (44 : Int32).toInt = 44 := by decide
  have : ((p2 &&& (2147483647 : Int32))).toInt = (p2).toInt % (2 ^ 31 : Nat) := c_mask p2 (2147483647 : Int32) 31 (by decide) (by decide)
  have := c_irem (p2 &&& (2147483647 : Int32)) (44 : Int32) (44) (by decide)
  have := rng32 ((p2 &&& (2147483647 : Int32)) % (44 : Int32))
  try (simp only [Int32.lt_iff_toInt_lt, Int32.le_iff_toInt_le, Int64.lt_iff_toInt_lt, Int64.le_iff_toInt_le, ← Int32.toInt_inj, ← Int64.toInt_inj, ne_eq] at *)
  omega
theorem la_0_335_157 (p4 : Int32) (x149 : Int32) (hx149 : ((p4 &&& (2147483647 : Int32)) % (44 : Int32)) = x149) : 0 ≤ x149.toInt ∧ x149.toInt < (44 : Nat) := by
  have := rng32 p4
  have := rng32 x149
  have : (2147483647 : Int32).toInt = 2147483647 := by decide
  have : (44 : Int32).toInt = 44 := by decide
  have : ((p4 &&& (2147483647 : Int32))).toInt = (p4).toInt % (2 ^ 31 : Nat) := c_mask p4 (2147483647 : Int32) 31 (by decide) (by decide)
  have := c_irem (p4 &&& (2147483647 : Int32)) (44 : Int32) (44) (by decide)
  have := rng32 ((p4 &&& (2147483647 : Int32)) % (44 : Int32))
  try (simp only [Int32.lt_iff_toInt_lt, Int32.le_iff_toInt_le, Int64.lt_iff_toInt_lt, Int64.le_iff_toInt_le, ← Int32.toInt_inj, ← Int64.toInt_inj, ne_eq] at *)
  omega
theorem la_0_454_223 (p0 : Int32) (x137 : Int32) (hx137 : ((p0 &&& (2147483647 : Int32)) % (5 : Int32)) = x137) : 0 ≤ x137.toInt ∧ x137.toInt ≤ 4 := by
  have := rng32 p0
  have := rng32 x137
  have : (2147483647 : Int32).toInt = 2147483647 := by decide
  have : (5 : Int32).toInt = 5 := by decide
  have : ((p0 &&& (2147483647 : Int32))).toInt = (p0).toInt % (2 ^ 31 : Nat) := c_mask p0 (2147483647 : Int32) 31 (by decide) (by decide)
  have := c_irem (p0 &&& (2147483647 : Int32)) (5 : Int32) (5) (by decide)
  have := rng32 ((p0 &&& (2147483647 : Int32)) % (5 : Int32))
  try (simp only [Int32.lt_iff_toInt_lt, Int32.le_iff_toInt_le, Int64.lt_iff_toInt_lt, Int64.le_iff_toInt_le, ← Int32.toInt_inj, ← Int64.toInt_inj, ne_eq] at *)
  omega
theorem la_0_463_224 (p0 : Int32) (x137 : Int32) (hx137 : ((p0 &&& (2147483647 : Int32)) % (5 : Int32)) = x137) : 0 ≤ x137.toInt ∧ x137.toInt ≤ 4 := by
  have := rng32 p0
  have := rng32 x137
  have : (2147483647 : Int32).toInt = 2147483647 := by decide
  have : (5 : Int32).toInt = 5 := by decide
  have : ((p0 &&& (2147483647 : Int32))).toInt = (p0).toInt % (2 ^ 31 : Nat) := c_mask p0 (2147483647 : Int32) 31 (by decide) (by decide)
  have := c_irem (p0 &&& (2147483647 : Int32)) (5 : Int32) (5) (by decide)
  have := rng32 ((p0 &&& (2147483647 : Int32)) % (5 : Int32))
  try (simp only [Int32.lt_iff_toInt_lt, Int32.le_iff_toInt_le, Int64.lt_iff_toInt_lt, Int64.le_iff_toInt_le, ← Int32.toInt_inj, ← Int64.toInt_inj, ne_eq] at *)
  omega
theorem la_0_463_225 (p2 : Int32) (x148 : Int32) (hx148 : ((p2 &&& (2147483647 : Int32)) % (44 : Int32)) = x148) : 0 ≤ x148.toInt ∧ x148.toInt < (44 : Nat) := by
  have := rng32 p2
  have := rng32 x148
  have : (2147483647 : Int32).toInt = 2147483647 := by decide
  have : (44 : Int32).toInt = 44 := by decide
  have : ((p2 &&& (2147483647 : Int32))).toInt = (p2).toInt % (2 ^ 31 : Nat) := c_mask p2 (2147483647 : Int32) 31 (by decide) (by decide)
  have := c_irem (p2 &&& (2147483647 : Int32)) (44 : Int32) (44) (by decide)
  have := rng32 ((p2 &&& (2147483647 : Int32)) % (44 : Int32))
  try (simp only [Int32.lt_iff_toInt_lt, Int32.le_iff_toInt_le, Int64.lt_iff_toInt_lt, Int64.le_iff_toInt_le, ← Int32.toInt_inj, ← Int64.toInt_inj, ne_eq] at *)
  omega
theorem la_0_463_226 (p4 : Int32) (x149 : Int32) (hx149 : ((p4 &&& (2147483647 : Int32)) % (44 : Int32)) = x149) : 0 ≤ x149.toInt ∧ x149.toInt < (44 : Nat) := by
  have := rng32 p4
  have := rng32 x149
  have : (2147483647 : Int32).toInt = 2147483647 := by decide
  have : (44 : Int32).toInt = 44 := by decide
  have : ((p4 &&& (2147483647 : Int32))).toInt = (p4).toInt % (2 ^ 31 : Nat) := c_mask p4 (2147483647 : Int32) 31 (by decide) (by decide)
  have := c_irem (p4 &&& (2147483647 : Int32)) (44 : Int32) (44) (by decide)
  have := rng32 ((p4 &&& (2147483647 : Int32)) % (44 : Int32))
  try (simp only [Int32.lt_iff_toInt_lt, Int32.le_iff_toInt_le, Int64.lt_iff_toInt_lt, Int64.le_iff_toInt_le, ← Int32.toInt_inj, ← Int64.toInt_inj, ne_eq] at *)
  omega
theorem la_0_410_233 (p4 : Int32) (x149 : Int32) (hx149 : ((p4 &&& (2147483647 : Int32)) % (44 : Int32)) = x149) : 0 ≤ x149.toInt ∧ x149.toInt < (44 : Nat) := by
  have := rng32 p4
  have := rng32 x149
  have : (2147483647 : Int32).toInt = 2147483647 := by decide
  have : (44 : Int32).toInt = 44 := by decide
  have : ((p4 &&& (2147483647 : Int32))).toInt = (p4).toInt % (2 ^ 31 : Nat) := c_mask p4 (2147483647 : Int32) 31 (by decide) (by decide)
  have := c_irem (p4 &&& (2147483647 : Int32)) (44 : Int32) (44) (by decide)
  have := rng32 ((p4 &&& (2147483647 : Int32)) % (44 : Int32))
  try (simp only [Int32.lt_iff_toInt_lt, Int32.le_iff_toInt_le, Int64.lt_iff_toInt_lt, Int64.le_iff_toInt_le, ← Int32.toInt_inj, ← Int64.toInt_inj, ne_eq] at *)
  omega
theorem la_0_387_239 (p2 : Int32) (x148 : Int32) (hx148 : ((p2 &&& (2147483647 : Int32)) % (44 : Int32)) = x148) : 0 ≤ x148.toInt ∧ x148.toInt < (44 : Nat) := by
  have := rng32 p2
  have := rng32 x148
  have : (2147483647 : Int32).toInt = 2147483647 := by decide
  have : (44 : Int32).toInt = 44 := by decide
  have : ((p2 &&& (2147483647 : Int32))).toInt = (p2).toInt % (2 ^ 31 : Nat) := c_mask p2 (2147483647 : Int32) 31 (by decide) (by decide)
  have := c_irem (p2 &&& (2147483647 : Int32)) (44 : Int32) (44) (by decide)
  have := rng32 ((p2 &&& (2147483647 : Int32)) % (44 : Int32))
  try (simp only [Int32.lt_iff_toInt_lt, Int32.le_iff_toInt_le, Int64.lt_iff_toInt_lt, Int64.le_iff_toInt_le, ← Int32.toInt_inj, ← Int64.toInt_inj, ne_eq] at *)
  omega
set_option maxRecDepth 65536 in
set_option maxHeartbeats 40000000 in
theorem rm0 (l : Launch) (Z : State) (a0 : Array Value) (hw : ∀ d ∈ tables_1, d.before a0 Z = true) (ws : List Jvm.Cond) (p0 : Int32) (p1 : Int32) (p2 : Int32) (p3 : Int32) (p4 : Int32) (p5 : Int32) (w_T : Addr) (h0 : Heap) (n0 : Nat) (Z0 : n0 ≤ h0.size) (S_T : Sta Z h0 "com/example/cairnlog/cairnlog/ContentId" "IN_ID" "[Z" (.ref w_T)) (TB : Tbl Z h0 w_T) :
    MetFree l x (head1 (Jvm.Cond.code x code maxLocals ret :: ws) room_1) (fun a U => a = #[(.int p0), (.int p1), (.int p2), (.int p3), (.int p4), (.int p5)] ∧ Z.Warmed39 U.vm ∧ U.heap = h0) (fun _ _ _ _ _ => True) (fun _ U o U' => ∃ v L, o = .returned v ∧ Q0 Z p0 p1 p2 p3 p4 p5 w_T h0 n0 v U'.heap L ∧ FrameEnd U o U' L 16 192) := by
  refine MetFree.of_bodySF (plainFor_of_name (by first | (simp [plainName, overriddenIn]; done) | decide +kernel)) hisR ?_
  intro p e s m args below meth c s₁ Bd hml0 hP hK
  obtain ⟨rfl, hZ, hh⟩ := hP
  have hx := Bd.exec
  have hby := Bd.bytes
  have hml : c.maxLocals = 18 := hml0
  have hown : s.vm.findClass "com/example/cairnlog/cairnlog/ContentIdIsWellFormedPinLaw" = some m.cls := findClass_of_methodNamed Bd.named
  have hnm := (name_of_methodNamed Bd.named Bd.method).1
  have hlk := BodyLoose.notSynchronized Bd
  have X0 : Stand p l e room_1 s m #[(.int p0), (.int p1), (.int p2), (.int p3), (.int p4), (.int p5)] below meth c s₁ [] 0 0 := Stand.of_body Bd
  have e0 : s₁.heap = h0 := by rw [← hh, Bd.state]; rfl
  have N0 := Fr.nil n0
  show Go p e below s (Q0 Z p0 p1 p2 p3 p4 p5 w_T h0 n0) 16 192 (s₁.setTop (entryFrame m #[(.int p0), (.int p1), (.int p2), (.int p3), (.int p4), (.int p5)] maxLocals))
  rw [ef_0]
  show gO (tF s₁ m 0 (la3 p0 p1 p2 p3 p4 p5) [])
  refine gob (fun _ k => XS.bipush X0.here hx rfl (hb hby at_0) k) ?_
  show gO (tF s₁ m 2 (la3 p0 p1 p2 p3 p4 p5) [(.int 44)])
  obtain ⟨T1, h1, k1, X1, e1, E1, A1, st1⟩ := newP X0 hx hZ (hW hw 0 rfl) e0 (g := (mkF m 2 (la3 p0 p1 p2 p3 p4 p5) [(.int 44)])) rfl (hb hby at_2) rfl (by decide) (cap := 44) (by decide) (by decide) (by decide) (by decide)
  obtain ⟨b1, g1⟩ : ∃ z, z = h0.size := ⟨_, rfl⟩
  rw [← g1] at A1 st1
  have n2 : w_T ≠ b1 := Nat.ne_of_lt (Nat.lt_of_lt_of_le TB.lt (Nat.le_of_eq g1.symm))
  have g3 : n0 ≤ b1 := Nat.le_trans Z0 (Nat.le_of_eq g1.symm)
  have z4 : n0 ≤ h1.size := Nat.le_trans Z0 E1.1
  have V1 : Arv Z h1 b1 k1 .byte (44 : Int32) [(.int 0), (.int 0), (.int 0), (.int 0), (.int 0), (.int 0), (.int 0), (.int 0), (.int 0), (.int 0), (.int 0), (.int 0), (.int 0), (.int 0), (.int 0), (.int 0), (.int 0), (.int 0), (.int 0), (.int 0), (.int 0), (.int 0), (.int 0), (.int 0), (.int 0), (.int 0), (.int 0), (.int 0), (.int 0), (.int 0), (.int 0), (.int 0), (.int 0), (.int 0), (.int 0), (.int 0), (.int 0), (.int 0), (.int 0), (.int 0), (.int 0), (.int 0), (.int 0), (.int 0)] (.int 0) := (Arv.new A1 (by decide)).pad (pad_rep [] (.int 0) 44)
  refine gob st1 ?_
  replace X1 := castX X1 (rfl : _ = 1) (rfl : _ = 44)
  show gO (tF T1 m 4 (la3 p0 p1 p2 p3 p4 p5) [(.ref b1)])
  refine gob (fun _ k => XS.dup X1.here hx rfl (hb hby at_4) rfl rfl k) ?_
  show gO (tF T1 m 5 (la3 p0 p1 p2 p3 p4 p5) [(.ref b1), (.ref b1)])
  refine gob (fun _ k => XS.iconst X1.here hx rfl (hb hby at_5) k) ?_
  show gO (tF T1 m 6 (la3 p0 p1 p2 p3 p4 p5) [(.int 0), (.ref b1), (.ref b1)])
  refine gob (fun _ k => XS.bipush X1.here hx rfl (hb hby at_6) k) ?_
  show gO (tF T1 m 8 (la3 p0 p1 p2 p3 p4 p5) [(.int 48), (.int 0), (.ref b1), (.ref b1)])
  obtain ⟨cl5, Ar5, aq5, S5, N5, H5, G5⟩ := id V1
  have hin5 : ¬ ((0 : Int32) < 0 ∨ cl5.slots.size ≤ ((0 : Int32)).toNatClampNeg) := inb_of S5 ⟨by decide, by decide⟩
  obtain ⟨T6, h6, X6, e6, W6, st6⟩ := stB X1 hx hZ e1 Ar5 (j := (0 : Int32)) hin5 (g := (mkF m 8 (la3 p0 p1 p2 p3 p4 p5) [(.int 48), (.int 0), (.ref b1), (.ref b1)])) rfl rfl (hb hby at_8)
  refine gob st6 ?_
  have z7 : n0 ≤ h6.size := Nat.le_trans z4 (Keep.of_wr W6).1
  have N6 := Fr.snoc X6 N0 g3
  have V6 : Arv Z h6 b1 k1 .byte (44 : Int32) [(.int (48 : Int32)), (.int 0), (.int 0), (.int 0), (.int 0), (.int 0), (.int 0), (.int 0), (.int 0), (.int 0), (.int 0), (.int 0), (.int 0), (.int 0), (.int 0), (.int 0), (.int 0), (.int 0), (.int 0), (.int 0), (.int 0), (.int 0), (.int 0), (.int 0), (.int 0), (.int 0), (.int 0), (.int 0), (.int 0), (.int 0), (.int 0), (.int 0), (.int 0), (.int 0), (.int 0), (.int 0), (.int 0), (.int 0), (.int 0), (.int 0), (.int 0), (.int 0), (.int 0), (.int 0)] (.int 0) := Arv.set Ar5 aq5 S5 N5 H5 G5 (fits_nar_byte _) W6 0 rfl (Nat.le_of_ble_eq_true rfl)
  show gO (tF T6 m 9 (la3 p0 p1 p2 p3 p4 p5) [(.ref b1)])
  refine gob (fun _ k => XS.dup X6.here hx rfl (hb hby at_9) rfl rfl k) ?_
  show gO (tF T6 m 10 (la3 p0 p1 p2 p3 p4 p5) [(.ref b1), (.ref b1)])
  refine gob (fun _ k => XS.iconst X6.here hx rfl (hb hby at_10) k) ?_
  show gO (tF T6 m 11 (la3 p0 p1 p2 p3 p4 p5) [(.int 1), (.ref b1), (.ref b1)])
  refine gob (fun _ k => XS.bipush X6.here hx rfl (hb hby at_11) k) ?_
  show gO (tF T6 m 13 (la3 p0 p1 p2 p3 p4 p5) [(.int 49), (.int 1), (.ref b1), (.ref b1)])
  obtain ⟨cl8, Ar8, aq8, S8, N8, H8, G8⟩ := id V6
  have hin8 : ¬ ((1 : Int32) < 0 ∨ cl8.slots.size ≤ ((1 : Int32)).toNatClampNeg) := inb_of S8 ⟨by decide, by decide⟩
  obtain ⟨T9, h9, X9, e9, W9, st9⟩ := stB X6 hx hZ e6 Ar8 (j := (1 : Int32)) hin8 (g := (mkF m 13 (la3 p0 p1 p2 p3 p4 p5) [(.int 49), (.int 1), (.ref b1), (.ref b1)])) rfl rfl (hb hby at_13)
  refine gob st9 ?_
  have z10 : n0 ≤ h9.size := Nat.le_trans z7 (Keep.of_wr W9).1
  have N9 := Fr.snoc X9 N6 g3
  have V9 : Arv Z h9 b1 k1 .byte (44 : Int32) [(.int (48 : Int32)), (.int (49 : Int32)), (.int 0), (.int 0), (.int 0), (.int 0), (.int 0), (.int 0), (.int 0), (.int 0), (.int 0), (.int 0), (.int 0), (.int 0), (.int 0), (.int 0), (.int 0), (.int 0), (.int 0), (.int 0), (.int 0), (.int 0), (.int 0), (.int 0), (.int 0), (.int 0), (.int 0), (.int 0), (.int 0), (.int 0), (.int 0), (.int 0), (.int 0), (.int 0), (.int 0), (.int 0), (.int 0), (.int 0), (.int 0), (.int 0), (.int 0), (.int 0), (.int 0), (.int 0)] (.int 0) := Arv.set Ar8 aq8 S8 N8 H8 G8 (fits_nar_byte _) W9 1 rfl (Nat.le_of_ble_eq_true rfl)
  show gO (tF T9 m 14 (la3 p0 p1 p2 p3 p4 p5) [(.ref b1)])
  refine gob (fun _ k => XS.dup X9.here hx rfl (hb hby at_14) rfl rfl k) ?_
  show gO (tF T9 m 15 (la3 p0 p1 p2 p3 p4 p5) [(.ref b1), (.ref b1)])
  refine gob (fun _ k => XS.iconst X9.here hx rfl (hb hby at_15) k) ?_
  show gO (tF T9 m 16 (la3 p0 p1 p2 p3 p4 p5) [(.int 2), (.ref b1), (.ref b1)])
  refine gob (fun _ k => XS.bipush X9.here hx rfl (hb hby at_16) k) ?_
  show gO (tF T9 m 18 (la3 p0 p1 p2 p3 p4 p5) [(.int 50), (.int 2), (.ref b1), (.ref b1)])
  obtain ⟨cl11, Ar11, aq11, S11, N11, H11, G11⟩ := id V9
  have hin11 : ¬ ((2 : Int32) < 0 ∨ cl11.slots.size ≤ ((2 : Int32)).toNatClampNeg) := inb_of S11 ⟨by decide, by decide⟩
  obtain ⟨T12, h12, X12, e12, W12, st12⟩ := stB X9 hx hZ e9 Ar11 (j := (2 : Int32)) hin11 (g := (mkF m 18 (la3 p0 p1 p2 p3 p4 p5) [(.int 50), (.int 2), (.ref b1), (.ref b1)])) rfl rfl (hb hby at_18)
  refine gob st12 ?_
  have z13 : n0 ≤ h12.size := Nat.le_trans z10 (Keep.of_wr W12).1
  have N12 := Fr.snoc X12 N9 g3
  have V12 : Arv Z h12 b1 k1 .byte (44 : Int32) [(.int (48 : Int32)), (.int (49 : Int32)), (.int (50 : Int32)), (.int 0), (.int 0), (.int 0), (.int 0), (.int 0), (.int 0), (.int 0), (.int 0), (.int 0), (.int 0), (.int 0), (.int 0), (.int 0), (.int 0), (.int 0), (.int 0), (.int 0), (.int 0), (.int 0), (.int 0), (.int 0), (.int 0), (.int 0), (.int 0), (.int 0), (.int 0), (.int 0), (.int 0), (.int 0), (.int 0), (.int 0), (.int 0), (.int 0), (.int 0), (.int 0), (.int 0), (.int 0), (.int 0), (.int 0), (.int 0), (.int 0)] (.int 0) := Arv.set Ar11 aq11 S11 N11 H11 G11 (fits_nar_byte _) W12 2 rfl (Nat.le_of_ble_eq_true rfl)
  show gO (tF T12 m 19 (la3 p0 p1 p2 p3 p4 p5) [(.ref b1)])
  refine gob (fun _ k => XS.dup X12.here hx rfl (hb hby at_19) rfl rfl k) ?_
  show gO (tF T12 m 20 (la3 p0 p1 p2 p3 p4 p5) [(.ref b1), (.ref b1)])
  refine gob (fun _ k => XS.iconst X12.here hx rfl (hb hby at_20) k) ?_
  show gO (tF T12 m 21 (la3 p0 p1 p2 p3 p4 p5) [(.int 3), (.ref b1), (.ref b1)])
  refine gob (fun _ k => XS.bipush X12.here hx rfl (hb hby at_21) k) ?_
  show gO (tF T12 m 23 (la3 p0 p1 p2 p3 p4 p5) [(.int 51), (.int 3), (.ref b1), (.ref b1)])
  obtain ⟨cl14, Ar14, aq14, S14, N14, H14, G14⟩ := id V12
  have hin14 : ¬ ((3 : Int32) < 0 ∨ cl14.slots.size ≤ ((3 : Int32)).toNatClampNeg) := inb_of S14 ⟨by decide, by decide⟩
  obtain ⟨T15, h15, X15, e15, W15, st15⟩ := stB X12 hx hZ e12 Ar14 (j := (3 : Int32)) hin14 (g := (mkF m 23 (la3 p0 p1 p2 p3 p4 p5) [(.int 51), (.int 3), (.ref b1), (.ref b1)])) rfl rfl (hb hby at_23)
  refine gob st15 ?_
  have z16 : n0 ≤ h15.size := Nat.le_trans z13 (Keep.of_wr W15).1
  have N15 := Fr.snoc X15 N12 g3
  have V15 : Arv Z h15 b1 k1 .byte (44 : Int32) [(.int (48 : Int32)), (.int (49 : Int32)), (.int (50 : Int32)), (.int (51 : Int32)), (.int 0), (.int 0), (.int 0), (.int 0), (.int 0), (.int 0), (.int 0), (.int 0), (.int 0), (.int 0), (.int 0), (.int 0), (.int 0), (.int 0), (.int 0), (.int 0), (.int 0), (.int 0), (.int 0), (.int 0), (.int 0), (.int 0), (.int 0), (.int 0), (.int 0), (.int 0), (.int 0), (.int 0), (.int 0), (.int 0), (.int 0), (.int 0), (.int 0), (.int 0), (.int 0), (.int 0), (.int 0), (.int 0), (.int 0), (.int 0)] (.int 0) := Arv.set Ar14 aq14 S14 N14 H14 G14 (fits_nar_byte _) W15 3 rfl (Nat.le_of_ble_eq_true rfl)
  show gO (tF T15 m 24 (la3 p0 p1 p2 p3 p4 p5) [(.ref b1)])
  refine gob (fun _ k => XS.dup X15.here hx rfl (hb hby at_24) rfl rfl k) ?_
  show gO (tF T15 m 25 (la3 p0 p1 p2 p3 p4 p5) [(.ref b1), (.ref b1)])
  refine gob (fun _ k => XS.iconst X15.here hx rfl (hb hby at_25) k) ?_
  show gO (tF T15 m 26 (la3 p0 p1 p2 p3 p4 p5) [(.int 4), (.ref b1), (.ref b1)])
  refine gob (fun _ k => XS.bipush X15.here hx rfl (hb hby at_26) k) ?_
  show gO (tF T15 m 28 (la3 p0 p1 p2 p3 p4 p5) [(.int 52), (.int 4), (.ref b1), (.ref b1)])
  obtain ⟨cl17, Ar17, aq17, S17, N17, H17, G17⟩ := id V15
  have hin17 : ¬ ((4 : Int32) < 0 ∨ cl17.slots.size ≤ ((4 : Int32)).toNatClampNeg) := inb_of S17 ⟨by decide, by decide⟩
  obtain ⟨T18, h18, X18, e18, W18, st18⟩ := stB X15 hx hZ e15 Ar17 (j := (4 : Int32)) hin17 (g := (mkF m 28 (la3 p0 p1 p2 p3 p4 p5) [(.int 52), (.int 4), (.ref b1), (.ref b1)])) rfl rfl (hb hby at_28)
  refine gob st18 ?_
  have z19 : n0 ≤ h18.size := Nat.le_trans z16 (Keep.of_wr W18).1
  have N18 := Fr.snoc X18 N15 g3
  have V18 : Arv Z h18 b1 k1 .byte (44 : Int32) [(.int (48 : Int32)), (.int (49 : Int32)), (.int (50 : Int32)), (.int (51 : Int32)), (.int (52 : Int32)), (.int 0), (.int 0), (.int 0), (.int 0), (.int 0), (.int 0), (.int 0), (.int 0), (.int 0), (.int 0), (.int 0), (.int 0), (.int 0), (.int 0), (.int 0), (.int 0), (.int 0), (.int 0), (.int 0), (.int 0), (.int 0), (.int 0), (.int 0), (.int 0), (.int 0), (.int 0), (.int 0), (.int 0), (.int 0), (.int 0), (.int 0), (.int 0), (.int 0), (.int 0), (.int 0), (.int 0), (.int 0), (.int 0), (.int 0)] (.int 0) := Arv.set Ar17 aq17 S17 N17 H17 G17 (fits_nar_byte _) W18 4 rfl (Nat.le_of_ble_eq_true rfl)
  show gO (tF T18 m 29 (la3 p0 p1 p2 p3 p4 p5) [(.ref b1)])
  refine gob (fun _ k => XS.dup X18.here hx rfl (hb hby at_29) rfl rfl k) ?_
  show gO (tF T18 m 30 (la3 p0 p1 p2 p3 p4 p5) [(.ref b1), (.ref b1)])
  refine gob (fun _ k => XS.iconst X18.here hx rfl (hb hby at_30) k) ?_
  show gO (tF T18 m 31 (la3 p0 p1 p2 p3 p4 p5) [(.int 5), (.ref b1), (.ref b1)])
  refine gob (fun _ k => XS.bipush X18.here hx rfl (hb hby at_31) k) ?_
  show gO (tF T18 m 33 (la3 p0 p1 p2 p3 p4 p5) [(.int 53), (.int 5), (.ref b1), (.ref b1)])
  obtain ⟨cl20, Ar20, aq20, S20, N20, H20, G20⟩ := id V18
  have hin20 : ¬ ((5 : Int32) < 0 ∨ cl20.slots.size ≤ ((5 : Int32)).toNatClampNeg) := inb_of S20 ⟨by decide, by decide⟩
  obtain ⟨T21, h21, X21, e21, W21, st21⟩ := stB X18 hx hZ e18 Ar20 (j := (5 : Int32)) hin20 (g := (mkF m 33 (la3 p0 p1 p2 p3 p4 p5) [(.int 53), (.int 5), (.ref b1), (.ref b1)])) rfl rfl (hb hby at_33)
  refine gob st21 ?_
  have z22 : n0 ≤ h21.size := Nat.le_trans z19 (Keep.of_wr W21).1
  have N21 := Fr.snoc X21 N18 g3
  have V21 : Arv Z h21 b1 k1 .byte (44 : Int32) [(.int (48 : Int32)), (.int (49 : Int32)), (.int (50 : Int32)), (.int (51 : Int32)), (.int (52 : Int32)), (.int (53 : Int32)), (.int 0), (.int 0), (.int 0), (.int 0), (.int 0), (.int 0), (.int 0), (.int 0), (.int 0), (.int 0), (.int 0), (.int 0), (.int 0), (.int 0), (.int 0), (.int 0), (.int 0), (.int 0), (.int 0), (.int 0), (.int 0), (.int 0), (.int 0), (.int 0), (.int 0), (.int 0), (.int 0), (.int 0), (.int 0), (.int 0), (.int 0), (.int 0), (.int 0), (.int 0), (.int 0), (.int 0), (.int 0), (.int 0)] (.int 0) := Arv.set Ar20 aq20 S20 N20 H20 G20 (fits_nar_byte _) W21 5 rfl (Nat.le_of_ble_eq_true rfl)
  show gO (tF T21 m 34 (la3 p0 p1 p2 p3 p4 p5) [(.ref b1)])
  refine gob (fun _ k => XS.dup X21.here hx rfl (hb hby at_34) rfl rfl k) ?_
  show gO (tF T21 m 35 (la3 p0 p1 p2 p3 p4 p5) [(.ref b1), (.ref b1)])
  refine gob (fun _ k => XS.bipush X21.here hx rfl (hb hby at_35) k) ?_
  show gO (tF T21 m 37 (la3 p0 p1 p2 p3 p4 p5) [(.int 6), (.ref b1), (.ref b1)])
  refine gob (fun _ k => XS.bipush X21.here hx rfl (hb hby at_37) k) ?_
  show gO (tF T21 m 39 (la3 p0 p1 p2 p3 p4 p5) [(.int 54), (.int 6), (.ref b1), (.ref b1)])
  obtain ⟨cl23, Ar23, aq23, S23, N23, H23, G23⟩ := id V21
  have hin23 : ¬ ((6 : Int32) < 0 ∨ cl23.slots.size ≤ ((6 : Int32)).toNatClampNeg) := inb_of S23 ⟨by decide, by decide⟩
  obtain ⟨T24, h24, X24, e24, W24, st24⟩ := stB X21 hx hZ e21 Ar23 (j := (6 : Int32)) hin23 (g := (mkF m 39 (la3 p0 p1 p2 p3 p4 p5) [(.int 54), (.int 6), (.ref b1), (.ref b1)])) rfl rfl (hb hby at_39)
  refine gob st24 ?_
  have z25 : n0 ≤ h24.size := Nat.le_trans z22 (Keep.of_wr W24).1
  have N24 := Fr.snoc X24 N21 g3
  have V24 : Arv Z h24 b1 k1 .byte (44 : Int32) [(.int (48 : Int32)), (.int (49 : Int32)), (.int (50 : Int32)), (.int (51 : Int32)), (.int (52 : Int32)), (.int (53 : Int32)), (.int (54 : Int32)), (.int 0), (.int 0), (.int 0), (.int 0), (.int 0), (.int 0), (.int 0), (.int 0), (.int 0), (.int 0), (.int 0), (.int 0), (.int 0), (.int 0), (.int 0), (.int 0), (.int 0), (.int 0), (.int 0), (.int 0), (.int 0), (.int 0), (.int 0), (.int 0), (.int 0), (.int 0), (.int 0), (.int 0), (.int 0), (.int 0), (.int 0), (.int 0), (.int 0), (.int 0), (.int 0), (.int 0), (.int 0)] (.int 0) := Arv.set Ar23 aq23 S23 N23 H23 G23 (fits_nar_byte _) W24 6 rfl (Nat.le_of_ble_eq_true rfl)
  show gO (tF T24 m 40 (la3 p0 p1 p2 p3 p4 p5) [(.ref b1)])
  refine gob (fun _ k => XS.dup X24.here hx rfl (hb hby at_40) rfl rfl k) ?_
  show gO (tF T24 m 41 (la3 p0 p1 p2 p3 p4 p5) [(.ref b1), (.ref b1)])
  refine gob (fun _ k => XS.bipush X24.here hx rfl (hb hby at_41) k) ?_
  show gO (tF T24 m 43 (la3 p0 p1 p2 p3 p4 p5) [(.int 7), (.ref b1), (.ref b1)])
  refine gob (fun _ k => XS.bipush X24.here hx rfl (hb hby at_43) k) ?_
  show gO (tF T24 m 45 (la3 p0 p1 p2 p3 p4 p5) [(.int 55), (.int 7), (.ref b1), (.ref b1)])
  obtain ⟨cl26, Ar26, aq26, S26, N26, H26, G26⟩ := id V24
  have hin26 : ¬ ((7 : Int32) < 0 ∨ cl26.slots.size ≤ ((7 : Int32)).toNatClampNeg) := inb_of S26 ⟨by decide, by decide⟩
  obtain ⟨T27, h27, X27, e27, W27, st27⟩ := stB X24 hx hZ e24 Ar26 (j := (7 : Int32)) hin26 (g := (mkF m 45 (la3 p0 p1 p2 p3 p4 p5) [(.int 55), (.int 7), (.ref b1), (.ref b1)])) rfl rfl (hb hby at_45)
  refine gob st27 ?_
  have z28 : n0 ≤ h27.size := Nat.le_trans z25 (Keep.of_wr W27).1
  have N27 := Fr.snoc X27 N24 g3
  have V27 : Arv Z h27 b1 k1 .byte (44 : Int32) [(.int (48 : Int32)), (.int (49 : Int32)), (.int (50 : Int32)), (.int (51 : Int32)), (.int (52 : Int32)), (.int (53 : Int32)), (.int (54 : Int32)), (.int (55 : Int32)), (.int 0), (.int 0), (.int 0), (.int 0), (.int 0), (.int 0), (.int 0), (.int 0), (.int 0), (.int 0), (.int 0), (.int 0), (.int 0), (.int 0), (.int 0), (.int 0), (.int 0), (.int 0), (.int 0), (.int 0), (.int 0), (.int 0), (.int 0), (.int 0), (.int 0), (.int 0), (.int 0), (.int 0), (.int 0), (.int 0), (.int 0), (.int 0), (.int 0), (.int 0), (.int 0), (.int 0)] (.int 0) := Arv.set Ar26 aq26 S26 N26 H26 G26 (fits_nar_byte _) W27 7 rfl (Nat.le_of_ble_eq_true rfl)
  show gO (tF T27 m 46 (la3 p0 p1 p2 p3 p4 p5) [(.ref b1)])
  refine gob (fun _ k => XS.dup X27.here hx rfl (hb hby at_46) rfl rfl k) ?_
  show gO (tF T27 m 47 (la3 p0 p1 p2 p3 p4 p5) [(.ref b1), (.ref b1)])
  refine gob (fun _ k => XS.bipush X27.here hx rfl (hb hby at_47) k) ?_
  show gO (tF T27 m 49 (la3 p0 p1 p2 p3 p4 p5) [(.int 8), (.ref b1), (.ref b1)])
  refine gob (fun _ k => XS.bipush X27.here hx rfl (hb hby at_49) k) ?_
  show gO (tF T27 m 51 (la3 p0 p1 p2 p3 p4 p5) [(.int 56), (.int 8), (.ref b1), (.ref b1)])
  obtain ⟨cl29, Ar29, aq29, S29, N29, H29, G29⟩ := id V27
  have hin29 : ¬ ((8 : Int32) < 0 ∨ cl29.slots.size ≤ ((8 : Int32)).toNatClampNeg) := inb_of S29 ⟨by decide, by decide⟩
  obtain ⟨T30, h30, X30, e30, W30, st30⟩ := stB X27 hx hZ e27 Ar29 (j := (8 : Int32)) hin29 (g := (mkF m 51 (la3 p0 p1 p2 p3 p4 p5) [(.int 56), (.int 8), (.ref b1), (.ref b1)])) rfl rfl (hb hby at_51)
  refine gob st30 ?_
  have z31 : n0 ≤ h30.size := Nat.le_trans z28 (Keep.of_wr W30).1
  have N30 := Fr.snoc X30 N27 g3
  have V30 : Arv Z h30 b1 k1 .byte (44 : Int32) [(.int (48 : Int32)), (.int (49 : Int32)), (.int (50 : Int32)), (.int (51 : Int32)), (.int (52 : Int32)), (.int (53 : Int32)), (.int (54 : Int32)), (.int (55 : Int32)), (.int (56 : Int32)), (.int 0), (.int 0), (.int 0), (.int 0), (.int 0), (.int 0), (.int 0), (.int 0), (.int 0), (.int 0), (.int 0), (.int 0), (.int 0), (.int 0), (.int 0), (.int 0), (.int 0), (.int 0), (.int 0), (.int 0), (.int 0), (.int 0), (.int 0), (.int 0), (.int 0), (.int 0), (.int 0), (.int 0), (.int 0), (.int 0), (.int 0), (.int 0), (.int 0), (.int 0), (.int 0)] (.int 0) := Arv.set Ar29 aq29 S29 N29 H29 G29 (fits_nar_byte _) W30 8 rfl (Nat.le_of_ble_eq_true rfl)
  show gO (tF T30 m 52 (la3 p0 p1 p2 p3 p4 p5) [(.ref b1)])
  refine gob (fun _ k => XS.dup X30.here hx rfl (hb hby at_52) rfl rfl k) ?_
  show gO (tF T30 m 53 (la3 p0 p1 p2 p3 p4 p5) [(.ref b1), (.ref b1)])
  refine gob (fun _ k => XS.bipush X30.here hx rfl (hb hby at_53) k) ?_
  show gO (tF T30 m 55 (la3 p0 p1 p2 p3 p4 p5) [(.int 9), (.ref b1), (.ref b1)])
  refine gob (fun _ k => XS.bipush X30.here hx rfl (hb hby at_55) k) ?_
  show gO (tF T30 m 57 (la3 p0 p1 p2 p3 p4 p5) [(.int 57), (.int 9), (.ref b1), (.ref b1)])
  obtain ⟨cl32, Ar32, aq32, S32, N32, H32, G32⟩ := id V30
  have hin32 : ¬ ((9 : Int32) < 0 ∨ cl32.slots.size ≤ ((9 : Int32)).toNatClampNeg) := inb_of S32 ⟨by decide, by decide⟩
  obtain ⟨T33, h33, X33, e33, W33, st33⟩ := stB X30 hx hZ e30 Ar32 (j := (9 : Int32)) hin32 (g := (mkF m 57 (la3 p0 p1 p2 p3 p4 p5) [(.int 57), (.int 9), (.ref b1), (.ref b1)])) rfl rfl (hb hby at_57)
  refine gob st33 ?_
  have z34 : n0 ≤ h33.size := Nat.le_trans z31 (Keep.of_wr W33).1
  have N33 := Fr.snoc X33 N30 g3
  have V33 : Arv Z h33 b1 k1 .byte (44 : Int32) [(.int (48 : Int32)), (.int (49 : Int32)), (.int (50 : Int32)), (.int (51 : Int32)), (.int (52 : Int32)), (.int (53 : Int32)), (.int (54 : Int32)), (.int (55 : Int32)), (.int (56 : Int32)), (.int (57 : Int32)), (.int 0), (.int 0), (.int 0), (.int 0), (.int 0), (.int 0), (.int 0), (.int 0), (.int 0), (.int 0), (.int 0), (.int 0), (.int 0), (.int 0), (.int 0), (.int 0), (.int 0), (.int 0), (.int 0), (.int 0), (.int 0), (.int 0), (.int 0), (.int 0), (.int 0), (.int 0), (.int 0), (.int 0), (.int 0), (.int 0), (.int 0), (.int 0), (.int 0), (.int 0)] (.int 0) := Arv.set Ar32 aq32 S32 N32 H32 G32 (fits_nar_byte _) W33 9 rfl (Nat.le_of_ble_eq_true rfl)
  show gO (tF T33 m 58 (la3 p0 p1 p2 p3 p4 p5) [(.ref b1)])
  refine gob (fun _ k => XS.dup X33.here hx rfl (hb hby at_58) rfl rfl k) ?_
  show gO (tF T33 m 59 (la3 p0 p1 p2 p3 p4 p5) [(.ref b1), (.ref b1)])
  refine gob (fun _ k => XS.bipush X33.here hx rfl (hb hby at_59) k) ?_
  show gO (tF T33 m 61 (la3 p0 p1 p2 p3 p4 p5) [(.int 10), (.ref b1), (.ref b1)])
  refine gob (fun _ k => XS.bipush X33.here hx rfl (hb hby at_61) k) ?_
  show gO (tF T33 m 63 (la3 p0 p1 p2 p3 p4 p5) [(.int 97), (.int 10), (.ref b1), (.ref b1)])
  obtain ⟨cl35, Ar35, aq35, S35, N35, H35, G35⟩ := id V33
  have hin35 : ¬ ((10 : Int32) < 0 ∨ cl35.slots.size ≤ ((10 : Int32)).toNatClampNeg) := inb_of S35 ⟨by decide, by decide⟩
  obtain ⟨T36, h36, X36, e36, W36, st36⟩ := stB X33 hx hZ e33 Ar35 (j := (10 : Int32)) hin35 (g := (mkF m 63 (la3 p0 p1 p2 p3 p4 p5) [(.int 97), (.int 10), (.ref b1), (.ref b1)])) rfl rfl (hb hby at_63)
  refine gob st36 ?_
  have z37 : n0 ≤ h36.size := Nat.le_trans z34 (Keep.of_wr W36).1
  have N36 := Fr.snoc X36 N33 g3
  have V36 : Arv Z h36 b1 k1 .byte (44 : Int32) [(.int (48 : Int32)), (.int (49 : Int32)), (.int (50 : Int32)), (.int (51 : Int32)), (.int (52 : Int32)), (.int (53 : Int32)), (.int (54 : Int32)), (.int (55 : Int32)), (.int (56 : Int32)), (.int (57 : Int32)), (.int (97 : Int32)), (.int 0), (.int 0), (.int 0), (.int 0), (.int 0), (.int 0), (.int 0), (.int 0), (.int 0), (.int 0), (.int 0), (.int 0), (.int 0), (.int 0), (.int 0), (.int 0), (.int 0), (.int 0), (.int 0), (.int 0), (.int 0), (.int 0), (.int 0), (.int 0), (.int 0), (.int 0), (.int 0), (.int 0), (.int 0), (.int 0), (.int 0), (.int 0), (.int 0)] (.int 0) := Arv.set Ar35 aq35 S35 N35 H35 G35 (fits_nar_byte _) W36 10 rfl (Nat.le_of_ble_eq_true rfl)
  show gO (tF T36 m 64 (la3 p0 p1 p2 p3 p4 p5) [(.ref b1)])
  refine gob (fun _ k => XS.dup X36.here hx rfl (hb hby at_64) rfl rfl k) ?_
  show gO (tF T36 m 65 (la3 p0 p1 p2 p3 p4 p5) [(.ref b1), (.ref b1)])
  refine gob (fun _ k => XS.bipush X36.here hx rfl (hb hby at_65) k) ?_
  show gO (tF T36 m 67 (la3 p0 p1 p2 p3 p4 p5) [(.int 11), (.ref b1), (.ref b1)])
  refine gob (fun _ k => XS.bipush X36.here hx rfl (hb hby at_67) k) ?_
  show gO (tF T36 m 69 (la3 p0 p1 p2 p3 p4 p5) [(.int 98), (.int 11), (.ref b1), (.ref b1)])
  obtain ⟨cl38, Ar38, aq38, S38, N38, H38, G38⟩ := id V36
  have hin38 : ¬ ((11 : Int32) < 0 ∨ cl38.slots.size ≤ ((11 : Int32)).toNatClampNeg) := inb_of S38 ⟨by decide, by decide⟩
  obtain ⟨T39, h39, X39, e39, W39, st39⟩ := stB X36 hx hZ e36 Ar38 (j := (11 : Int32)) hin38 (g := (mkF m 69 (la3 p0 p1 p2 p3 p4 p5) [(.int 98), (.int 11), (.ref b1), (.ref b1)])) rfl rfl (hb hby at_69)
  refine gob st39 ?_
  have z40 : n0 ≤ h39.size := Nat.le_trans z37 (Keep.of_wr W39).1
  have N39 := Fr.snoc X39 N36 g3
  have V39 : Arv Z h39 b1 k1 .byte (44 : Int32) [(.int (48 : Int32)), (.int (49 : Int32)), (.int (50 : Int32)), (.int (51 : Int32)), (.int (52 : Int32)), (.int (53 : Int32)), (.int (54 : Int32)), (.int (55 : Int32)), (.int (56 : Int32)), (.int (57 : Int32)), (.int (97 : Int32)), (.int (98 : Int32)), (.int 0), (.int 0), (.int 0), (.int 0), (.int 0), (.int 0), (.int 0), (.int 0), (.int 0), (.int 0), (.int 0), (.int 0), (.int 0), (.int 0), (.int 0), (.int 0), (.int 0), (.int 0), (.int 0), (.int 0), (.int 0), (.int 0), (.int 0), (.int 0), (.int 0), (.int 0), (.int 0), (.int 0), (.int 0), (.int 0), (.int 0), (.int 0)] (.int 0) := Arv.set Ar38 aq38 S38 N38 H38 G38 (fits_nar_byte _) W39 11 rfl (Nat.le_of_ble_eq_true rfl)
  show gO (tF T39 m 70 (la3 p0 p1 p2 p3 p4 p5) [(.ref b1)])
  refine gob (fun _ k => XS.dup X39.here hx rfl (hb hby at_70) rfl rfl k) ?_
  show gO (tF T39 m 71 (la3 p0 p1 p2 p3 p4 p5) [(.ref b1), (.ref b1)])
  refine gob (fun _ k => XS.bipush X39.here hx rfl (hb hby at_71) k) ?_
  show gO (tF T39 m 73 (la3 p0 p1 p2 p3 p4 p5) [(.int 12), (.ref b1), (.ref b1)])
  refine gob (fun _ k => XS.bipush X39.here hx rfl (hb hby at_73) k) ?_
  show gO (tF T39 m 75 (la3 p0 p1 p2 p3 p4 p5) [(.int 99), (.int 12), (.ref b1), (.ref b1)])
  obtain ⟨cl41, Ar41, aq41, S41, N41, H41, G41⟩ := id V39
  have hin41 : ¬ ((12 : Int32) < 0 ∨ cl41.slots.size ≤ ((12 : Int32)).toNatClampNeg) := inb_of S41 ⟨by decide, by decide⟩
  obtain ⟨T42, h42, X42, e42, W42, st42⟩ := stB X39 hx hZ e39 Ar41 (j := (12 : Int32)) hin41 (g := (mkF m 75 (la3 p0 p1 p2 p3 p4 p5) [(.int 99), (.int 12), (.ref b1), (.ref b1)])) rfl rfl (hb hby at_75)
  refine gob st42 ?_
  have z43 : n0 ≤ h42.size := Nat.le_trans z40 (Keep.of_wr W42).1
  have N42 := Fr.snoc X42 N39 g3
  have V42 : Arv Z h42 b1 k1 .byte (44 : Int32) [(.int (48 : Int32)), (.int (49 : Int32)), (.int (50 : Int32)), (.int (51 : Int32)), (.int (52 : Int32)), (.int (53 : Int32)), (.int (54 : Int32)), (.int (55 : Int32)), (.int (56 : Int32)), (.int (57 : Int32)), (.int (97 : Int32)), (.int (98 : Int32)), (.int (99 : Int32)), (.int 0), (.int 0), (.int 0), (.int 0), (.int 0), (.int 0), (.int 0), (.int 0), (.int 0), (.int 0), (.int 0), (.int 0), (.int 0), (.int 0), (.int 0), (.int 0), (.int 0), (.int 0), (.int 0), (.int 0), (.int 0), (.int 0), (.int 0), (.int 0), (.int 0), (.int 0), (.int 0), (.int 0), (.int 0), (.int 0), (.int 0)] (.int 0) := Arv.set Ar41 aq41 S41 N41 H41 G41 (fits_nar_byte _) W42 12 rfl (Nat.le_of_ble_eq_true rfl)
  show gO (tF T42 m 76 (la3 p0 p1 p2 p3 p4 p5) [(.ref b1)])
  refine gob (fun _ k => XS.dup X42.here hx rfl (hb hby at_76) rfl rfl k) ?_
  show gO (tF T42 m 77 (la3 p0 p1 p2 p3 p4 p5) [(.ref b1), (.ref b1)])
  refine gob (fun _ k => XS.bipush X42.here hx rfl (hb hby at_77) k) ?_
  show gO (tF T42 m 79 (la3 p0 p1 p2 p3 p4 p5) [(.int 13), (.ref b1), (.ref b1)])
  refine gob (fun _ k => XS.bipush X42.here hx rfl (hb hby at_79) k) ?_
  show gO (tF T42 m 81 (la3 p0 p1 p2 p3 p4 p5) [(.int 100), (.int 13), (.ref b1), (.ref b1)])
  obtain ⟨cl44, Ar44, aq44, S44, N44, H44, G44⟩ := id V42
  have hin44 : ¬ ((13 : Int32) < 0 ∨ cl44.slots.size ≤ ((13 : Int32)).toNatClampNeg) := inb_of S44 ⟨by decide, by decide⟩
  obtain ⟨T45, h45, X45, e45, W45, st45⟩ := stB X42 hx hZ e42 Ar44 (j := (13 : Int32)) hin44 (g := (mkF m 81 (la3 p0 p1 p2 p3 p4 p5) [(.int 100), (.int 13), (.ref b1), (.ref b1)])) rfl rfl (hb hby at_81)
  refine gob st45 ?_
  have z46 : n0 ≤ h45.size := Nat.le_trans z43 (Keep.of_wr W45).1
  have N45 := Fr.snoc X45 N42 g3
  have V45 : Arv Z h45 b1 k1 .byte (44 : Int32) [(.int (48 : Int32)), (.int (49 : Int32)), (.int (50 : Int32)), (.int (51 : Int32)), (.int (52 : Int32)), (.int (53 : Int32)), (.int (54 : Int32)), (.int (55 : Int32)), (.int (56 : Int32)), (.int (57 : Int32)), (.int (97 : Int32)), (.int (98 : Int32)), (.int (99 : Int32)), (.int (100 : Int32)), (.int 0), (.int 0), (.int 0), (.int 0), (.int 0), (.int 0), (.int 0), (.int 0), (.int 0), (.int 0), (.int 0), (.int 0), (.int 0), (.int 0), (.int 0), (.int 0), (.int 0), (.int 0), (.int 0), (.int 0), (.int 0), (.int 0), (.int 0), (.int 0), (.int 0), (.int 0), (.int 0), (.int 0), (.int 0), (.int 0)] (.int 0) := Arv.set Ar44 aq44 S44 N44 H44 G44 (fits_nar_byte _) W45 13 rfl (Nat.le_of_ble_eq_true rfl)
  show gO (tF T45 m 82 (la3 p0 p1 p2 p3 p4 p5) [(.ref b1)])
  refine gob (fun _ k => XS.dup X45.here hx rfl (hb hby at_82) rfl rfl k) ?_
  show gO (tF T45 m 83 (la3 p0 p1 p2 p3 p4 p5) [(.ref b1), (.ref b1)])
  refine gob (fun _ k => XS.bipush X45.here hx rfl (hb hby at_83) k) ?_
  show gO (tF T45 m 85 (la3 p0 p1 p2 p3 p4 p5) [(.int 14), (.ref b1), (.ref b1)])
  refine gob (fun _ k => XS.bipush X45.here hx rfl (hb hby at_85) k) ?_
  show gO (tF T45 m 87 (la3 p0 p1 p2 p3 p4 p5) [(.int 101), (.int 14), (.ref b1), (.ref b1)])
  obtain ⟨cl47, Ar47, aq47, S47, N47, H47, G47⟩ := id V45
  have hin47 : ¬ ((14 : Int32) < 0 ∨ cl47.slots.size ≤ ((14 : Int32)).toNatClampNeg) := inb_of S47 ⟨by decide, by decide⟩
  obtain ⟨T48, h48, X48, e48, W48, st48⟩ := stB X45 hx hZ e45 Ar47 (j := (14 : Int32)) hin47 (g := (mkF m 87 (la3 p0 p1 p2 p3 p4 p5) [(.int 101), (.int 14), (.ref b1), (.ref b1)])) rfl rfl (hb hby at_87)
  refine gob st48 ?_
  have z49 : n0 ≤ h48.size := Nat.le_trans z46 (Keep.of_wr W48).1
  have N48 := Fr.snoc X48 N45 g3
  have V48 : Arv Z h48 b1 k1 .byte (44 : Int32) [(.int (48 : Int32)), (.int (49 : Int32)), (.int (50 : Int32)), (.int (51 : Int32)), (.int (52 : Int32)), (.int (53 : Int32)), (.int (54 : Int32)), (.int (55 : Int32)), (.int (56 : Int32)), (.int (57 : Int32)), (.int (97 : Int32)), (.int (98 : Int32)), (.int (99 : Int32)), (.int (100 : Int32)), (.int (101 : Int32)), (.int 0), (.int 0), (.int 0), (.int 0), (.int 0), (.int 0), (.int 0), (.int 0), (.int 0), (.int 0), (.int 0), (.int 0), (.int 0), (.int 0), (.int 0), (.int 0), (.int 0), (.int 0), (.int 0), (.int 0), (.int 0), (.int 0), (.int 0), (.int 0), (.int 0), (.int 0), (.int 0), (.int 0), (.int 0)] (.int 0) := Arv.set Ar47 aq47 S47 N47 H47 G47 (fits_nar_byte _) W48 14 rfl (Nat.le_of_ble_eq_true rfl)
  show gO (tF T48 m 88 (la3 p0 p1 p2 p3 p4 p5) [(.ref b1)])
  refine gob (fun _ k => XS.dup X48.here hx rfl (hb hby at_88) rfl rfl k) ?_
  show gO (tF T48 m 89 (la3 p0 p1 p2 p3 p4 p5) [(.ref b1), (.ref b1)])
  refine gob (fun _ k => XS.bipush X48.here hx rfl (hb hby at_89) k) ?_
  show gO (tF T48 m 91 (la3 p0 p1 p2 p3 p4 p5) [(.int 15), (.ref b1), (.ref b1)])
  refine gob (fun _ k => XS.bipush X48.here hx rfl (hb hby at_91) k) ?_
  show gO (tF T48 m 93 (la3 p0 p1 p2 p3 p4 p5) [(.int 102), (.int 15), (.ref b1), (.ref b1)])
  obtain ⟨cl50, Ar50, aq50, S50, N50, H50, G50⟩ := id V48
  have hin50 : ¬ ((15 : Int32) < 0 ∨ cl50.slots.size ≤ ((15 : Int32)).toNatClampNeg) := inb_of S50 ⟨by decide, by decide⟩
  obtain ⟨T51, h51, X51, e51, W51, st51⟩ := stB X48 hx hZ e48 Ar50 (j := (15 : Int32)) hin50 (g := (mkF m 93 (la3 p0 p1 p2 p3 p4 p5) [(.int 102), (.int 15), (.ref b1), (.ref b1)])) rfl rfl (hb hby at_93)
  refine gob st51 ?_
  have z52 : n0 ≤ h51.size := Nat.le_trans z49 (Keep.of_wr W51).1
  have N51 := Fr.snoc X51 N48 g3
  have V51 : Arv Z h51 b1 k1 .byte (44 : Int32) [(.int (48 : Int32)), (.int (49 : Int32)), (.int (50 : Int32)), (.int (51 : Int32)), (.int (52 : Int32)), (.int (53 : Int32)), (.int (54 : Int32)), (.int (55 : Int32)), (.int (56 : Int32)), (.int (57 : Int32)), (.int (97 : Int32)), (.int (98 : Int32)), (.int (99 : Int32)), (.int (100 : Int32)), (.int (101 : Int32)), (.int (102 : Int32)), (.int 0), (.int 0), (.int 0), (.int 0), (.int 0), (.int 0), (.int 0), (.int 0), (.int 0), (.int 0), (.int 0), (.int 0), (.int 0), (.int 0), (.int 0), (.int 0), (.int 0), (.int 0), (.int 0), (.int 0), (.int 0), (.int 0), (.int 0), (.int 0), (.int 0), (.int 0), (.int 0), (.int 0)] (.int 0) := Arv.set Ar50 aq50 S50 N50 H50 G50 (fits_nar_byte _) W51 15 rfl (Nat.le_of_ble_eq_true rfl)
  show gO (tF T51 m 94 (la3 p0 p1 p2 p3 p4 p5) [(.ref b1)])
  refine gob (fun _ k => XS.dup X51.here hx rfl (hb hby at_94) rfl rfl k) ?_
  show gO (tF T51 m 95 (la3 p0 p1 p2 p3 p4 p5) [(.ref b1), (.ref b1)])
  refine gob (fun _ k => XS.bipush X51.here hx rfl (hb hby at_95) k) ?_
  show gO (tF T51 m 97 (la3 p0 p1 p2 p3 p4 p5) [(.int 16), (.ref b1), (.ref b1)])
  refine gob (fun _ k => XS.bipush X51.here hx rfl (hb hby at_97) k) ?_
  show gO (tF T51 m 99 (la3 p0 p1 p2 p3 p4 p5) [(.int 48), (.int 16), (.ref b1), (.ref b1)])
  obtain ⟨cl53, Ar53, aq53, S53, N53, H53, G53⟩ := id V51
  have hin53 : ¬ ((16 : Int32) < 0 ∨ cl53.slots.size ≤ ((16 : Int32)).toNatClampNeg) := inb_of S53 ⟨by decide, by decide⟩
  obtain ⟨T54, h54, X54, e54, W54, st54⟩ := stB X51 hx hZ e51 Ar53 (j := (16 : Int32)) hin53 (g := (mkF m 99 (la3 p0 p1 p2 p3 p4 p5) [(.int 48), (.int 16), (.ref b1), (.ref b1)])) rfl rfl (hb hby at_99)
  refine gob st54 ?_
  have z55 : n0 ≤ h54.size := Nat.le_trans z52 (Keep.of_wr W54).1
  have N54 := Fr.snoc X54 N51 g3
  have V54 : Arv Z h54 b1 k1 .byte (44 : Int32) [(.int (48 : Int32)), (.int (49 : Int32)), (.int (50 : Int32)), (.int (51 : Int32)), (.int (52 : Int32)), (.int (53 : Int32)), (.int (54 : Int32)), (.int (55 : Int32)), (.int (56 : Int32)), (.int (57 : Int32)), (.int (97 : Int32)), (.int (98 : Int32)), (.int (99 : Int32)), (.int (100 : Int32)), (.int (101 : Int32)), (.int (102 : Int32)), (.int (48 : Int32)), (.int 0), (.int 0), (.int 0), (.int 0), (.int 0), (.int 0), (.int 0), (.int 0), (.int 0), (.int 0), (.int 0), (.int 0), (.int 0), (.int 0), (.int 0), (.int 0), (.int 0), (.int 0), (.int 0), (.int 0), (.int 0), (.int 0), (.int 0), (.int 0), (.int 0), (.int 0), (.int 0)] (.int 0) := Arv.set Ar53 aq53 S53 N53 H53 G53 (fits_nar_byte _) W54 16 rfl (Nat.le_of_ble_eq_true rfl)
  show gO (tF T54 m 100 (la3 p0 p1 p2 p3 p4 p5) [(.ref b1)])
  refine gob (fun _ k => XS.dup X54.here hx rfl (hb hby at_100) rfl rfl k) ?_
  show gO (tF T54 m 101 (la3 p0 p1 p2 p3 p4 p5) [(.ref b1), (.ref b1)])
  refine gob (fun _ k => XS.bipush X54.here hx rfl (hb hby at_101) k) ?_
  show gO (tF T54 m 103 (la3 p0 p1 p2 p3 p4 p5) [(.int 17), (.ref b1), (.ref b1)])
  refine gob (fun _ k => XS.bipush X54.here hx rfl (hb hby at_103) k) ?_
  show gO (tF T54 m 105 (la3 p0 p1 p2 p3 p4 p5) [(.int 49), (.int 17), (.ref b1), (.ref b1)])
  obtain ⟨cl56, Ar56, aq56, S56, N56, H56, G56⟩ := id V54
  have hin56 : ¬ ((17 : Int32) < 0 ∨ cl56.slots.size ≤ ((17 : Int32)).toNatClampNeg) := inb_of S56 ⟨by decide, by decide⟩
  obtain ⟨T57, h57, X57, e57, W57, st57⟩ := stB X54 hx hZ e54 Ar56 (j := (17 : Int32)) hin56 (g := (mkF m 105 (la3 p0 p1 p2 p3 p4 p5) [(.int 49), (.int 17), (.ref b1), (.ref b1)])) rfl rfl (hb hby at_105)
  refine gob st57 ?_
  have z58 : n0 ≤ h57.size := Nat.le_trans z55 (Keep.of_wr W57).1
  have N57 := Fr.snoc X57 N54 g3
  have V57 : Arv Z h57 b1 k1 .byte (44 : Int32) [(.int (48 : Int32)), (.int (49 : Int32)), (.int (50 : Int32)), (.int (51 : Int32)), (.int (52 : Int32)), (.int (53 : Int32)), (.int (54 : Int32)), (.int (55 : Int32)), (.int (56 : Int32)), (.int (57 : Int32)), (.int (97 : Int32)), (.int (98 : Int32)), (.int (99 : Int32)), (.int (100 : Int32)), (.int (101 : Int32)), (.int (102 : Int32)), (.int (48 : Int32)), (.int (49 : Int32)), (.int 0), (.int 0), (.int 0), (.int 0), (.int 0), (.int 0), (.int 0), (.int 0), (.int 0), (.int 0), (.int 0), (.int 0), (.int 0), (.int 0), (.int 0), (.int 0), (.int 0), (.int 0), (.int 0), (.int 0), (.int 0), (.int 0), (.int 0), (.int 0), (.int 0), (.int 0)] (.int 0) := Arv.set Ar56 aq56 S56 N56 H56 G56 (fits_nar_byte _) W57 17 rfl (Nat.le_of_ble_eq_true rfl)
  show gO (tF T57 m 106 (la3 p0 p1 p2 p3 p4 p5) [(.ref b1)])
  refine gob (fun _ k => XS.dup X57.here hx rfl (hb hby at_106) rfl rfl k) ?_
  show gO (tF T57 m 107 (la3 p0 p1 p2 p3 p4 p5) [(.ref b1), (.ref b1)])
  refine gob (fun _ k => XS.bipush X57.here hx rfl (hb hby at_107) k) ?_
  show gO (tF T57 m 109 (la3 p0 p1 p2 p3 p4 p5) [(.int 18), (.ref b1), (.ref b1)])
  refine gob (fun _ k => XS.bipush X57.here hx rfl (hb hby at_109) k) ?_
  show gO (tF T57 m 111 (la3 p0 p1 p2 p3 p4 p5) [(.int 50), (.int 18), (.ref b1), (.ref b1)])
  obtain ⟨cl59, Ar59, aq59, S59, N59, H59, G59⟩ := id V57
  have hin59 : ¬ ((18 : Int32) < 0 ∨ cl59.slots.size ≤ ((18 : Int32)).toNatClampNeg) := inb_of S59 ⟨by decide, by decide⟩
  obtain ⟨T60, h60, X60, e60, W60, st60⟩ := stB X57 hx hZ e57 Ar59 (j := (18 : Int32)) hin59 (g := (mkF m 111 (la3 p0 p1 p2 p3 p4 p5) [(.int 50), (.int 18), (.ref b1), (.ref b1)])) rfl rfl (hb hby at_111)
  refine gob st60 ?_
  have z61 : n0 ≤ h60.size := Nat.le_trans z58 (Keep.of_wr W60).1
  have N60 := Fr.snoc X60 N57 g3
  have V60 : Arv Z h60 b1 k1 .byte (44 : Int32) [(.int (48 : Int32)), (.int (49 : Int32)), (.int (50 : Int32)), (.int (51 : Int32)), (.int (52 : Int32)), (.int (53 : Int32)), (.int (54 : Int32)), (.int (55 : Int32)), (.int (56 : Int32)), (.int (57 : Int32)), (.int (97 : Int32)), (.int (98 : Int32)), (.int (99 : Int32)), (.int (100 : Int32)), (.int (101 : Int32)), (.int (102 : Int32)), (.int (48 : Int32)), (.int (49 : Int32)), (.int (50 : Int32)), (.int 0), (.int 0), (.int 0), (.int 0), (.int 0), (.int 0), (.int 0), (.int 0), (.int 0), (.int 0), (.int 0), (.int 0), (.int 0), (.int 0), (.int 0), (.int 0), (.int 0), (.int 0), (.int 0), (.int 0), (.int 0), (.int 0), (.int 0), (.int 0), (.int 0)] (.int 0) := Arv.set Ar59 aq59 S59 N59 H59 G59 (fits_nar_byte _) W60 18 rfl (Nat.le_of_ble_eq_true rfl)
  show gO (tF T60 m 112 (la3 p0 p1 p2 p3 p4 p5) [(.ref b1)])
  refine gob (fun _ k => XS.dup X60.here hx rfl (hb hby at_112) rfl rfl k) ?_
  show gO (tF T60 m 113 (la3 p0 p1 p2 p3 p4 p5) [(.ref b1), (.ref b1)])
  refine gob (fun _ k => XS.bipush X60.here hx rfl (hb hby at_113) k) ?_
  show gO (tF T60 m 115 (la3 p0 p1 p2 p3 p4 p5) [(.int 19), (.ref b1), (.ref b1)])
  refine gob (fun _ k => XS.bipush X60.here hx rfl (hb hby at_115) k) ?_
  show gO (tF T60 m 117 (la3 p0 p1 p2 p3 p4 p5) [(.int 51), (.int 19), (.ref b1), (.ref b1)])
  obtain ⟨cl62, Ar62, aq62, S62, N62, H62, G62⟩ := id V60
  have hin62 : ¬ ((19 : Int32) < 0 ∨ cl62.slots.size ≤ ((19 : Int32)).toNatClampNeg) := inb_of S62 ⟨by decide, by decide⟩
  obtain ⟨T63, h63, X63, e63, W63, st63⟩ := stB X60 hx hZ e60 Ar62 (j := (19 : Int32)) hin62 (g := (mkF m 117 (la3 p0 p1 p2 p3 p4 p5) [(.int 51), (.int 19), (.ref b1), (.ref b1)])) rfl rfl (hb hby at_117)
  refine gob st63 ?_
  have z64 : n0 ≤ h63.size := Nat.le_trans z61 (Keep.of_wr W63).1
  have N63 := Fr.snoc X63 N60 g3
  have V63 : Arv Z h63 b1 k1 .byte (44 : Int32) [(.int (48 : Int32)), (.int (49 : Int32)), (.int (50 : Int32)), (.int (51 : Int32)), (.int (52 : Int32)), (.int (53 : Int32)), (.int (54 : Int32)), (.int (55 : Int32)), (.int (56 : Int32)), (.int (57 : Int32)), (.int (97 : Int32)), (.int (98 : Int32)), (.int (99 : Int32)), (.int (100 : Int32)), (.int (101 : Int32)), (.int (102 : Int32)), (.int (48 : Int32)), (.int (49 : Int32)), (.int (50 : Int32)), (.int (51 : Int32)), (.int 0), (.int 0), (.int 0), (.int 0), (.int 0), (.int 0), (.int 0), (.int 0), (.int 0), (.int 0), (.int 0), (.int 0), (.int 0), (.int 0), (.int 0), (.int 0), (.int 0), (.int 0), (.int 0), (.int 0), (.int 0), (.int 0), (.int 0), (.int 0)] (.int 0) := Arv.set Ar62 aq62 S62 N62 H62 G62 (fits_nar_byte _) W63 19 rfl (Nat.le_of_ble_eq_true rfl)
  show gO (tF T63 m 118 (la3 p0 p1 p2 p3 p4 p5) [(.ref b1)])
  refine gob (fun _ k => XS.dup X63.here hx rfl (hb hby at_118) rfl rfl k) ?_
  show gO (tF T63 m 119 (la3 p0 p1 p2 p3 p4 p5) [(.ref b1), (.ref b1)])
  refine gob (fun _ k => XS.bipush X63.here hx rfl (hb hby at_119) k) ?_
  show gO (tF T63 m 121 (la3 p0 p1 p2 p3 p4 p5) [(.int 20), (.ref b1), (.ref b1)])
  refine gob (fun _ k => XS.bipush X63.here hx rfl (hb hby at_121) k) ?_
  show gO (tF T63 m 123 (la3 p0 p1 p2 p3 p4 p5) [(.int 52), (.int 20), (.ref b1), (.ref b1)])
  obtain ⟨cl65, Ar65, aq65, S65, N65, H65, G65⟩ := id V63
  have hin65 : ¬ ((20 : Int32) < 0 ∨ cl65.slots.size ≤ ((20 : Int32)).toNatClampNeg) := inb_of S65 ⟨by decide, by decide⟩
  obtain ⟨T66, h66, X66, e66, W66, st66⟩ := stB X63 hx hZ e63 Ar65 (j := (20 : Int32)) hin65 (g := (mkF m 123 (la3 p0 p1 p2 p3 p4 p5) [(.int 52), (.int 20), (.ref b1), (.ref b1)])) rfl rfl (hb hby at_123)
  refine gob st66 ?_
  have z67 : n0 ≤ h66.size := Nat.le_trans z64 (Keep.of_wr W66).1
  have N66 := Fr.snoc X66 N63 g3
  have V66 : Arv Z h66 b1 k1 .byte (44 : Int32) [(.int (48 : Int32)), (.int (49 : Int32)), (.int (50 : Int32)), (.int (51 : Int32)), (.int (52 : Int32)), (.int (53 : Int32)), (.int (54 : Int32)), (.int (55 : Int32)), (.int (56 : Int32)), (.int (57 : Int32)), (.int (97 : Int32)), (.int (98 : Int32)), (.int (99 : Int32)), (.int (100 : Int32)), (.int (101 : Int32)), (.int (102 : Int32)), (.int (48 : Int32)), (.int (49 : Int32)), (.int (50 : Int32)), (.int (51 : Int32)), (.int (52 : Int32)), (.int 0), (.int 0), (.int 0), (.int 0), (.int 0), (.int 0), (.int 0), (.int 0), (.int 0), (.int 0), (.int 0), (.int 0), (.int 0), (.int 0), (.int 0), (.int 0), (.int 0), (.int 0), (.int 0), (.int 0), (.int 0), (.int 0), (.int 0)] (.int 0) := Arv.set Ar65 aq65 S65 N65 H65 G65 (fits_nar_byte _) W66 20 rfl (Nat.le_of_ble_eq_true rfl)
  show gO (tF T66 m 124 (la3 p0 p1 p2 p3 p4 p5) [(.ref b1)])
  refine gob (fun _ k => XS.dup X66.here hx rfl (hb hby at_124) rfl rfl k) ?_
  show gO (tF T66 m 125 (la3 p0 p1 p2 p3 p4 p5) [(.ref b1), (.ref b1)])
  refine gob (fun _ k => XS.bipush X66.here hx rfl (hb hby at_125) k) ?_
  show gO (tF T66 m 127 (la3 p0 p1 p2 p3 p4 p5) [(.int 21), (.ref b1), (.ref b1)])
  refine gob (fun _ k => XS.bipush X66.here hx rfl (hb hby at_127) k) ?_
  show gO (tF T66 m 129 (la3 p0 p1 p2 p3 p4 p5) [(.int 53), (.int 21), (.ref b1), (.ref b1)])
  obtain ⟨cl68, Ar68, aq68, S68, N68, H68, G68⟩ := id V66
  have hin68 : ¬ ((21 : Int32) < 0 ∨ cl68.slots.size ≤ ((21 : Int32)).toNatClampNeg) := inb_of S68 ⟨by decide, by decide⟩
  obtain ⟨T69, h69, X69, e69, W69, st69⟩ := stB X66 hx hZ e66 Ar68 (j := (21 : Int32)) hin68 (g := (mkF m 129 (la3 p0 p1 p2 p3 p4 p5) [(.int 53), (.int 21), (.ref b1), (.ref b1)])) rfl rfl (hb hby at_129)
  refine gob st69 ?_
  have z70 : n0 ≤ h69.size := Nat.le_trans z67 (Keep.of_wr W69).1
  have N69 := Fr.snoc X69 N66 g3
  have V69 : Arv Z h69 b1 k1 .byte (44 : Int32) [(.int (48 : Int32)), (.int (49 : Int32)), (.int (50 : Int32)), (.int (51 : Int32)), (.int (52 : Int32)), (.int (53 : Int32)), (.int (54 : Int32)), (.int (55 : Int32)), (.int (56 : Int32)), (.int (57 : Int32)), (.int (97 : Int32)), (.int (98 : Int32)), (.int (99 : Int32)), (.int (100 : Int32)), (.int (101 : Int32)), (.int (102 : Int32)), (.int (48 : Int32)), (.int (49 : Int32)), (.int (50 : Int32)), (.int (51 : Int32)), (.int (52 : Int32)), (.int (53 : Int32)), (.int 0), (.int 0), (.int 0), (.int 0), (.int 0), (.int 0), (.int 0), (.int 0), (.int 0), (.int 0), (.int 0), (.int 0), (.int 0), (.int 0), (.int 0), (.int 0), (.int 0), (.int 0), (.int 0), (.int 0), (.int 0), (.int 0)] (.int 0) := Arv.set Ar68 aq68 S68 N68 H68 G68 (fits_nar_byte _) W69 21 rfl (Nat.le_of_ble_eq_true rfl)
  show gO (tF T69 m 130 (la3 p0 p1 p2 p3 p4 p5) [(.ref b1)])
  refine gob (fun _ k => XS.dup X69.here hx rfl (hb hby at_130) rfl rfl k) ?_
  show gO (tF T69 m 131 (la3 p0 p1 p2 p3 p4 p5) [(.ref b1), (.ref b1)])
  refine gob (fun _ k => XS.bipush X69.here hx rfl (hb hby at_131) k) ?_
  show gO (tF T69 m 133 (la3 p0 p1 p2 p3 p4 p5) [(.int 22), (.ref b1), (.ref b1)])
  refine gob (fun _ k => XS.bipush X69.here hx rfl (hb hby at_133) k) ?_
  show gO (tF T69 m 135 (la3 p0 p1 p2 p3 p4 p5) [(.int 54), (.int 22), (.ref b1), (.ref b1)])
  obtain ⟨cl71, Ar71, aq71, S71, N71, H71, G71⟩ := id V69
  have hin71 : ¬ ((22 : Int32) < 0 ∨ cl71.slots.size ≤ ((22 : Int32)).toNatClampNeg) := inb_of S71 ⟨by decide, by decide⟩
  obtain ⟨T72, h72, X72, e72, W72, st72⟩ := stB X69 hx hZ e69 Ar71 (j := (22 : Int32)) hin71 (g := (mkF m 135 (la3 p0 p1 p2 p3 p4 p5) [(.int 54), (.int 22), (.ref b1), (.ref b1)])) rfl rfl (hb hby at_135)
  refine gob st72 ?_
  have z73 : n0 ≤ h72.size := Nat.le_trans z70 (Keep.of_wr W72).1
  have N72 := Fr.snoc X72 N69 g3
  have V72 : Arv Z h72 b1 k1 .byte (44 : Int32) [(.int (48 : Int32)), (.int (49 : Int32)), (.int (50 : Int32)), (.int (51 : Int32)), (.int (52 : Int32)), (.int (53 : Int32)), (.int (54 : Int32)), (.int (55 : Int32)), (.int (56 : Int32)), (.int (57 : Int32)), (.int (97 : Int32)), (.int (98 : Int32)), (.int (99 : Int32)), (.int (100 : Int32)), (.int (101 : Int32)), (.int (102 : Int32)), (.int (48 : Int32)), (.int (49 : Int32)), (.int (50 : Int32)), (.int (51 : Int32)), (.int (52 : Int32)), (.int (53 : Int32)), (.int (54 : Int32)), (.int 0), (.int 0), (.int 0), (.int 0), (.int 0), (.int 0), (.int 0), (.int 0), (.int 0), (.int 0), (.int 0), (.int 0), (.int 0), (.int 0), (.int 0), (.int 0), (.int 0), (.int 0), (.int 0), (.int 0), (.int 0)] (.int 0) := Arv.set Ar71 aq71 S71 N71 H71 G71 (fits_nar_byte _) W72 22 rfl (Nat.le_of_ble_eq_true rfl)
  show gO (tF T72 m 136 (la3 p0 p1 p2 p3 p4 p5) [(.ref b1)])
  refine gob (fun _ k => XS.dup X72.here hx rfl (hb hby at_136) rfl rfl k) ?_
  show gO (tF T72 m 137 (la3 p0 p1 p2 p3 p4 p5) [(.ref b1), (.ref b1)])
  refine gob (fun _ k => XS.bipush X72.here hx rfl (hb hby at_137) k) ?_
  show gO (tF T72 m 139 (la3 p0 p1 p2 p3 p4 p5) [(.int 23), (.ref b1), (.ref b1)])
  refine gob (fun _ k => XS.bipush X72.here hx rfl (hb hby at_139) k) ?_
  show gO (tF T72 m 141 (la3 p0 p1 p2 p3 p4 p5) [(.int 55), (.int 23), (.ref b1), (.ref b1)])
  obtain ⟨cl74, Ar74, aq74, S74, N74, H74, G74⟩ := id V72
  have hin74 : ¬ ((23 : Int32) < 0 ∨ cl74.slots.size ≤ ((23 : Int32)).toNatClampNeg) := inb_of S74 ⟨by decide, by decide⟩
  obtain ⟨T75, h75, X75, e75, W75, st75⟩ := stB X72 hx hZ e72 Ar74 (j := (23 : Int32)) hin74 (g := (mkF m 141 (la3 p0 p1 p2 p3 p4 p5) [(.int 55), (.int 23), (.ref b1), (.ref b1)])) rfl rfl (hb hby at_141)
  refine gob st75 ?_
  have z76 : n0 ≤ h75.size := Nat.le_trans z73 (Keep.of_wr W75).1
  have N75 := Fr.snoc X75 N72 g3
  have V75 : Arv Z h75 b1 k1 .byte (44 : Int32) [(.int (48 : Int32)), (.int (49 : Int32)), (.int (50 : Int32)), (.int (51 : Int32)), (.int (52 : Int32)), (.int (53 : Int32)), (.int (54 : Int32)), (.int (55 : Int32)), (.int (56 : Int32)), (.int (57 : Int32)), (.int (97 : Int32)), (.int (98 : Int32)), (.int (99 : Int32)), (.int (100 : Int32)), (.int (101 : Int32)), (.int (102 : Int32)), (.int (48 : Int32)), (.int (49 : Int32)), (.int (50 : Int32)), (.int (51 : Int32)), (.int (52 : Int32)), (.int (53 : Int32)), (.int (54 : Int32)), (.int (55 : Int32)), (.int 0), (.int 0), (.int 0), (.int 0), (.int 0), (.int 0), (.int 0), (.int 0), (.int 0), (.int 0), (.int 0), (.int 0), (.int 0), (.int 0), (.int 0), (.int 0), (.int 0), (.int 0), (.int 0), (.int 0)] (.int 0) := Arv.set Ar74 aq74 S74 N74 H74 G74 (fits_nar_byte _) W75 23 rfl (Nat.le_of_ble_eq_true rfl)
  show gO (tF T75 m 142 (la3 p0 p1 p2 p3 p4 p5) [(.ref b1)])
  refine gob (fun _ k => XS.dup X75.here hx rfl (hb hby at_142) rfl rfl k) ?_
  show gO (tF T75 m 143 (la3 p0 p1 p2 p3 p4 p5) [(.ref b1), (.ref b1)])
  refine gob (fun _ k => XS.bipush X75.here hx rfl (hb hby at_143) k) ?_
  show gO (tF T75 m 145 (la3 p0 p1 p2 p3 p4 p5) [(.int 24), (.ref b1), (.ref b1)])
  refine gob (fun _ k => XS.bipush X75.here hx rfl (hb hby at_145) k) ?_
  show gO (tF T75 m 147 (la3 p0 p1 p2 p3 p4 p5) [(.int 56), (.int 24), (.ref b1), (.ref b1)])
  obtain ⟨cl77, Ar77, aq77, S77, N77, H77, G77⟩ := id V75
  have hin77 : ¬ ((24 : Int32) < 0 ∨ cl77.slots.size ≤ ((24 : Int32)).toNatClampNeg) := inb_of S77 ⟨by decide, by decide⟩
  obtain ⟨T78, h78, X78, e78, W78, st78⟩ := stB X75 hx hZ e75 Ar77 (j := (24 : Int32)) hin77 (g := (mkF m 147 (la3 p0 p1 p2 p3 p4 p5) [(.int 56), (.int 24), (.ref b1), (.ref b1)])) rfl rfl (hb hby at_147)
  refine gob st78 ?_
  have z79 : n0 ≤ h78.size := Nat.le_trans z76 (Keep.of_wr W78).1
  have N78 := Fr.snoc X78 N75 g3
  have V78 : Arv Z h78 b1 k1 .byte (44 : Int32) [(.int (48 : Int32)), (.int (49 : Int32)), (.int (50 : Int32)), (.int (51 : Int32)), (.int (52 : Int32)), (.int (53 : Int32)), (.int (54 : Int32)), (.int (55 : Int32)), (.int (56 : Int32)), (.int (57 : Int32)), (.int (97 : Int32)), (.int (98 : Int32)), (.int (99 : Int32)), (.int (100 : Int32)), (.int (101 : Int32)), (.int (102 : Int32)), (.int (48 : Int32)), (.int (49 : Int32)), (.int (50 : Int32)), (.int (51 : Int32)), (.int (52 : Int32)), (.int (53 : Int32)), (.int (54 : Int32)), (.int (55 : Int32)), (.int (56 : Int32)), (.int 0), (.int 0), (.int 0), (.int 0), (.int 0), (.int 0), (.int 0), (.int 0), (.int 0), (.int 0), (.int 0), (.int 0), (.int 0), (.int 0), (.int 0), (.int 0), (.int 0), (.int 0), (.int 0)] (.int 0) := Arv.set Ar77 aq77 S77 N77 H77 G77 (fits_nar_byte _) W78 24 rfl (Nat.le_of_ble_eq_true rfl)
  show gO (tF T78 m 148 (la3 p0 p1 p2 p3 p4 p5) [(.ref b1)])
  refine gob (fun _ k => XS.dup X78.here hx rfl (hb hby at_148) rfl rfl k) ?_
  show gO (tF T78 m 149 (la3 p0 p1 p2 p3 p4 p5) [(.ref b1), (.ref b1)])
  refine gob (fun _ k => XS.bipush X78.here hx rfl (hb hby at_149) k) ?_
  show gO (tF T78 m 151 (la3 p0 p1 p2 p3 p4 p5) [(.int 25), (.ref b1), (.ref b1)])
  refine gob (fun _ k => XS.bipush X78.here hx rfl (hb hby at_151) k) ?_
  show gO (tF T78 m 153 (la3 p0 p1 p2 p3 p4 p5) [(.int 57), (.int 25), (.ref b1), (.ref b1)])
  obtain ⟨cl80, Ar80, aq80, S80, N80, H80, G80⟩ := id V78
  have hin80 : ¬ ((25 : Int32) < 0 ∨ cl80.slots.size ≤ ((25 : Int32)).toNatClampNeg) := inb_of S80 ⟨by decide, by decide⟩
  obtain ⟨T81, h81, X81, e81, W81, st81⟩ := stB X78 hx hZ e78 Ar80 (j := (25 : Int32)) hin80 (g := (mkF m 153 (la3 p0 p1 p2 p3 p4 p5) [(.int 57), (.int 25), (.ref b1), (.ref b1)])) rfl rfl (hb hby at_153)
  refine gob st81 ?_
  have z82 : n0 ≤ h81.size := Nat.le_trans z79 (Keep.of_wr W81).1
  have N81 := Fr.snoc X81 N78 g3
  have V81 : Arv Z h81 b1 k1 .byte (44 : Int32) [(.int (48 : Int32)), (.int (49 : Int32)), (.int (50 : Int32)), (.int (51 : Int32)), (.int (52 : Int32)), (.int (53 : Int32)), (.int (54 : Int32)), (.int (55 : Int32)), (.int (56 : Int32)), (.int (57 : Int32)), (.int (97 : Int32)), (.int (98 : Int32)), (.int (99 : Int32)), (.int (100 : Int32)), (.int (101 : Int32)), (.int (102 : Int32)), (.int (48 : Int32)), (.int (49 : Int32)), (.int (50 : Int32)), (.int (51 : Int32)), (.int (52 : Int32)), (.int (53 : Int32)), (.int (54 : Int32)), (.int (55 : Int32)), (.int (56 : Int32)), (.int (57 : Int32)), (.int 0), (.int 0), (.int 0), (.int 0), (.int 0), (.int 0), (.int 0), (.int 0), (.int 0), (.int 0), (.int 0), (.int 0), (.int 0), (.int 0), (.int 0), (.int 0), (.int 0), (.int 0)] (.int 0) := Arv.set Ar80 aq80 S80 N80 H80 G80 (fits_nar_byte _) W81 25 rfl (Nat.le_of_ble_eq_true rfl)
  show gO (tF T81 m 154 (la3 p0 p1 p2 p3 p4 p5) [(.ref b1)])
  refine gob (fun _ k => XS.dup X81.here hx rfl (hb hby at_154) rfl rfl k) ?_
  show gO (tF T81 m 155 (la3 p0 p1 p2 p3 p4 p5) [(.ref b1), (.ref b1)])
  refine gob (fun _ k => XS.bipush X81.here hx rfl (hb hby at_155) k) ?_
  show gO (tF T81 m 157 (la3 p0 p1 p2 p3 p4 p5) [(.int 26), (.ref b1), (.ref b1)])
  refine gob (fun _ k => XS.bipush X81.here hx rfl (hb hby at_157) k) ?_
  show gO (tF T81 m 159 (la3 p0 p1 p2 p3 p4 p5) [(.int 97), (.int 26), (.ref b1), (.ref b1)])
  obtain ⟨cl83, Ar83, aq83, S83, N83, H83, G83⟩ := id V81
  have hin83 : ¬ ((26 : Int32) < 0 ∨ cl83.slots.size ≤ ((26 : Int32)).toNatClampNeg) := inb_of S83 ⟨by decide, by decide⟩
  obtain ⟨T84, h84, X84, e84, W84, st84⟩ := stB X81 hx hZ e81 Ar83 (j := (26 : Int32)) hin83 (g := (mkF m 159 (la3 p0 p1 p2 p3 p4 p5) [(.int 97), (.int 26), (.ref b1), (.ref b1)])) rfl rfl (hb hby at_159)
  refine gob st84 ?_
  have z85 : n0 ≤ h84.size := Nat.le_trans z82 (Keep.of_wr W84).1
  have N84 := Fr.snoc X84 N81 g3
  have V84 : Arv Z h84 b1 k1 .byte (44 : Int32) [(.int (48 : Int32)), (.int (49 : Int32)), (.int (50 : Int32)), (.int (51 : Int32)), (.int (52 : Int32)), (.int (53 : Int32)), (.int (54 : Int32)), (.int (55 : Int32)), (.int (56 : Int32)), (.int (57 : Int32)), (.int (97 : Int32)), (.int (98 : Int32)), (.int (99 : Int32)), (.int (100 : Int32)), (.int (101 : Int32)), (.int (102 : Int32)), (.int (48 : Int32)), (.int (49 : Int32)), (.int (50 : Int32)), (.int (51 : Int32)), (.int (52 : Int32)), (.int (53 : Int32)), (.int (54 : Int32)), (.int (55 : Int32)), (.int (56 : Int32)), (.int (57 : Int32)), (.int (97 : Int32)), (.int 0), (.int 0), (.int 0), (.int 0), (.int 0), (.int 0), (.int 0), (.int 0), (.int 0), (.int 0), (.int 0), (.int 0), (.int 0), (.int 0), (.int 0), (.int 0), (.int 0)] (.int 0) := Arv.set Ar83 aq83 S83 N83 H83 G83 (fits_nar_byte _) W84 26 rfl (Nat.le_of_ble_eq_true rfl)
  show gO (tF T84 m 160 (la3 p0 p1 p2 p3 p4 p5) [(.ref b1)])
  refine gob (fun _ k => XS.dup X84.here hx rfl (hb hby at_160) rfl rfl k) ?_
  show gO (tF T84 m 161 (la3 p0 p1 p2 p3 p4 p5) [(.ref b1), (.ref b1)])
  refine gob (fun _ k => XS.bipush X84.here hx rfl (hb hby at_161) k) ?_
  show gO (tF T84 m 163 (la3 p0 p1 p2 p3 p4 p5) [(.int 27), (.ref b1), (.ref b1)])
  refine gob (fun _ k => XS.bipush X84.here hx rfl (hb hby at_163) k) ?_
  show gO (tF T84 m 165 (la3 p0 p1 p2 p3 p4 p5) [(.int 98), (.int 27), (.ref b1), (.ref b1)])
  obtain ⟨cl86, Ar86, aq86, S86, N86, H86, G86⟩ := id V84
  have hin86 : ¬ ((27 : Int32) < 0 ∨ cl86.slots.size ≤ ((27 : Int32)).toNatClampNeg) := inb_of S86 ⟨by decide, by decide⟩
  obtain ⟨T87, h87, X87, e87, W87, st87⟩ := stB X84 hx hZ e84 Ar86 (j := (27 : Int32)) hin86 (g := (mkF m 165 (la3 p0 p1 p2 p3 p4 p5) [(.int 98), (.int 27), (.ref b1), (.ref b1)])) rfl rfl (hb hby at_165)
  refine gob st87 ?_
  have z88 : n0 ≤ h87.size := Nat.le_trans z85 (Keep.of_wr W87).1
  have N87 := Fr.snoc X87 N84 g3
  have V87 : Arv Z h87 b1 k1 .byte (44 : Int32) [(.int (48 : Int32)), (.int (49 : Int32)), (.int (50 : Int32)), (.int (51 : Int32)), (.int (52 : Int32)), (.int (53 : Int32)), (.int (54 : Int32)), (.int (55 : Int32)), (.int (56 : Int32)), (.int (57 : Int32)), (.int (97 : Int32)), (.int (98 : Int32)), (.int (99 : Int32)), (.int (100 : Int32)), (.int (101 : Int32)), (.int (102 : Int32)), (.int (48 : Int32)), (.int (49 : Int32)), (.int (50 : Int32)), (.int (51 : Int32)), (.int (52 : Int32)), (.int (53 : Int32)), (.int (54 : Int32)), (.int (55 : Int32)), (.int (56 : Int32)), (.int (57 : Int32)), (.int (97 : Int32)), (.int (98 : Int32)), (.int 0), (.int 0), (.int 0), (.int 0), (.int 0), (.int 0), (.int 0), (.int 0), (.int 0), (.int 0), (.int 0), (.int 0), (.int 0), (.int 0), (.int 0), (.int 0)] (.int 0) := Arv.set Ar86 aq86 S86 N86 H86 G86 (fits_nar_byte _) W87 27 rfl (Nat.le_of_ble_eq_true rfl)
  show gO (tF T87 m 166 (la3 p0 p1 p2 p3 p4 p5) [(.ref b1)])
  refine gob (fun _ k => XS.dup X87.here hx rfl (hb hby at_166) rfl rfl k) ?_
  show gO (tF T87 m 167 (la3 p0 p1 p2 p3 p4 p5) [(.ref b1), (.ref b1)])
  refine gob (fun _ k => XS.bipush X87.here hx rfl (hb hby at_167) k) ?_
  show gO (tF T87 m 169 (la3 p0 p1 p2 p3 p4 p5) [(.int 28), (.ref b1), (.ref b1)])
  refine gob (fun _ k => XS.bipush X87.here hx rfl (hb hby at_169) k) ?_
  show gO (tF T87 m 171 (la3 p0 p1 p2 p3 p4 p5) [(.int 99), (.int 28), (.ref b1), (.ref b1)])
  obtain ⟨cl89, Ar89, aq89, S89, N89, H89, G89⟩ := id V87
  have hin89 : ¬ ((28 : Int32) < 0 ∨ cl89.slots.size ≤ ((28 : Int32)).toNatClampNeg) := inb_of S89 ⟨by decide, by decide⟩
  obtain ⟨T90, h90, X90, e90, W90, st90⟩ := stB X87 hx hZ e87 Ar89 (j := (28 : Int32)) hin89 (g := (mkF m 171 (la3 p0 p1 p2 p3 p4 p5) [(.int 99), (.int 28), (.ref b1), (.ref b1)])) rfl rfl (hb hby at_171)
  refine gob st90 ?_
  have z91 : n0 ≤ h90.size := Nat.le_trans z88 (Keep.of_wr W90).1
  have N90 := Fr.snoc X90 N87 g3
  have V90 : Arv Z h90 b1 k1 .byte (44 : Int32) [(.int (48 : Int32)), (.int (49 : Int32)), (.int (50 : Int32)), (.int (51 : Int32)), (.int (52 : Int32)), (.int (53 : Int32)), (.int (54 : Int32)), (.int (55 : Int32)), (.int (56 : Int32)), (.int (57 : Int32)), (.int (97 : Int32)), (.int (98 : Int32)), (.int (99 : Int32)), (.int (100 : Int32)), (.int (101 : Int32)), (.int (102 : Int32)), (.int (48 : Int32)), (.int (49 : Int32)), (.int (50 : Int32)), (.int (51 : Int32)), (.int (52 : Int32)), (.int (53 : Int32)), (.int (54 : Int32)), (.int (55 : Int32)), (.int (56 : Int32)), (.int (57 : Int32)), (.int (97 : Int32)), (.int (98 : Int32)), (.int (99 : Int32)), (.int 0), (.int 0), (.int 0), (.int 0), (.int 0), (.int 0), (.int 0), (.int 0), (.int 0), (.int 0), (.int 0), (.int 0), (.int 0), (.int 0), (.int 0)] (.int 0) := Arv.set Ar89 aq89 S89 N89 H89 G89 (fits_nar_byte _) W90 28 rfl (Nat.le_of_ble_eq_true rfl)
  show gO (tF T90 m 172 (la3 p0 p1 p2 p3 p4 p5) [(.ref b1)])
  refine gob (fun _ k => XS.dup X90.here hx rfl (hb hby at_172) rfl rfl k) ?_
  show gO (tF T90 m 173 (la3 p0 p1 p2 p3 p4 p5) [(.ref b1), (.ref b1)])
  refine gob (fun _ k => XS.bipush X90.here hx rfl (hb hby at_173) k) ?_
  show gO (tF T90 m 175 (la3 p0 p1 p2 p3 p4 p5) [(.int 29), (.ref b1), (.ref b1)])
  refine gob (fun _ k => XS.bipush X90.here hx rfl (hb hby at_175) k) ?_
  show gO (tF T90 m 177 (la3 p0 p1 p2 p3 p4 p5) [(.int 100), (.int 29), (.ref b1), (.ref b1)])
  obtain ⟨cl92, Ar92, aq92, S92, N92, H92, G92⟩ := id V90
  have hin92 : ¬ ((29 : Int32) < 0 ∨ cl92.slots.size ≤ ((29 : Int32)).toNatClampNeg) := inb_of S92 ⟨by decide, by decide⟩
  obtain ⟨T93, h93, X93, e93, W93, st93⟩ := stB X90 hx hZ e90 Ar92 (j := (29 : Int32)) hin92 (g := (mkF m 177 (la3 p0 p1 p2 p3 p4 p5) [(.int 100), (.int 29), (.ref b1), (.ref b1)])) rfl rfl (hb hby at_177)
  refine gob st93 ?_
  have z94 : n0 ≤ h93.size := Nat.le_trans z91 (Keep.of_wr W93).1
  have N93 := Fr.snoc X93 N90 g3
  have V93 : Arv Z h93 b1 k1 .byte (44 : Int32) [(.int (48 : Int32)), (.int (49 : Int32)), (.int (50 : Int32)), (.int (51 : Int32)), (.int (52 : Int32)), (.int (53 : Int32)), (.int (54 : Int32)), (.int (55 : Int32)), (.int (56 : Int32)), (.int (57 : Int32)), (.int (97 : Int32)), (.int (98 : Int32)), (.int (99 : Int32)), (.int (100 : Int32)), (.int (101 : Int32)), (.int (102 : Int32)), (.int (48 : Int32)), (.int (49 : Int32)), (.int (50 : Int32)), (.int (51 : Int32)), (.int (52 : Int32)), (.int (53 : Int32)), (.int (54 : Int32)), (.int (55 : Int32)), (.int (56 : Int32)), (.int (57 : Int32)), (.int (97 : Int32)), (.int (98 : Int32)), (.int (99 : Int32)), (.int (100 : Int32)), (.int 0), (.int 0), (.int 0), (.int 0), (.int 0), (.int 0), (.int 0), (.int 0), (.int 0), (.int 0), (.int 0), (.int 0), (.int 0), (.int 0)] (.int 0) := Arv.set Ar92 aq92 S92 N92 H92 G92 (fits_nar_byte _) W93 29 rfl (Nat.le_of_ble_eq_true rfl)
  show gO (tF T93 m 178 (la3 p0 p1 p2 p3 p4 p5) [(.ref b1)])
  refine gob (fun _ k => XS.dup X93.here hx rfl (hb hby at_178) rfl rfl k) ?_
  show gO (tF T93 m 179 (la3 p0 p1 p2 p3 p4 p5) [(.ref b1), (.ref b1)])
  refine gob (fun _ k => XS.bipush X93.here hx rfl (hb hby at_179) k) ?_
  show gO (tF T93 m 181 (la3 p0 p1 p2 p3 p4 p5) [(.int 30), (.ref b1), (.ref b1)])
  refine gob (fun _ k => XS.bipush X93.here hx rfl (hb hby at_181) k) ?_
  show gO (tF T93 m 183 (la3 p0 p1 p2 p3 p4 p5) [(.int 101), (.int 30), (.ref b1), (.ref b1)])
  obtain ⟨cl95, Ar95, aq95, S95, N95, H95, G95⟩ := id V93
  have hin95 : ¬ ((30 : Int32) < 0 ∨ cl95.slots.size ≤ ((30 : Int32)).toNatClampNeg) := inb_of S95 ⟨by decide, by decide⟩
  obtain ⟨T96, h96, X96, e96, W96, st96⟩ := stB X93 hx hZ e93 Ar95 (j := (30 : Int32)) hin95 (g := (mkF m 183 (la3 p0 p1 p2 p3 p4 p5) [(.int 101), (.int 30), (.ref b1), (.ref b1)])) rfl rfl (hb hby at_183)
  refine gob st96 ?_
  have z97 : n0 ≤ h96.size := Nat.le_trans z94 (Keep.of_wr W96).1
  have N96 := Fr.snoc X96 N93 g3
  have V96 : Arv Z h96 b1 k1 .byte (44 : Int32) [(.int (48 : Int32)), (.int (49 : Int32)), (.int (50 : Int32)), (.int (51 : Int32)), (.int (52 : Int32)), (.int (53 : Int32)), (.int (54 : Int32)), (.int (55 : Int32)), (.int (56 : Int32)), (.int (57 : Int32)), (.int (97 : Int32)), (.int (98 : Int32)), (.int (99 : Int32)), (.int (100 : Int32)), (.int (101 : Int32)), (.int (102 : Int32)), (.int (48 : Int32)), (.int (49 : Int32)), (.int (50 : Int32)), (.int (51 : Int32)), (.int (52 : Int32)), (.int (53 : Int32)), (.int (54 : Int32)), (.int (55 : Int32)), (.int (56 : Int32)), (.int (57 : Int32)), (.int (97 : Int32)), (.int (98 : Int32)), (.int (99 : Int32)), (.int (100 : Int32)), (.int (101 : Int32)), (.int 0), (.int 0), (.int 0), (.int 0), (.int 0), (.int 0), (.int 0), (.int 0), (.int 0), (.int 0), (.int 0), (.int 0), (.int 0)] (.int 0) := Arv.set Ar95 aq95 S95 N95 H95 G95 (fits_nar_byte _) W96 30 rfl (Nat.le_of_ble_eq_true rfl)
  show gO (tF T96 m 184 (la3 p0 p1 p2 p3 p4 p5) [(.ref b1)])
  refine gob (fun _ k => XS.dup X96.here hx rfl (hb hby at_184) rfl rfl k) ?_
  show gO (tF T96 m 185 (la3 p0 p1 p2 p3 p4 p5) [(.ref b1), (.ref b1)])
  refine gob (fun _ k => XS.bipush X96.here hx rfl (hb hby at_185) k) ?_
  show gO (tF T96 m 187 (la3 p0 p1 p2 p3 p4 p5) [(.int 31), (.ref b1), (.ref b1)])
  refine gob (fun _ k => XS.bipush X96.here hx rfl (hb hby at_187) k) ?_
  show gO (tF T96 m 189 (la3 p0 p1 p2 p3 p4 p5) [(.int 102), (.int 31), (.ref b1), (.ref b1)])
  obtain ⟨cl98, Ar98, aq98, S98, N98, H98, G98⟩ := id V96
  have hin98 : ¬ ((31 : Int32) < 0 ∨ cl98.slots.size ≤ ((31 : Int32)).toNatClampNeg) := inb_of S98 ⟨by decide, by decide⟩
  obtain ⟨T99, h99, X99, e99, W99, st99⟩ := stB X96 hx hZ e96 Ar98 (j := (31 : Int32)) hin98 (g := (mkF m 189 (la3 p0 p1 p2 p3 p4 p5) [(.int 102), (.int 31), (.ref b1), (.ref b1)])) rfl rfl (hb hby at_189)
  refine gob st99 ?_
  have z100 : n0 ≤ h99.size := Nat.le_trans z97 (Keep.of_wr W99).1
  have N99 := Fr.snoc X99 N96 g3
  have V99 : Arv Z h99 b1 k1 .byte (44 : Int32) [(.int (48 : Int32)), (.int (49 : Int32)), (.int (50 : Int32)), (.int (51 : Int32)), (.int (52 : Int32)), (.int (53 : Int32)), (.int (54 : Int32)), (.int (55 : Int32)), (.int (56 : Int32)), (.int (57 : Int32)), (.int (97 : Int32)), (.int (98 : Int32)), (.int (99 : Int32)), (.int (100 : Int32)), (.int (101 : Int32)), (.int (102 : Int32)), (.int (48 : Int32)), (.int (49 : Int32)), (.int (50 : Int32)), (.int (51 : Int32)), (.int (52 : Int32)), (.int (53 : Int32)), (.int (54 : Int32)), (.int (55 : Int32)), (.int (56 : Int32)), (.int (57 : Int32)), (.int (97 : Int32)), (.int (98 : Int32)), (.int (99 : Int32)), (.int (100 : Int32)), (.int (101 : Int32)), (.int (102 : Int32)), (.int 0), (.int 0), (.int 0), (.int 0), (.int 0), (.int 0), (.int 0), (.int 0), (.int 0), (.int 0), (.int 0), (.int 0)] (.int 0) := Arv.set Ar98 aq98 S98 N98 H98 G98 (fits_nar_byte _) W99 31 rfl (Nat.le_of_ble_eq_true rfl)
  show gO (tF T99 m 190 (la3 p0 p1 p2 p3 p4 p5) [(.ref b1)])
  refine gob (fun _ k => XS.dup X99.here hx rfl (hb hby at_190) rfl rfl k) ?_
  show gO (tF T99 m 191 (la3 p0 p1 p2 p3 p4 p5) [(.ref b1), (.ref b1)])
  refine gob (fun _ k => XS.bipush X99.here hx rfl (hb hby at_191) k) ?_
  show gO (tF T99 m 193 (la3 p0 p1 p2 p3 p4 p5) [(.int 32), (.ref b1), (.ref b1)])
  refine gob (fun _ k => XS.bipush X99.here hx rfl (hb hby at_193) k) ?_
  show gO (tF T99 m 195 (la3 p0 p1 p2 p3 p4 p5) [(.int 48), (.int 32), (.ref b1), (.ref b1)])
  obtain ⟨cl101, Ar101, aq101, S101, N101, H101, G101⟩ := id V99
  have hin101 : ¬ ((32 : Int32) < 0 ∨ cl101.slots.size ≤ ((32 : Int32)).toNatClampNeg) := inb_of S101 ⟨by decide, by decide⟩
  obtain ⟨T102, h102, X102, e102, W102, st102⟩ := stB X99 hx hZ e99 Ar101 (j := (32 : Int32)) hin101 (g := (mkF m 195 (la3 p0 p1 p2 p3 p4 p5) [(.int 48), (.int 32), (.ref b1), (.ref b1)])) rfl rfl (hb hby at_195)
  refine gob st102 ?_
  have z103 : n0 ≤ h102.size := Nat.le_trans z100 (Keep.of_wr W102).1
  have N102 := Fr.snoc X102 N99 g3
  have V102 : Arv Z h102 b1 k1 .byte (44 : Int32) [(.int (48 : Int32)), (.int (49 : Int32)), (.int (50 : Int32)), (.int (51 : Int32)), (.int (52 : Int32)), (.int (53 : Int32)), (.int (54 : Int32)), (.int (55 : Int32)), (.int (56 : Int32)), (.int (57 : Int32)), (.int (97 : Int32)), (.int (98 : Int32)), (.int (99 : Int32)), (.int (100 : Int32)), (.int (101 : Int32)), (.int (102 : Int32)), (.int (48 : Int32)), (.int (49 : Int32)), (.int (50 : Int32)), (.int (51 : Int32)), (.int (52 : Int32)), (.int (53 : Int32)), (.int (54 : Int32)), (.int (55 : Int32)), (.int (56 : Int32)), (.int (57 : Int32)), (.int (97 : Int32)), (.int (98 : Int32)), (.int (99 : Int32)), (.int (100 : Int32)), (.int (101 : Int32)), (.int (102 : Int32)), (.int (48 : Int32)), (.int 0), (.int 0), (.int 0), (.int 0), (.int 0), (.int 0), (.int 0), (.int 0), (.int 0), (.int 0), (.int 0)] (.int 0) := Arv.set Ar101 aq101 S101 N101 H101 G101 (fits_nar_byte _) W102 32 rfl (Nat.le_of_ble_eq_true rfl)
  show gO (tF T102 m 196 (la3 p0 p1 p2 p3 p4 p5) [(.ref b1)])
  refine gob (fun _ k => XS.dup X102.here hx rfl (hb hby at_196) rfl rfl k) ?_
  show gO (tF T102 m 197 (la3 p0 p1 p2 p3 p4 p5) [(.ref b1), (.ref b1)])
  refine gob (fun _ k => XS.bipush X102.here hx rfl (hb hby at_197) k) ?_
  show gO (tF T102 m 199 (la3 p0 p1 p2 p3 p4 p5) [(.int 33), (.ref b1), (.ref b1)])
  refine gob (fun _ k => XS.bipush X102.here hx rfl (hb hby at_199) k) ?_
  show gO (tF T102 m 201 (la3 p0 p1 p2 p3 p4 p5) [(.int 49), (.int 33), (.ref b1), (.ref b1)])
  obtain ⟨cl104, Ar104, aq104, S104, N104, H104, G104⟩ := id V102
  have hin104 : ¬ ((33 : Int32) < 0 ∨ cl104.slots.size ≤ ((33 : Int32)).toNatClampNeg) := inb_of S104 ⟨by decide, by decide⟩
  obtain ⟨T105, h105, X105, e105, W105, st105⟩ := stB X102 hx hZ e102 Ar104 (j := (33 : Int32)) hin104 (g := (mkF m 201 (la3 p0 p1 p2 p3 p4 p5) [(.int 49), (.int 33), (.ref b1), (.ref b1)])) rfl rfl (hb hby at_201)
  refine gob st105 ?_
  have z106 : n0 ≤ h105.size := Nat.le_trans z103 (Keep.of_wr W105).1
  have N105 := Fr.snoc X105 N102 g3
  have V105 : Arv Z h105 b1 k1 .byte (44 : Int32) [(.int (48 : Int32)), (.int (49 : Int32)), (.int (50 : Int32)), (.int (51 : Int32)), (.int (52 : Int32)), (.int (53 : Int32)), (.int (54 : Int32)), (.int (55 : Int32)), (.int (56 : Int32)), (.int (57 : Int32)), (.int (97 : Int32)), (.int (98 : Int32)), (.int (99 : Int32)), (.int (100 : Int32)), (.int (101 : Int32)), (.int (102 : Int32)), (.int (48 : Int32)), (.int (49 : Int32)), (.int (50 : Int32)), (.int (51 : Int32)), (.int (52 : Int32)), (.int (53 : Int32)), (.int (54 : Int32)), (.int (55 : Int32)), (.int (56 : Int32)), (.int (57 : Int32)), (.int (97 : Int32)), (.int (98 : Int32)), (.int (99 : Int32)), (.int (100 : Int32)), (.int (101 : Int32)), (.int (102 : Int32)), (.int (48 : Int32)), (.int (49 : Int32)), (.int 0), (.int 0), (.int 0), (.int 0), (.int 0), (.int 0), (.int 0), (.int 0), (.int 0), (.int 0)] (.int 0) := Arv.set Ar104 aq104 S104 N104 H104 G104 (fits_nar_byte _) W105 33 rfl (Nat.le_of_ble_eq_true rfl)
  show gO (tF T105 m 202 (la3 p0 p1 p2 p3 p4 p5) [(.ref b1)])
  refine gob (fun _ k => XS.dup X105.here hx rfl (hb hby at_202) rfl rfl k) ?_
  show gO (tF T105 m 203 (la3 p0 p1 p2 p3 p4 p5) [(.ref b1), (.ref b1)])
  refine gob (fun _ k => XS.bipush X105.here hx rfl (hb hby at_203) k) ?_
  show gO (tF T105 m 205 (la3 p0 p1 p2 p3 p4 p5) [(.int 34), (.ref b1), (.ref b1)])
  refine gob (fun _ k => XS.bipush X105.here hx rfl (hb hby at_205) k) ?_
  show gO (tF T105 m 207 (la3 p0 p1 p2 p3 p4 p5) [(.int 50), (.int 34), (.ref b1), (.ref b1)])
  obtain ⟨cl107, Ar107, aq107, S107, N107, H107, G107⟩ := id V105
  have hin107 : ¬ ((34 : Int32) < 0 ∨ cl107.slots.size ≤ ((34 : Int32)).toNatClampNeg) := inb_of S107 ⟨by decide, by decide⟩
  obtain ⟨T108, h108, X108, e108, W108, st108⟩ := stB X105 hx hZ e105 Ar107 (j := (34 : Int32)) hin107 (g := (mkF m 207 (la3 p0 p1 p2 p3 p4 p5) [(.int 50), (.int 34), (.ref b1), (.ref b1)])) rfl rfl (hb hby at_207)
  refine gob st108 ?_
  have z109 : n0 ≤ h108.size := Nat.le_trans z106 (Keep.of_wr W108).1
  have N108 := Fr.snoc X108 N105 g3
  have V108 : Arv Z h108 b1 k1 .byte (44 : Int32) [(.int (48 : Int32)), (.int (49 : Int32)), (.int (50 : Int32)), (.int (51 : Int32)), (.int (52 : Int32)), (.int (53 : Int32)), (.int (54 : Int32)), (.int (55 : Int32)), (.int (56 : Int32)), (.int (57 : Int32)), (.int (97 : Int32)), (.int (98 : Int32)), (.int (99 : Int32)), (.int (100 : Int32)), (.int (101 : Int32)), (.int (102 : Int32)), (.int (48 : Int32)), (.int (49 : Int32)), (.int (50 : Int32)), (.int (51 : Int32)), (.int (52 : Int32)), (.int (53 : Int32)), (.int (54 : Int32)), (.int (55 : Int32)), (.int (56 : Int32)), (.int (57 : Int32)), (.int (97 : Int32)), (.int (98 : Int32)), (.int (99 : Int32)), (.int (100 : Int32)), (.int (101 : Int32)), (.int (102 : Int32)), (.int (48 : Int32)), (.int (49 : Int32)), (.int (50 : Int32)), (.int 0), (.int 0), (.int 0), (.int 0), (.int 0), (.int 0), (.int 0), (.int 0), (.int 0)] (.int 0) := Arv.set Ar107 aq107 S107 N107 H107 G107 (fits_nar_byte _) W108 34 rfl (Nat.le_of_ble_eq_true rfl)
  show gO (tF T108 m 208 (la3 p0 p1 p2 p3 p4 p5) [(.ref b1)])
  refine gob (fun _ k => XS.dup X108.here hx rfl (hb hby at_208) rfl rfl k) ?_
  show gO (tF T108 m 209 (la3 p0 p1 p2 p3 p4 p5) [(.ref b1), (.ref b1)])
  refine gob (fun _ k => XS.bipush X108.here hx rfl (hb hby at_209) k) ?_
  show gO (tF T108 m 211 (la3 p0 p1 p2 p3 p4 p5) [(.int 35), (.ref b1), (.ref b1)])
  refine gob (fun _ k => XS.bipush X108.here hx rfl (hb hby at_211) k) ?_
  show gO (tF T108 m 213 (la3 p0 p1 p2 p3 p4 p5) [(.int 51), (.int 35), (.ref b1), (.ref b1)])
  obtain ⟨cl110, Ar110, aq110, S110, N110, H110, G110⟩ := id V108
  have hin110 : ¬ ((35 : Int32) < 0 ∨ cl110.slots.size ≤ ((35 : Int32)).toNatClampNeg) := inb_of S110 ⟨by decide, by decide⟩
  obtain ⟨T111, h111, X111, e111, W111, st111⟩ := stB X108 hx hZ e108 Ar110 (j := (35 : Int32)) hin110 (g := (mkF m 213 (la3 p0 p1 p2 p3 p4 p5) [(.int 51), (.int 35), (.ref b1), (.ref b1)])) rfl rfl (hb hby at_213)
  refine gob st111 ?_
  have z112 : n0 ≤ h111.size := Nat.le_trans z109 (Keep.of_wr W111).1
  have N111 := Fr.snoc X111 N108 g3
  have V111 : Arv Z h111 b1 k1 .byte (44 : Int32) [(.int (48 : Int32)), (.int (49 : Int32)), (.int (50 : Int32)), (.int (51 : Int32)), (.int (52 : Int32)), (.int (53 : Int32)), (.int (54 : Int32)), (.int (55 : Int32)), (.int (56 : Int32)), (.int (57 : Int32)), (.int (97 : Int32)), (.int (98 : Int32)), (.int (99 : Int32)), (.int (100 : Int32)), (.int (101 : Int32)), (.int (102 : Int32)), (.int (48 : Int32)), (.int (49 : Int32)), (.int (50 : Int32)), (.int (51 : Int32)), (.int (52 : Int32)), (.int (53 : Int32)), (.int (54 : Int32)), (.int (55 : Int32)), (.int (56 : Int32)), (.int (57 : Int32)), (.int (97 : Int32)), (.int (98 : Int32)), (.int (99 : Int32)), (.int (100 : Int32)), (.int (101 : Int32)), (.int (102 : Int32)), (.int (48 : Int32)), (.int (49 : Int32)), (.int (50 : Int32)), (.int (51 : Int32)), (.int 0), (.int 0), (.int 0), (.int 0), (.int 0), (.int 0), (.int 0), (.int 0)] (.int 0) := Arv.set Ar110 aq110 S110 N110 H110 G110 (fits_nar_byte _) W111 35 rfl (Nat.le_of_ble_eq_true rfl)
  show gO (tF T111 m 214 (la3 p0 p1 p2 p3 p4 p5) [(.ref b1)])
  refine gob (fun _ k => XS.dup X111.here hx rfl (hb hby at_214) rfl rfl k) ?_
  show gO (tF T111 m 215 (la3 p0 p1 p2 p3 p4 p5) [(.ref b1), (.ref b1)])
  refine gob (fun _ k => XS.bipush X111.here hx rfl (hb hby at_215) k) ?_
  show gO (tF T111 m 217 (la3 p0 p1 p2 p3 p4 p5) [(.int 36), (.ref b1), (.ref b1)])
  refine gob (fun _ k => XS.bipush X111.here hx rfl (hb hby at_217) k) ?_
  show gO (tF T111 m 219 (la3 p0 p1 p2 p3 p4 p5) [(.int 52), (.int 36), (.ref b1), (.ref b1)])
  obtain ⟨cl113, Ar113, aq113, S113, N113, H113, G113⟩ := id V111
  have hin113 : ¬ ((36 : Int32) < 0 ∨ cl113.slots.size ≤ ((36 : Int32)).toNatClampNeg) := inb_of S113 ⟨by decide, by decide⟩
  obtain ⟨T114, h114, X114, e114, W114, st114⟩ := stB X111 hx hZ e111 Ar113 (j := (36 : Int32)) hin113 (g := (mkF m 219 (la3 p0 p1 p2 p3 p4 p5) [(.int 52), (.int 36), (.ref b1), (.ref b1)])) rfl rfl (hb hby at_219)
  refine gob st114 ?_
  have z115 : n0 ≤ h114.size := Nat.le_trans z112 (Keep.of_wr W114).1
  have N114 := Fr.snoc X114 N111 g3
  have V114 : Arv Z h114 b1 k1 .byte (44 : Int32) [(.int (48 : Int32)), (.int (49 : Int32)), (.int (50 : Int32)), (.int (51 : Int32)), (.int (52 : Int32)), (.int (53 : Int32)), (.int (54 : Int32)), (.int (55 : Int32)), (.int (56 : Int32)), (.int (57 : Int32)), (.int (97 : Int32)), (.int (98 : Int32)), (.int (99 : Int32)), (.int (100 : Int32)), (.int (101 : Int32)), (.int (102 : Int32)), (.int (48 : Int32)), (.int (49 : Int32)), (.int (50 : Int32)), (.int (51 : Int32)), (.int (52 : Int32)), (.int (53 : Int32)), (.int (54 : Int32)), (.int (55 : Int32)), (.int (56 : Int32)), (.int (57 : Int32)), (.int (97 : Int32)), (.int (98 : Int32)), (.int (99 : Int32)), (.int (100 : Int32)), (.int (101 : Int32)), (.int (102 : Int32)), (.int (48 : Int32)), (.int (49 : Int32)), (.int (50 : Int32)), (.int (51 : Int32)), (.int (52 : Int32)), (.int 0), (.int 0), (.int 0), (.int 0), (.int 0), (.int 0), (.int 0)] (.int 0) := Arv.set Ar113 aq113 S113 N113 H113 G113 (fits_nar_byte _) W114 36 rfl (Nat.le_of_ble_eq_true rfl)
  show gO (tF T114 m 220 (la3 p0 p1 p2 p3 p4 p5) [(.ref b1)])
  refine gob (fun _ k => XS.dup X114.here hx rfl (hb hby at_220) rfl rfl k) ?_
  show gO (tF T114 m 221 (la3 p0 p1 p2 p3 p4 p5) [(.ref b1), (.ref b1)])
  refine gob (fun _ k => XS.bipush X114.here hx rfl (hb hby at_221) k) ?_
  show gO (tF T114 m 223 (la3 p0 p1 p2 p3 p4 p5) [(.int 37), (.ref b1), (.ref b1)])
  refine gob (fun _ k => XS.bipush X114.here hx rfl (hb hby at_223) k) ?_
  show gO (tF T114 m 225 (la3 p0 p1 p2 p3 p4 p5) [(.int 53), (.int 37), (.ref b1), (.ref b1)])
  obtain ⟨cl116, Ar116, aq116, S116, N116, H116, G116⟩ := id V114
  have hin116 : ¬ ((37 : Int32) < 0 ∨ cl116.slots.size ≤ ((37 : Int32)).toNatClampNeg) := inb_of S116 ⟨by decide, by decide⟩
  obtain ⟨T117, h117, X117, e117, W117, st117⟩ := stB X114 hx hZ e114 Ar116 (j := (37 : Int32)) hin116 (g := (mkF m 225 (la3 p0 p1 p2 p3 p4 p5) [(.int 53), (.int 37), (.ref b1), (.ref b1)])) rfl rfl (hb hby at_225)
  refine gob st117 ?_
  have z118 : n0 ≤ h117.size := Nat.le_trans z115 (Keep.of_wr W117).1
  have N117 := Fr.snoc X117 N114 g3
  have V117 : Arv Z h117 b1 k1 .byte (44 : Int32) [(.int (48 : Int32)), (.int (49 : Int32)), (.int (50 : Int32)), (.int (51 : Int32)), (.int (52 : Int32)), (.int (53 : Int32)), (.int (54 : Int32)), (.int (55 : Int32)), (.int (56 : Int32)), (.int (57 : Int32)), (.int (97 : Int32)), (.int (98 : Int32)), (.int (99 : Int32)), (.int (100 : Int32)), (.int (101 : Int32)), (.int (102 : Int32)), (.int (48 : Int32)), (.int (49 : Int32)), (.int (50 : Int32)), (.int (51 : Int32)), (.int (52 : Int32)), (.int (53 : Int32)), (.int (54 : Int32)), (.int (55 : Int32)), (.int (56 : Int32)), (.int (57 : Int32)), (.int (97 : Int32)), (.int (98 : Int32)), (.int (99 : Int32)), (.int (100 : Int32)), (.int (101 : Int32)), (.int (102 : Int32)), (.int (48 : Int32)), (.int (49 : Int32)), (.int (50 : Int32)), (.int (51 : Int32)), (.int (52 : Int32)), (.int (53 : Int32)), (.int 0), (.int 0), (.int 0), (.int 0), (.int 0), (.int 0)] (.int 0) := Arv.set Ar116 aq116 S116 N116 H116 G116 (fits_nar_byte _) W117 37 rfl (Nat.le_of_ble_eq_true rfl)
  show gO (tF T117 m 226 (la3 p0 p1 p2 p3 p4 p5) [(.ref b1)])
  refine gob (fun _ k => XS.dup X117.here hx rfl (hb hby at_226) rfl rfl k) ?_
  show gO (tF T117 m 227 (la3 p0 p1 p2 p3 p4 p5) [(.ref b1), (.ref b1)])
  refine gob (fun _ k => XS.bipush X117.here hx rfl (hb hby at_227) k) ?_
  show gO (tF T117 m 229 (la3 p0 p1 p2 p3 p4 p5) [(.int 38), (.ref b1), (.ref b1)])
  refine gob (fun _ k => XS.bipush X117.here hx rfl (hb hby at_229) k) ?_
  show gO (tF T117 m 231 (la3 p0 p1 p2 p3 p4 p5) [(.int 54), (.int 38), (.ref b1), (.ref b1)])
  obtain ⟨cl119, Ar119, aq119, S119, N119, H119, G119⟩ := id V117
  have hin119 : ¬ ((38 : Int32) < 0 ∨ cl119.slots.size ≤ ((38 : Int32)).toNatClampNeg) := inb_of S119 ⟨by decide, by decide⟩
  obtain ⟨T120, h120, X120, e120, W120, st120⟩ := stB X117 hx hZ e117 Ar119 (j := (38 : Int32)) hin119 (g := (mkF m 231 (la3 p0 p1 p2 p3 p4 p5) [(.int 54), (.int 38), (.ref b1), (.ref b1)])) rfl rfl (hb hby at_231)
  refine gob st120 ?_
  have z121 : n0 ≤ h120.size := Nat.le_trans z118 (Keep.of_wr W120).1
  have N120 := Fr.snoc X120 N117 g3
  have V120 : Arv Z h120 b1 k1 .byte (44 : Int32) [(.int (48 : Int32)), (.int (49 : Int32)), (.int (50 : Int32)), (.int (51 : Int32)), (.int (52 : Int32)), (.int (53 : Int32)), (.int (54 : Int32)), (.int (55 : Int32)), (.int (56 : Int32)), (.int (57 : Int32)), (.int (97 : Int32)), (.int (98 : Int32)), (.int (99 : Int32)), (.int (100 : Int32)), (.int (101 : Int32)), (.int (102 : Int32)), (.int (48 : Int32)), (.int (49 : Int32)), (.int (50 : Int32)), (.int (51 : Int32)), (.int (52 : Int32)), (.int (53 : Int32)), (.int (54 : Int32)), (.int (55 : Int32)), (.int (56 : Int32)), (.int (57 : Int32)), (.int (97 : Int32)), (.int (98 : Int32)), (.int (99 : Int32)), (.int (100 : Int32)), (.int (101 : Int32)), (.int (102 : Int32)), (.int (48 : Int32)), (.int (49 : Int32)), (.int (50 : Int32)), (.int (51 : Int32)), (.int (52 : Int32)), (.int (53 : Int32)), (.int (54 : Int32)), (.int 0), (.int 0), (.int 0), (.int 0), (.int 0)] (.int 0) := Arv.set Ar119 aq119 S119 N119 H119 G119 (fits_nar_byte _) W120 38 rfl (Nat.le_of_ble_eq_true rfl)
  show gO (tF T120 m 232 (la3 p0 p1 p2 p3 p4 p5) [(.ref b1)])
  refine gob (fun _ k => XS.dup X120.here hx rfl (hb hby at_232) rfl rfl k) ?_
  show gO (tF T120 m 233 (la3 p0 p1 p2 p3 p4 p5) [(.ref b1), (.ref b1)])
  refine gob (fun _ k => XS.bipush X120.here hx rfl (hb hby at_233) k) ?_
  show gO (tF T120 m 235 (la3 p0 p1 p2 p3 p4 p5) [(.int 39), (.ref b1), (.ref b1)])
  refine gob (fun _ k => XS.bipush X120.here hx rfl (hb hby at_235) k) ?_
  show gO (tF T120 m 237 (la3 p0 p1 p2 p3 p4 p5) [(.int 55), (.int 39), (.ref b1), (.ref b1)])
  obtain ⟨cl122, Ar122, aq122, S122, N122, H122, G122⟩ := id V120
  have hin122 : ¬ ((39 : Int32) < 0 ∨ cl122.slots.size ≤ ((39 : Int32)).toNatClampNeg) := inb_of S122 ⟨by decide, by decide⟩
  obtain ⟨T123, h123, X123, e123, W123, st123⟩ := stB X120 hx hZ e120 Ar122 (j := (39 : Int32)) hin122 (g := (mkF m 237 (la3 p0 p1 p2 p3 p4 p5) [(.int 55), (.int 39), (.ref b1), (.ref b1)])) rfl rfl (hb hby at_237)
  refine gob st123 ?_
  have z124 : n0 ≤ h123.size := Nat.le_trans z121 (Keep.of_wr W123).1
  have N123 := Fr.snoc X123 N120 g3
  have V123 : Arv Z h123 b1 k1 .byte (44 : Int32) [(.int (48 : Int32)), (.int (49 : Int32)), (.int (50 : Int32)), (.int (51 : Int32)), (.int (52 : Int32)), (.int (53 : Int32)), (.int (54 : Int32)), (.int (55 : Int32)), (.int (56 : Int32)), (.int (57 : Int32)), (.int (97 : Int32)), (.int (98 : Int32)), (.int (99 : Int32)), (.int (100 : Int32)), (.int (101 : Int32)), (.int (102 : Int32)), (.int (48 : Int32)), (.int (49 : Int32)), (.int (50 : Int32)), (.int (51 : Int32)), (.int (52 : Int32)), (.int (53 : Int32)), (.int (54 : Int32)), (.int (55 : Int32)), (.int (56 : Int32)), (.int (57 : Int32)), (.int (97 : Int32)), (.int (98 : Int32)), (.int (99 : Int32)), (.int (100 : Int32)), (.int (101 : Int32)), (.int (102 : Int32)), (.int (48 : Int32)), (.int (49 : Int32)), (.int (50 : Int32)), (.int (51 : Int32)), (.int (52 : Int32)), (.int (53 : Int32)), (.int (54 : Int32)), (.int (55 : Int32)), (.int 0), (.int 0), (.int 0), (.int 0)] (.int 0) := Arv.set Ar122 aq122 S122 N122 H122 G122 (fits_nar_byte _) W123 39 rfl (Nat.le_of_ble_eq_true rfl)
  show gO (tF T123 m 238 (la3 p0 p1 p2 p3 p4 p5) [(.ref b1)])
  refine gob (fun _ k => XS.dup X123.here hx rfl (hb hby at_238) rfl rfl k) ?_
  show gO (tF T123 m 239 (la3 p0 p1 p2 p3 p4 p5) [(.ref b1), (.ref b1)])
  refine gob (fun _ k => XS.bipush X123.here hx rfl (hb hby at_239) k) ?_
  show gO (tF T123 m 241 (la3 p0 p1 p2 p3 p4 p5) [(.int 40), (.ref b1), (.ref b1)])
  refine gob (fun _ k => XS.bipush X123.here hx rfl (hb hby at_241) k) ?_
  show gO (tF T123 m 243 (la3 p0 p1 p2 p3 p4 p5) [(.int 56), (.int 40), (.ref b1), (.ref b1)])
  obtain ⟨cl125, Ar125, aq125, S125, N125, H125, G125⟩ := id V123
  have hin125 : ¬ ((40 : Int32) < 0 ∨ cl125.slots.size ≤ ((40 : Int32)).toNatClampNeg) := inb_of S125 ⟨by decide, by decide⟩
  obtain ⟨T126, h126, X126, e126, W126, st126⟩ := stB X123 hx hZ e123 Ar125 (j := (40 : Int32)) hin125 (g := (mkF m 243 (la3 p0 p1 p2 p3 p4 p5) [(.int 56), (.int 40), (.ref b1), (.ref b1)])) rfl rfl (hb hby at_243)
  refine gob st126 ?_
  have z127 : n0 ≤ h126.size := Nat.le_trans z124 (Keep.of_wr W126).1
  have N126 := Fr.snoc X126 N123 g3
  have V126 : Arv Z h126 b1 k1 .byte (44 : Int32) [(.int (48 : Int32)), (.int (49 : Int32)), (.int (50 : Int32)), (.int (51 : Int32)), (.int (52 : Int32)), (.int (53 : Int32)), (.int (54 : Int32)), (.int (55 : Int32)), (.int (56 : Int32)), (.int (57 : Int32)), (.int (97 : Int32)), (.int (98 : Int32)), (.int (99 : Int32)), (.int (100 : Int32)), (.int (101 : Int32)), (.int (102 : Int32)), (.int (48 : Int32)), (.int (49 : Int32)), (.int (50 : Int32)), (.int (51 : Int32)), (.int (52 : Int32)), (.int (53 : Int32)), (.int (54 : Int32)), (.int (55 : Int32)), (.int (56 : Int32)), (.int (57 : Int32)), (.int (97 : Int32)), (.int (98 : Int32)), (.int (99 : Int32)), (.int (100 : Int32)), (.int (101 : Int32)), (.int (102 : Int32)), (.int (48 : Int32)), (.int (49 : Int32)), (.int (50 : Int32)), (.int (51 : Int32)), (.int (52 : Int32)), (.int (53 : Int32)), (.int (54 : Int32)), (.int (55 : Int32)), (.int (56 : Int32)), (.int 0), (.int 0), (.int 0)] (.int 0) := Arv.set Ar125 aq125 S125 N125 H125 G125 (fits_nar_byte _) W126 40 rfl (Nat.le_of_ble_eq_true rfl)
  show gO (tF T126 m 244 (la3 p0 p1 p2 p3 p4 p5) [(.ref b1)])
  refine gob (fun _ k => XS.dup X126.here hx rfl (hb hby at_244) rfl rfl k) ?_
  show gO (tF T126 m 245 (la3 p0 p1 p2 p3 p4 p5) [(.ref b1), (.ref b1)])
  refine gob (fun _ k => XS.bipush X126.here hx rfl (hb hby at_245) k) ?_
  show gO (tF T126 m 247 (la3 p0 p1 p2 p3 p4 p5) [(.int 41), (.ref b1), (.ref b1)])
  refine gob (fun _ k => XS.bipush X126.here hx rfl (hb hby at_247) k) ?_
  show gO (tF T126 m 249 (la3 p0 p1 p2 p3 p4 p5) [(.int 57), (.int 41), (.ref b1), (.ref b1)])
  obtain ⟨cl128, Ar128, aq128, S128, N128, H128, G128⟩ := id V126
  have hin128 : ¬ ((41 : Int32) < 0 ∨ cl128.slots.size ≤ ((41 : Int32)).toNatClampNeg) := inb_of S128 ⟨by decide, by decide⟩
  obtain ⟨T129, h129, X129, e129, W129, st129⟩ := stB X126 hx hZ e126 Ar128 (j := (41 : Int32)) hin128 (g := (mkF m 249 (la3 p0 p1 p2 p3 p4 p5) [(.int 57), (.int 41), (.ref b1), (.ref b1)])) rfl rfl (hb hby at_249)
  refine gob st129 ?_
  have z130 : n0 ≤ h129.size := Nat.le_trans z127 (Keep.of_wr W129).1
  have N129 := Fr.snoc X129 N126 g3
  have V129 : Arv Z h129 b1 k1 .byte (44 : Int32) [(.int (48 : Int32)), (.int (49 : Int32)), (.int (50 : Int32)), (.int (51 : Int32)), (.int (52 : Int32)), (.int (53 : Int32)), (.int (54 : Int32)), (.int (55 : Int32)), (.int (56 : Int32)), (.int (57 : Int32)), (.int (97 : Int32)), (.int (98 : Int32)), (.int (99 : Int32)), (.int (100 : Int32)), (.int (101 : Int32)), (.int (102 : Int32)), (.int (48 : Int32)), (.int (49 : Int32)), (.int (50 : Int32)), (.int (51 : Int32)), (.int (52 : Int32)), (.int (53 : Int32)), (.int (54 : Int32)), (.int (55 : Int32)), (.int (56 : Int32)), (.int (57 : Int32)), (.int (97 : Int32)), (.int (98 : Int32)), (.int (99 : Int32)), (.int (100 : Int32)), (.int (101 : Int32)), (.int (102 : Int32)), (.int (48 : Int32)), (.int (49 : Int32)), (.int (50 : Int32)), (.int (51 : Int32)), (.int (52 : Int32)), (.int (53 : Int32)), (.int (54 : Int32)), (.int (55 : Int32)), (.int (56 : Int32)), (.int (57 : Int32)), (.int 0), (.int 0)] (.int 0) := Arv.set Ar128 aq128 S128 N128 H128 G128 (fits_nar_byte _) W129 41 rfl (Nat.le_of_ble_eq_true rfl)
  show gO (tF T129 m 250 (la3 p0 p1 p2 p3 p4 p5) [(.ref b1)])
  refine gob (fun _ k => XS.dup X129.here hx rfl (hb hby at_250) rfl rfl k) ?_
  show gO (tF T129 m 251 (la3 p0 p1 p2 p3 p4 p5) [(.ref b1), (.ref b1)])
  refine gob (fun _ k => XS.bipush X129.here hx rfl (hb hby at_251) k) ?_
  show gO (tF T129 m 253 (la3 p0 p1 p2 p3 p4 p5) [(.int 42), (.ref b1), (.ref b1)])
  refine gob (fun _ k => XS.bipush X129.here hx rfl (hb hby at_253) k) ?_
  show gO (tF T129 m 255 (la3 p0 p1 p2 p3 p4 p5) [(.int 97), (.int 42), (.ref b1), (.ref b1)])
  obtain ⟨cl131, Ar131, aq131, S131, N131, H131, G131⟩ := id V129
  have hin131 : ¬ ((42 : Int32) < 0 ∨ cl131.slots.size ≤ ((42 : Int32)).toNatClampNeg) := inb_of S131 ⟨by decide, by decide⟩
  obtain ⟨T132, h132, X132, e132, W132, st132⟩ := stB X129 hx hZ e129 Ar131 (j := (42 : Int32)) hin131 (g := (mkF m 255 (la3 p0 p1 p2 p3 p4 p5) [(.int 97), (.int 42), (.ref b1), (.ref b1)])) rfl rfl (hb hby at_255)
  refine gob st132 ?_
  have z133 : n0 ≤ h132.size := Nat.le_trans z130 (Keep.of_wr W132).1
  have N132 := Fr.snoc X132 N129 g3
  have V132 : Arv Z h132 b1 k1 .byte (44 : Int32) [(.int (48 : Int32)), (.int (49 : Int32)), (.int (50 : Int32)), (.int (51 : Int32)), (.int (52 : Int32)), (.int (53 : Int32)), (.int (54 : Int32)), (.int (55 : Int32)), (.int (56 : Int32)), (.int (57 : Int32)), (.int (97 : Int32)), (.int (98 : Int32)), (.int (99 : Int32)), (.int (100 : Int32)), (.int (101 : Int32)), (.int (102 : Int32)), (.int (48 : Int32)), (.int (49 : Int32)), (.int (50 : Int32)), (.int (51 : Int32)), (.int (52 : Int32)), (.int (53 : Int32)), (.int (54 : Int32)), (.int (55 : Int32)), (.int (56 : Int32)), (.int (57 : Int32)), (.int (97 : Int32)), (.int (98 : Int32)), (.int (99 : Int32)), (.int (100 : Int32)), (.int (101 : Int32)), (.int (102 : Int32)), (.int (48 : Int32)), (.int (49 : Int32)), (.int (50 : Int32)), (.int (51 : Int32)), (.int (52 : Int32)), (.int (53 : Int32)), (.int (54 : Int32)), (.int (55 : Int32)), (.int (56 : Int32)), (.int (57 : Int32)), (.int (97 : Int32)), (.int 0)] (.int 0) := Arv.set Ar131 aq131 S131 N131 H131 G131 (fits_nar_byte _) W132 42 rfl (Nat.le_of_ble_eq_true rfl)
  show gO (tF T132 m 256 (la3 p0 p1 p2 p3 p4 p5) [(.ref b1)])
  refine gob (fun _ k => XS.dup X132.here hx rfl (hb hby at_256) rfl rfl k) ?_
  show gO (tF T132 m 257 (la3 p0 p1 p2 p3 p4 p5) [(.ref b1), (.ref b1)])
  refine gob (fun _ k => XS.bipush X132.here hx rfl (hb hby at_257) k) ?_
  show gO (tF T132 m 259 (la3 p0 p1 p2 p3 p4 p5) [(.int 43), (.ref b1), (.ref b1)])
  refine gob (fun _ k => XS.bipush X132.here hx rfl (hb hby at_259) k) ?_
  show gO (tF T132 m 261 (la3 p0 p1 p2 p3 p4 p5) [(.int 98), (.int 43), (.ref b1), (.ref b1)])
  obtain ⟨cl134, Ar134, aq134, S134, N134, H134, G134⟩ := id V132
  have hin134 : ¬ ((43 : Int32) < 0 ∨ cl134.slots.size ≤ ((43 : Int32)).toNatClampNeg) := inb_of S134 ⟨by decide, by decide⟩
  obtain ⟨T135, h135, X135, e135, W135, st135⟩ := stB X132 hx hZ e132 Ar134 (j := (43 : Int32)) hin134 (g := (mkF m 261 (la3 p0 p1 p2 p3 p4 p5) [(.int 98), (.int 43), (.ref b1), (.ref b1)])) rfl rfl (hb hby at_261)
  refine gob st135 ?_
  have z136 : n0 ≤ h135.size := Nat.le_trans z133 (Keep.of_wr W135).1
  have N135 := Fr.snoc X135 N132 g3
  have V135 : Arv Z h135 b1 k1 .byte (44 : Int32) [(.int (48 : Int32)), (.int (49 : Int32)), (.int (50 : Int32)), (.int (51 : Int32)), (.int (52 : Int32)), (.int (53 : Int32)), (.int (54 : Int32)), (.int (55 : Int32)), (.int (56 : Int32)), (.int (57 : Int32)), (.int (97 : Int32)), (.int (98 : Int32)), (.int (99 : Int32)), (.int (100 : Int32)), (.int (101 : Int32)), (.int (102 : Int32)), (.int (48 : Int32)), (.int (49 : Int32)), (.int (50 : Int32)), (.int (51 : Int32)), (.int (52 : Int32)), (.int (53 : Int32)), (.int (54 : Int32)), (.int (55 : Int32)), (.int (56 : Int32)), (.int (57 : Int32)), (.int (97 : Int32)), (.int (98 : Int32)), (.int (99 : Int32)), (.int (100 : Int32)), (.int (101 : Int32)), (.int (102 : Int32)), (.int (48 : Int32)), (.int (49 : Int32)), (.int (50 : Int32)), (.int (51 : Int32)), (.int (52 : Int32)), (.int (53 : Int32)), (.int (54 : Int32)), (.int (55 : Int32)), (.int (56 : Int32)), (.int (57 : Int32)), (.int (97 : Int32)), (.int (98 : Int32))] (.int 0) := Arv.set Ar134 aq134 S134 N134 H134 G134 (fits_nar_byte _) W135 43 rfl (Nat.le_of_ble_eq_true rfl)
  show gO (tF T135 m 262 (la3 p0 p1 p2 p3 p4 p5) [(.ref b1)])
  refine gob (fun _ k => XS.astore X135.here hx rfl (hb hby at_262) rfl rfl (l' := (la4 p0 p1 p2 p3 p4 p5 b1)) rfl k) ?_
  show gO (tF T135 m 264 (la4 p0 p1 p2 p3 p4 p5 b1) [])
  refine gob (fun _ k => XS.iloadN X135.here hx rfl (hb hby at_264) rfl k) ?_
  show gO (tF T135 m 265 (la4 p0 p1 p2 p3 p4 p5 b1) [(.int p0)])
  refine gob (X135.ldcInt hx hown (mvT hZ (hW hw 1 rfl)) (g := (mkF m 265 (la4 p0 p1 p2 p3 p4 p5 b1) [(.int p0)])) rfl (hb hby at_265)) ?_
  show gO (tF T135 m 267 (la4 p0 p1 p2 p3 p4 p5 b1) [(.int 2147483647), (.int p0)])
  refine gob (fun _ k => XS.iand X135.here hx rfl (hb hby at_267) rfl k) ?_
  show gO (tF T135 m 268 (la4 p0 p1 p2 p3 p4 p5 b1) [(.int (p0 &&& (2147483647 : Int32)))])
  refine gob (fun _ k => XS.iconst X135.here hx rfl (hb hby at_268) k) ?_
  show gO (tF T135 m 269 (la4 p0 p1 p2 p3 p4 p5 b1) [(.int 5), (.int (p0 &&& (2147483647 : Int32)))])
  refine gob (fun _ k => iremM X135 hx rfl (hb hby at_269) rfl (by decide) k) ?_
  show gO (tF T135 m 270 (la4 p0 p1 p2 p3 p4 p5 b1) [(.int ((p0 &&& (2147483647 : Int32)) % (5 : Int32)))])
  refine gob (fun _ k => XS.istore X135.here hx rfl (hb hby at_270) rfl (l' := (la5 p0 p1 p2 p3 p4 p5 b1 ((p0 &&& (2147483647 : Int32)) % (5 : Int32)))) rfl k) ?_
  show gO (tF T135 m 272 (la5 p0 p1 p2 p3 p4 p5 b1 ((p0 &&& (2147483647 : Int32)) % (5 : Int32))) [])
  generalize hx137 : ((p0 &&& (2147483647 : Int32)) % (5 : Int32)) = x137
  show gO (tF T135 m 272 (la5 p0 p1 p2 p3 p4 p5 b1 x137) [])
  refine gob (fun _ k => XS.iloadN X135.here hx rfl (hb hby at_272) rfl k) ?_
  show gO (tF T135 m 273 (la5 p0 p1 p2 p3 p4 p5 b1 x137) [(.int p1)])
  refine gob (fun _ k => XS.iconst X135.here hx rfl (hb hby at_273) k) ?_
  show gO (tF T135 m 274 (la5 p0 p1 p2 p3 p4 p5 b1 x137) [(.int 1), (.int p1)])
  refine gob (fun _ k => XS.iand X135.here hx rfl (hb hby at_274) rfl k) ?_
  show gO (tF T135 m 275 (la5 p0 p1 p2 p3 p4 p5 b1 x137) [(.int (p1 &&& (1 : Int32)))])
  have join295_140 : ∀ (T141 : State) (lj142 : List Loc) (v139 : Int32), Stand p l e room_1 s m #[(.int p0), (.int p1), (.int p2), (.int p3), (.int p4), (.int p5)] below meth c T141 lj142 1 44 → T141.heap = h135 → Fr n0 lj142 → ((p1 &&& (1 : Int32)) = (0 : Int32) ∧ v139 = (40 : Int32)) ∨ (¬ ((p1 &&& (1 : Int32)) = (0 : Int32)) ∧ v139 = ((((p1.toUInt32 >>> ((1 : Int32) &&& 31).toUInt32).toInt32) % (45 : Int32)) - (2 : Int32))) → Go p e below s (Q0 Z p0 p1 p2 p3 p4 p5 w_T h0 n0) 16 192 (T141.setTop (mkF m 295 (la6 p0 p1 p2 p3 p4 p5 b1 x137 v139) [])) := by
    intro T141 lj142 v139 X143 e144 N145 hj146
    show gO (tF T141 m 295 (la6 p0 p1 p2 p3 p4 p5 b1 x137 v139) [])
    refine gob (fun _ k => XS.iload X143.here hx rfl (hb hby at_295) rfl k) ?_
    show gO (tF T141 m 297 (la6 p0 p1 p2 p3 p4 p5 b1 x137 v139) [(.int x137)])
    refine gob (fun _ k => XS.iload X143.here hx rfl (hb hby at_297) rfl k) ?_
    show gO (tF T141 m 299 (la6 p0 p1 p2 p3 p4 p5 b1 x137 v139) [(.int v139), (.int x137)])
    refine gob (fun _ k => XS.iadd X143.here hx rfl (hb hby at_299) rfl k) ?_
    show gO (tF T141 m 300 (la6 p0 p1 p2 p3 p4 p5 b1 x137 v139) [(.int (x137 + v139))])
    refine gob (fun _ k => XS.istore X143.here hx rfl (hb hby at_300) rfl (l' := (la7 p0 p1 p2 p3 p4 p5 b1 x137 v139 (x137 + v139))) rfl k) ?_
    show gO (tF T141 m 302 (la7 p0 p1 p2 p3 p4 p5 b1 x137 v139 (x137 + v139)) [])
    generalize hx147 : (x137 + v139) = x147
    show gO (tF T141 m 302 (la7 p0 p1 p2 p3 p4 p5 b1 x137 v139 x147) [])
    refine gob (fun _ k => XS.iloadN X143.here hx rfl (hb hby at_302) rfl k) ?_
    show gO (tF T141 m 303 (la7 p0 p1 p2 p3 p4 p5 b1 x137 v139 x147) [(.int p2)])
    refine gob (X143.ldcInt hx hown (mvT hZ (hW hw 1 rfl)) (g := (mkF m 303 (la7 p0 p1 p2 p3 p4 p5 b1 x137 v139 x147) [(.int p2)])) rfl (hb hby at_303)) ?_
    show gO (tF T141 m 305 (la7 p0 p1 p2 p3 p4 p5 b1 x137 v139 x147) [(.int 2147483647), (.int p2)])
    refine gob (fun _ k => XS.iand X143.here hx rfl (hb hby at_305) rfl k) ?_
    show gO (tF T141 m 306 (la7 p0 p1 p2 p3 p4 p5 b1 x137 v139 x147) [(.int (p2 &&& (2147483647 : Int32)))])
    refine gob (fun _ k => XS.bipush X143.here hx rfl (hb hby at_306) k) ?_
    show gO (tF T141 m 308 (la7 p0 p1 p2 p3 p4 p5 b1 x137 v139 x147) [(.int 44), (.int (p2 &&& (2147483647 : Int32)))])
    refine gob (fun _ k => iremM X143 hx rfl (hb hby at_308) rfl (by decide) k) ?_
    show gO (tF T141 m 309 (la7 p0 p1 p2 p3 p4 p5 b1 x137 v139 x147) [(.int ((p2 &&& (2147483647 : Int32)) % (44 : Int32)))])
    refine gob (fun _ k => XS.istore X143.here hx rfl (hb hby at_309) rfl (l' := (la8 p0 p1 p2 p3 p4 p5 b1 x137 v139 x147 ((p2 &&& (2147483647 : Int32)) % (44 : Int32)))) rfl k) ?_
    show gO (tF T141 m 311 (la8 p0 p1 p2 p3 p4 p5 b1 x137 v139 x147 ((p2 &&& (2147483647 : Int32)) % (44 : Int32))) [])
    generalize hx148 : ((p2 &&& (2147483647 : Int32)) % (44 : Int32)) = x148
    show gO (tF T141 m 311 (la8 p0 p1 p2 p3 p4 p5 b1 x137 v139 x147 x148) [])
    refine gob (fun _ k => XS.iload X143.here hx rfl (hb hby at_311) rfl k) ?_
    show gO (tF T141 m 313 (la8 p0 p1 p2 p3 p4 p5 b1 x137 v139 x147 x148) [(.int p4)])
    refine gob (X143.ldcInt hx hown (mvT hZ (hW hw 1 rfl)) (g := (mkF m 313 (la8 p0 p1 p2 p3 p4 p5 b1 x137 v139 x147 x148) [(.int p4)])) rfl (hb hby at_313)) ?_
    show gO (tF T141 m 315 (la8 p0 p1 p2 p3 p4 p5 b1 x137 v139 x147 x148) [(.int 2147483647), (.int p4)])
    refine gob (fun _ k => XS.iand X143.here hx rfl (hb hby at_315) rfl k) ?_
    show gO (tF T141 m 316 (la8 p0 p1 p2 p3 p4 p5 b1 x137 v139 x147 x148) [(.int (p4 &&& (2147483647 : Int32)))])
    refine gob (fun _ k => XS.bipush X143.here hx rfl (hb hby at_316) k) ?_
    show gO (tF T141 m 318 (la8 p0 p1 p2 p3 p4 p5 b1 x137 v139 x147 x148) [(.int 44), (.int (p4 &&& (2147483647 : Int32)))])
    refine gob (fun _ k => iremM X143 hx rfl (hb hby at_318) rfl (by decide) k) ?_
    show gO (tF T141 m 319 (la8 p0 p1 p2 p3 p4 p5 b1 x137 v139 x147 x148) [(.int ((p4 &&& (2147483647 : Int32)) % (44 : Int32)))])
    refine gob (fun _ k => XS.istore X143.here hx rfl (hb hby at_319) rfl (l' := (la9 p0 p1 p2 p3 p4 p5 b1 x137 v139 x147 x148 ((p4 &&& (2147483647 : Int32)) % (44 : Int32)))) rfl k) ?_
    show gO (tF T141 m 321 (la9 p0 p1 p2 p3 p4 p5 b1 x137 v139 x147 x148 ((p4 &&& (2147483647 : Int32)) % (44 : Int32))) [])
    generalize hx149 : ((p4 &&& (2147483647 : Int32)) % (44 : Int32)) = x149
    show gO (tF T141 m 321 (la9 p0 p1 p2 p3 p4 p5 b1 x137 v139 x147 x148 x149) [])
    obtain ⟨cl150, Ar150, aq150, S150, N150, H150, G150⟩ := id V135
    have B0 : Bar Z h135 b1 own_base := ⟨cl150, Ar150, by rw [S150]; rfl, fun i hi => (H150 i (by rw [S150]; exact hi)).trans (congrArg some (own_base_eq i))⟩
    refine gob (fun _ k => XS.aload X143.here hx rfl (hb hby at_321) rfl rfl k) ?_
    show gO (tF T141 m 323 (la9 p0 p1 p2 p3 p4 p5 b1 x137 v139 x147 x148 x149) [(.ref b1)])
    refine gob (fun _ k => XS.iload X143.here hx rfl (hb hby at_323) rfl k) ?_
    show gO (tF T141 m 325 (la9 p0 p1 p2 p3 p4 p5 b1 x137 v139 x147 x148 x149) [(.int x148), (.ref b1)])
    refine gob (fun _ k => XS.iloadN X143.here hx rfl (hb hby at_325) rfl k) ?_
    show gO (tF T141 m 326 (la9 p0 p1 p2 p3 p4 p5 b1 x137 v139 x147 x148 x149) [(.int p3), (.int x148), (.ref b1)])
    refine gob (fun _ k => XS.i2b X143.here hx rfl (hb hby at_326) rfl k) ?_
    show gO (tF T141 m 327 (la9 p0 p1 p2 p3 p4 p5 b1 x137 v139 x147 x148 x149) [(.int (p3.toInt8.toInt32)), (.int x148), (.ref b1)])
    have hp151 : 0 ≤ x148.toInt ∧ x148.toInt < (44 : Nat) := (la_0_327_152 p2 x148 hx148)
    obtain ⟨cb153, Ab153, Sb153, Hb153⟩ := id B0
    obtain ⟨T154, h154, X154, e154, W154, st154⟩ := stB X143 hx hZ e144 Ab153 (j := x148) (own_in Sb153 hp151.1 hp151.2) (g := (mkF m 327 (la9 p0 p1 p2 p3 p4 p5 b1 x137 v139 x147 x148 x149) [(.int (p3.toInt8.toInt32)), (.int x148), (.ref b1)])) rfl rfl (hb hby at_327)
    refine gob st154 ?_
    have z155 : n0 ≤ h154.size := Nat.le_trans z136 (Keep.of_wr W154).1
    have N154 := Fr.snoc X154 N145 g3
    have B154 := own_barset Ab153 Sb153 Hb153 W154 (own_nar p3) (own_lt hp151.1 hp151.2)
    show gO (tF T154 m 328 (la9 p0 p1 p2 p3 p4 p5 b1 x137 v139 x147 x148 x149) [])
    refine gob (fun _ k => XS.aload X154.here hx rfl (hb hby at_328) rfl rfl k) ?_
    show gO (tF T154 m 330 (la9 p0 p1 p2 p3 p4 p5 b1 x137 v139 x147 x148 x149) [(.ref b1)])
    refine gob (fun _ k => XS.iload X154.here hx rfl (hb hby at_330) rfl k) ?_
    show gO (tF T154 m 332 (la9 p0 p1 p2 p3 p4 p5 b1 x137 v139 x147 x148 x149) [(.int x149), (.ref b1)])
    refine gob (fun _ k => XS.iload X154.here hx rfl (hb hby at_332) rfl k) ?_
    show gO (tF T154 m 334 (la9 p0 p1 p2 p3 p4 p5 b1 x137 v139 x147 x148 x149) [(.int p5), (.int x149), (.ref b1)])
    refine gob (fun _ k => XS.i2b X154.here hx rfl (hb hby at_334) rfl k) ?_
    show gO (tF T154 m 335 (la9 p0 p1 p2 p3 p4 p5 b1 x137 v139 x147 x148 x149) [(.int (p5.toInt8.toInt32)), (.int x149), (.ref b1)])
    have hp156 : 0 ≤ x149.toInt ∧ x149.toInt < (44 : Nat) := (la_0_335_157 p4 x149 hx149)
    obtain ⟨cb158, Ab158, Sb158, Hb158⟩ := id B154
    obtain ⟨T159, h159, X159, e159, W159, st159⟩ := stB X154 hx hZ e154 Ab158 (j := x149) (own_in Sb158 hp156.1 hp156.2) (g := (mkF m 335 (la9 p0 p1 p2 p3 p4 p5 b1 x137 v139 x147 x148 x149) [(.int (p5.toInt8.toInt32)), (.int x149), (.ref b1)])) rfl rfl (hb hby at_335)
    refine gob st159 ?_
    have z160 : n0 ≤ h159.size := Nat.le_trans z155 (Keep.of_wr W159).1
    have N159 := Fr.snoc X159 N154 g3
    have B159 := own_barset Ab158 Sb158 Hb158 W159 (own_nar p5) (own_lt hp156.1 hp156.2)
    obtain ⟨gg, hgg⟩ : ∃ g : Nat → Int32, g = (fun i => if i = (x149).toNatClampNeg then (p5.toInt8.toInt32) else if i = (x148).toNatClampNeg then (p3.toInt8.toInt32) else own_base i) := ⟨_, rfl⟩
    have BG : Bar Z h159 b1 gg := by rw [hgg]; exact B159
    have hbn : ∀ i : Nat, -128 ≤ (gg i).toInt ∧ (gg i).toInt ≤ 127 := by rw [hgg]; exact own_bytes _ _ _ _
    have c161 := (((((((((((((((((((((((((((((((((((((((((((((((TB.ext E1).other W6 n2).other W9 n2).other W12 n2).other W15 n2).other W18 n2).other W21 n2).other W24 n2).other W27 n2).other W30 n2).other W33 n2).other W36 n2).other W39 n2).other W42 n2).other W45 n2).other W48 n2).other W51 n2).other W54 n2).other W57 n2).other W60 n2).other W63 n2).other W66 n2).other W69 n2).other W72 n2).other W75 n2).other W78 n2).other W81 n2).other W84 n2).other W87 n2).other W90 n2).other W93 n2).other W96 n2).other W99 n2).other W102 n2).other W105 n2).other W108 n2).other W111 n2).other W114 n2).other W117 n2).other W120 n2).other W123 n2).other W126 n2).other W129 n2).other W132 n2).other W135 n2).other W154 n2).other W159 n2)
    show gO (tF T159 m 336 (la9 p0 p1 p2 p3 p4 p5 b1 x137 v139 x147 x148 x149) [])
    refine gob (fun _ k => XS.iload X159.here hx rfl (hb hby at_336) rfl k) ?_
    show gO (tF T159 m 338 (la9 p0 p1 p2 p3 p4 p5 b1 x137 v139 x147 x148 x149) [(.int x148)])
    refine gob (fun _ k => XS.iload X159.here hx rfl (hb hby at_338) rfl k) ?_
    show gO (tF T159 m 340 (la9 p0 p1 p2 p3 p4 p5 b1 x137 v139 x147 x148 x149) [(.int x137), (.int x148)])
    have join355_165 : ∀ (T166 : State) (lj167 : List Loc) (v164 : Int32), Stand p l e room_1 s m #[(.int p0), (.int p1), (.int p2), (.int p3), (.int p4), (.int p5)] below meth c T166 lj167 1 44 → T166.heap = h159 → Fr n0 lj167 → (x148 < x137 ∧ v164 = (0 : Int32)) ∨ (¬ (x148 < x137) ∧ x148 < x147 ∧ v164 = (1 : Int32)) ∨ (¬ (x148 < x137) ∧ ¬ (x148 < x147) ∧ v164 = (0 : Int32)) → Go p e below s (Q0 Z p0 p1 p2 p3 p4 p5 w_T h0 n0) 16 192 (T166.setTop (mkF m 355 (la9 p0 p1 p2 p3 p4 p5 b1 x137 v139 x147 x148 x149) [(.int v164)])) := by
      intro T166 lj167 v164 X168 e169 N170 hj171
      show gO (tF T166 m 355 (la9 p0 p1 p2 p3 p4 p5 b1 x137 v139 x147 x148 x149) [(.int v164)])
      refine gob (fun _ k => XS.istore X168.here hx rfl (hb hby at_355) rfl (l' := (la10 p0 p1 p2 p3 p4 p5 b1 x137 v139 x147 x148 x149 v164)) rfl k) ?_
      show gO (tF T166 m 357 (la10 p0 p1 p2 p3 p4 p5 b1 x137 v139 x147 x148 x149 v164) [])
      refine gob (fun _ k => XS.iload X168.here hx rfl (hb hby at_357) rfl k) ?_
      show gO (tF T166 m 359 (la10 p0 p1 p2 p3 p4 p5 b1 x137 v139 x147 x148 x149 v164) [(.int x149)])
      refine gob (fun _ k => XS.iload X168.here hx rfl (hb hby at_359) rfl k) ?_
      show gO (tF T166 m 361 (la10 p0 p1 p2 p3 p4 p5 b1 x137 v139 x147 x148 x149 v164) [(.int x137), (.int x149)])
      have join376_175 : ∀ (T176 : State) (lj177 : List Loc) (v174 : Int32), Stand p l e room_1 s m #[(.int p0), (.int p1), (.int p2), (.int p3), (.int p4), (.int p5)] below meth c T176 lj177 1 44 → T176.heap = h159 → Fr n0 lj177 → (x149 < x137 ∧ v174 = (0 : Int32)) ∨ (¬ (x149 < x137) ∧ x149 < x147 ∧ v174 = (1 : Int32)) ∨ (¬ (x149 < x137) ∧ ¬ (x149 < x147) ∧ v174 = (0 : Int32)) → Go p e below s (Q0 Z p0 p1 p2 p3 p4 p5 w_T h0 n0) 16 192 (T176.setTop (mkF m 376 (la10 p0 p1 p2 p3 p4 p5 b1 x137 v139 x147 x148 x149 v164) [(.int v174)])) := by
        intro T176 lj177 v174 X178 e179 N180 hj181
        show gO (tF T176 m 376 (la10 p0 p1 p2 p3 p4 p5 b1 x137 v139 x147 x148 x149 v164) [(.int v174)])
        refine gob (fun _ k => XS.istore X178.here hx rfl (hb hby at_376) rfl (l' := (la11 p0 p1 p2 p3 p4 p5 b1 x137 v139 x147 x148 x149 v164 v174)) rfl k) ?_
        show gO (tF T176 m 378 (la11 p0 p1 p2 p3 p4 p5 b1 x137 v139 x147 x148 x149 v164 v174) [])
        refine gob (fun _ k => XS.iload X178.here hx rfl (hb hby at_378) rfl k) ?_
        show gO (tF T176 m 380 (la11 p0 p1 p2 p3 p4 p5 b1 x137 v139 x147 x148 x149 v164 v174) [(.int v164)])
        have join399_189 : ∀ (T190 : State) (lj191 : List Loc) (v188 : Int32) (r186 : Int32), Stand p l e room_1 s m #[(.int p0), (.int p1), (.int p2), (.int p3), (.int p4), (.int p5)] below meth c T190 lj191 1 44 → T190.heap = h159 → Fr n0 lj191 → (v164 = (0 : Int32) ∧ v188 = (1 : Int32)) ∨ (¬ (v164 = (0 : Int32)) ∧ r186 = own_hv (gg (x148).toNatClampNeg) ∧ r186 = (0 : Int32) ∧ v188 = (0 : Int32)) ∨ (¬ (v164 = (0 : Int32)) ∧ r186 = own_hv (gg (x148).toNatClampNeg) ∧ ¬ (r186 = (0 : Int32)) ∧ v188 = (1 : Int32)) → Go p e below s (Q0 Z p0 p1 p2 p3 p4 p5 w_T h0 n0) 16 192 (T190.setTop (mkF m 399 (la11 p0 p1 p2 p3 p4 p5 b1 x137 v139 x147 x148 x149 v164 v174) [(.int v188)])) := by
          intro T190 lj191 v188 r186 X192 e193 N194 hj195
          show gO (tF T190 m 399 (la11 p0 p1 p2 p3 p4 p5 b1 x137 v139 x147 x148 x149 v164 v174) [(.int v188)])
          refine gob (fun _ k => XS.istore X192.here hx rfl (hb hby at_399) rfl (l' := (la12 p0 p1 p2 p3 p4 p5 b1 x137 v139 x147 x148 x149 v164 v174 v188)) rfl k) ?_
          show gO (tF T190 m 401 (la12 p0 p1 p2 p3 p4 p5 b1 x137 v139 x147 x148 x149 v164 v174 v188) [])
          refine gob (fun _ k => XS.iload X192.here hx rfl (hb hby at_401) rfl k) ?_
          show gO (tF T190 m 403 (la12 p0 p1 p2 p3 p4 p5 b1 x137 v139 x147 x148 x149 v164 v174 v188) [(.int v174)])
          have join422_203 : ∀ (T204 : State) (lj205 : List Loc) (v202 : Int32) (r200 : Int32), Stand p l e room_1 s m #[(.int p0), (.int p1), (.int p2), (.int p3), (.int p4), (.int p5)] below meth c T204 lj205 1 44 → T204.heap = h159 → Fr n0 lj205 → (v174 = (0 : Int32) ∧ v202 = (1 : Int32)) ∨ (¬ (v174 = (0 : Int32)) ∧ r200 = own_hv (gg (x149).toNatClampNeg) ∧ r200 = (0 : Int32) ∧ v202 = (0 : Int32)) ∨ (¬ (v174 = (0 : Int32)) ∧ r200 = own_hv (gg (x149).toNatClampNeg) ∧ ¬ (r200 = (0 : Int32)) ∧ v202 = (1 : Int32)) → Go p e below s (Q0 Z p0 p1 p2 p3 p4 p5 w_T h0 n0) 16 192 (T204.setTop (mkF m 422 (la12 p0 p1 p2 p3 p4 p5 b1 x137 v139 x147 x148 x149 v164 v174 v188) [(.int v202)])) := by
            intro T204 lj205 v202 r200 X206 e207 N208 hj209
            show gO (tF T204 m 422 (la12 p0 p1 p2 p3 p4 p5 b1 x137 v139 x147 x148 x149 v164 v174 v188) [(.int v202)])
            refine gob (fun _ k => XS.istore X206.here hx rfl (hb hby at_422) rfl (l' := (la13 p0 p1 p2 p3 p4 p5 b1 x137 v139 x147 x148 x149 v164 v174 v188 v202)) rfl k) ?_
            show gO (tF T204 m 424 (la13 p0 p1 p2 p3 p4 p5 b1 x137 v139 x147 x148 x149 v164 v174 v188 v202) [])
            refine gob (fun _ k => XS.iload X206.here hx rfl (hb hby at_424) rfl k) ?_
            show gO (tF T204 m 426 (la13 p0 p1 p2 p3 p4 p5 b1 x137 v139 x147 x148 x149 v164 v174 v188 v202) [(.int v139)])
            refine gob (fun _ k => XS.bipush X206.here hx rfl (hb hby at_426) k) ?_
            show gO (tF T204 m 428 (la13 p0 p1 p2 p3 p4 p5 b1 x137 v139 x147 x148 x149 v164 v174 v188 v202) [(.int 40), (.int v139)])
            have join446_214 : ∀ (T215 : State) (lj216 : List Loc) (v213 : Int32), Stand p l e room_1 s m #[(.int p0), (.int p1), (.int p2), (.int p3), (.int p4), (.int p5)] below meth c T215 lj216 1 44 → T215.heap = h159 → Fr n0 lj216 → (v139 = (40 : Int32) ∧ v188 = (0 : Int32) ∧ v213 = (0 : Int32)) ∨ (v139 = (40 : Int32) ∧ ¬ (v188 = (0 : Int32)) ∧ v202 = (0 : Int32) ∧ v213 = (0 : Int32)) ∨ (v139 = (40 : Int32) ∧ ¬ (v188 = (0 : Int32)) ∧ ¬ (v202 = (0 : Int32)) ∧ v213 = (1 : Int32)) ∨ (¬ (v139 = (40 : Int32)) ∧ v213 = (0 : Int32)) → Go p e below s (Q0 Z p0 p1 p2 p3 p4 p5 w_T h0 n0) 16 192 (T215.setTop (mkF m 446 (la13 p0 p1 p2 p3 p4 p5 b1 x137 v139 x147 x148 x149 v164 v174 v188 v202) [(.int v213)])) := by
              intro T215 lj216 v213 X217 e218 N219 hj220
              show gO (tF T215 m 446 (la13 p0 p1 p2 p3 p4 p5 b1 x137 v139 x147 x148 x149 v164 v174 v188 v202) [(.int v213)])
              refine gob (fun _ k => XS.istore X217.here hx rfl (hb hby at_446) rfl (l' := (la14 p0 p1 p2 p3 p4 p5 b1 x137 v139 x147 x148 x149 v164 v174 v188 v202 v213)) rfl k) ?_
              show gO (tF T215 m 448 (la14 p0 p1 p2 p3 p4 p5 b1 x137 v139 x147 x148 x149 v164 v174 v188 v202 v213) [])
              refine gob (fun _ k => XS.aload X217.here hx rfl (hb hby at_448) rfl rfl k) ?_
              show gO (tF T215 m 450 (la14 p0 p1 p2 p3 p4 p5 b1 x137 v139 x147 x148 x149 v164 v174 v188 v202 v213) [(.ref b1)])
              refine gob (fun _ k => XS.iload X217.here hx rfl (hb hby at_450) rfl k) ?_
              show gO (tF T215 m 452 (la14 p0 p1 p2 p3 p4 p5 b1 x137 v139 x147 x148 x149 v164 v174 v188 v202 v213) [(.int x137), (.ref b1)])
              refine gob (fun _ k => XS.iload X217.here hx rfl (hb hby at_452) rfl k) ?_
              show gO (tF T215 m 454 (la14 p0 p1 p2 p3 p4 p5 b1 x137 v139 x147 x148 x149 v164 v174 v188 v202 v213) [(.int x147), (.int x137), (.ref b1)])
              have c222 := (((((((((((((((((((((((((((((((((((((((((((((((S_T.ext E1).wr W6).wr W9).wr W12).wr W15).wr W18).wr W21).wr W24).wr W27).wr W30).wr W33).wr W36).wr W39).wr W42).wr W45).wr W48).wr W51).wr W54).wr W57).wr W60).wr W63).wr W66).wr W69).wr W72).wr W75).wr W78).wr W81).wr W84).wr W87).wr W90).wr W93).wr W96).wr W99).wr W102).wr W105).wr W108).wr W111).wr W114).wr W117).wr W120).wr W123).wr W126).wr W129).wr W132).wr W135).wr W154).wr W159)
              obtain ⟨_, _, ⟨T221, L221, k221, n221⟩, -, X221, ⟨Lc221, hQ221, l221, y221, z221⟩, st221⟩ := Jvm.LawKit.callS X217 hx (y := (⟨"com/example/cairnlog/cairnlog/ContentId", "isWellFormed", "([BII)Z"⟩ : MethodName)) hown (mvT hZ (hW hw 2 rfl)) (mvT hZ (hW hw 3 rfl)) (mvT hZ (hW hw 4 rfl)) (mvT hZ (hW hw 5 rfl)) (by decide) (backOf (W := 0) (rm1 l Z a0 hw [] b1 x137 x147 gg w_T h159 n0 z160 BG c222 c161 hbn (own_h40 hx147 (la_0_454_223 p0 x137 hx137))) hZ (hW hw 5 rfl) (hW hw 4 rfl) (by decide) (by decide)) (g := (mkF m 454 (la14 p0 p1 p2 p3 p4 p5 b1 x137 v139 x147 x148 x149 v164 v174 v188 v202 v213) [(.int x147), (.int x137), (.ref b1)])) rfl (by rw [hml]; rfl) (argsL := [(.ref b1), (.int x137), (.int x147)]) (rest := []) (lenOf pd_1 rfl) rfl (by show 2 * 0 + _ ≤ _; exact Nat.le_of_eq rfl) (hb hby at_454) (fun _ _ => ⟨rfl, e218, (by decide : 1 + 0 ≤ _), (by decide : 44 + 0 ≤ _)⟩)
              dsimp only [Pt.U, Pt.locs, Pt.cells, Pt.slots] at X221 l221 y221 z221 st221 hQ221
              replace X221 := castX X221 (y221.trans (rfl : _ = 1)) (z221.trans (rfl : _ = 44))
              obtain ⟨r_wf, rfl, hr_wf, Nq221, e221⟩ := hQ221
              have N221 : Fr n0 L221 := l221 ▸ Fr.app N219 Nq221
              refine gob st221 ?_
              show gO (tF T221 m 457 (la14 p0 p1 p2 p3 p4 p5 b1 x137 v139 x147 x148 x149 v164 v174 v188 v202 v213) [(.int r_wf)])
              refine gob (fun _ k => XS.istore X221.here hx rfl (hb hby at_457) rfl (l' := (la15 p0 p1 p2 p3 p4 p5 b1 x137 v139 x147 x148 x149 v164 v174 v188 v202 v213 r_wf)) rfl k) ?_
              show gO (tF T221 m 459 (la15 p0 p1 p2 p3 p4 p5 b1 x137 v139 x147 x148 x149 v164 v174 v188 v202 v213 r_wf) [])
              refine gob (fun _ k => XS.iload X221.here hx rfl (hb hby at_459) rfl k) ?_
              show gO (tF T221 m 461 (la15 p0 p1 p2 p3 p4 p5 b1 x137 v139 x147 x148 x149 v164 v174 v188 v202 v213 r_wf) [(.int r_wf)])
              refine gob (fun _ k => XS.iload X221.here hx rfl (hb hby at_461) rfl k) ?_
              show gO (tF T221 m 463 (la15 p0 p1 p2 p3 p4 p5 b1 x137 v139 x147 x148 x149 v164 v174 v188 v202 v213 r_wf) [(.int v213), (.int r_wf)])
              refine gob (fun _ k => XS.icmpNo X221.here hx rfl (hb hby at_463) rfl (teq (own_final hgg (own_h40 hx147 (la_0_463_224 p0 x137 hx137)) (la_0_463_225 p2 x148 hx148) (la_0_463_226 p4 x149 hx149) hx147 hj171 hj181 hj195 hj209 hj220 hr_wf : r_wf = v213)).2 k) ?_
              show gO (tF T221 m 466 (la15 p0 p1 p2 p3 p4 p5 b1 x137 v139 x147 x148 x149 v164 v174 v188 v202 v213 r_wf) [])
              refine gob (fun _ k => XS.iconst X221.here hx rfl (hb hby at_466) k) ?_
              show gO (tF T221 m 467 (la15 p0 p1 p2 p3 p4 p5 b1 x137 v139 x147 x148 x149 v164 v174 v188 v202 v213 r_wf) [(.int 1)])
              refine gob (fun _ k => XS.goto X221.here hx rfl (pc0 := 467) (pc' := 471) rfl (hb hby at_467) (by decide) (by decide) k) ?_
              show gO (tF T221 m 471 (la15 p0 p1 p2 p3 p4 p5 b1 x137 v139 x147 x148 x149 v164 v174 v188 v202 v213 r_wf) [(.int 1)])
              refine goZ X221 hx hlk (t := .boolean) Bd.returns (by simp) (hb hby at_471) (z' := (1 : Int32)) rfl ?_ (by decide) (by decide)
              show Q0 Z p0 p1 p2 p3 p4 p5 w_T h0 n0 (some (.int (1 : Int32))) T221.heap _
              exact ⟨rfl, N221⟩
            by_cases hc428_227 : v139 = (40 : Int32)
            · skip
              refine gob (fun _ k => XS.icmpNo X206.here hx rfl (hb hby at_428) rfl (teq hc428_227).2 k) ?_
              show gO (tF T204 m 431 (la13 p0 p1 p2 p3 p4 p5 b1 x137 v139 x147 x148 x149 v164 v174 v188 v202) [])
              refine gob (fun _ k => XS.iload X206.here hx rfl (hb hby at_431) rfl k) ?_
              show gO (tF T204 m 433 (la13 p0 p1 p2 p3 p4 p5 b1 x137 v139 x147 x148 x149 v164 v174 v188 v202) [(.int v188)])
              by_cases hc433_228 : v188 = (0 : Int32)
              · skip
                refine gob (fun _ k => XS.ifYes X206.here hx rfl (pc0 := 433) (pc' := 445) rfl (hb hby at_433) rfl ((if0 _ _).trans (teq hc433_228).1) (by decide) (by decide) k) ?_
                show gO (tF T204 m 445 (la13 p0 p1 p2 p3 p4 p5 b1 x137 v139 x147 x148 x149 v164 v174 v188 v202) [])
                refine gob (fun _ k => XS.iconst X206.here hx rfl (hb hby at_445) k) ?_
                show gO (tF T204 m 446 (la13 p0 p1 p2 p3 p4 p5 b1 x137 v139 x147 x148 x149 v164 v174 v188 v202) [(.int 0)])
                exact join446_214 _ _ ((0 : Int32)) X206 e207 N208 (Or.inl ⟨hc428_227, hc433_228, rfl⟩)
              · skip
                refine gob (fun _ k => XS.ifNo X206.here hx rfl (hb hby at_433) rfl ((if0 _ _).trans (feq hc433_228).1) k) ?_
                show gO (tF T204 m 436 (la13 p0 p1 p2 p3 p4 p5 b1 x137 v139 x147 x148 x149 v164 v174 v188 v202) [])
                refine gob (fun _ k => XS.iload X206.here hx rfl (hb hby at_436) rfl k) ?_
                show gO (tF T204 m 438 (la13 p0 p1 p2 p3 p4 p5 b1 x137 v139 x147 x148 x149 v164 v174 v188 v202) [(.int v202)])
                by_cases hc438_229 : v202 = (0 : Int32)
                · skip
                  refine gob (fun _ k => XS.ifYes X206.here hx rfl (pc0 := 438) (pc' := 445) rfl (hb hby at_438) rfl ((if0 _ _).trans (teq hc438_229).1) (by decide) (by decide) k) ?_
                  show gO (tF T204 m 445 (la13 p0 p1 p2 p3 p4 p5 b1 x137 v139 x147 x148 x149 v164 v174 v188 v202) [])
                  refine gob (fun _ k => XS.iconst X206.here hx rfl (hb hby at_445) k) ?_
                  show gO (tF T204 m 446 (la13 p0 p1 p2 p3 p4 p5 b1 x137 v139 x147 x148 x149 v164 v174 v188 v202) [(.int 0)])
                  exact join446_214 _ _ ((0 : Int32)) X206 e207 N208 (Or.inr (Or.inl ⟨hc428_227, hc433_228, hc438_229, rfl⟩))
                · skip
                  refine gob (fun _ k => XS.ifNo X206.here hx rfl (hb hby at_438) rfl ((if0 _ _).trans (feq hc438_229).1) k) ?_
                  show gO (tF T204 m 441 (la13 p0 p1 p2 p3 p4 p5 b1 x137 v139 x147 x148 x149 v164 v174 v188 v202) [])
                  refine gob (fun _ k => XS.iconst X206.here hx rfl (hb hby at_441) k) ?_
                  show gO (tF T204 m 442 (la13 p0 p1 p2 p3 p4 p5 b1 x137 v139 x147 x148 x149 v164 v174 v188 v202) [(.int 1)])
                  refine gob (fun _ k => XS.goto X206.here hx rfl (pc0 := 442) (pc' := 446) rfl (hb hby at_442) (by decide) (by decide) k) ?_
                  show gO (tF T204 m 446 (la13 p0 p1 p2 p3 p4 p5 b1 x137 v139 x147 x148 x149 v164 v174 v188 v202) [(.int 1)])
                  exact join446_214 _ _ ((1 : Int32)) X206 e207 N208 (Or.inr (Or.inr (Or.inl ⟨hc428_227, hc433_228, hc438_229, rfl⟩)))
            · skip
              refine gob (fun _ k => XS.icmpYes X206.here hx rfl (pc0 := 428) (pc' := 445) rfl (hb hby at_428) rfl (feq hc428_227).2 (by decide) (by decide) k) ?_
              show gO (tF T204 m 445 (la13 p0 p1 p2 p3 p4 p5 b1 x137 v139 x147 x148 x149 v164 v174 v188 v202) [])
              refine gob (fun _ k => XS.iconst X206.here hx rfl (hb hby at_445) k) ?_
              show gO (tF T204 m 446 (la13 p0 p1 p2 p3 p4 p5 b1 x137 v139 x147 x148 x149 v164 v174 v188 v202) [(.int 0)])
              exact join446_214 _ _ ((0 : Int32)) X206 e207 N208 (Or.inr (Or.inr (Or.inr ⟨hc428_227, rfl⟩)))
          by_cases hc403_230 : v174 = (0 : Int32)
          · skip
            refine gob (fun _ k => XS.ifYes X192.here hx rfl (pc0 := 403) (pc' := 417) rfl (hb hby at_403) rfl ((if0 _ _).trans (teq hc403_230).1) (by decide) (by decide) k) ?_
            show gO (tF T190 m 417 (la12 p0 p1 p2 p3 p4 p5 b1 x137 v139 x147 x148 x149 v164 v174 v188) [])
            refine gob (fun _ k => XS.iconst X192.here hx rfl (hb hby at_417) k) ?_
            show gO (tF T190 m 418 (la12 p0 p1 p2 p3 p4 p5 b1 x137 v139 x147 x148 x149 v164 v174 v188) [(.int 1)])
            refine gob (fun _ k => XS.goto X192.here hx rfl (pc0 := 418) (pc' := 422) rfl (hb hby at_418) (by decide) (by decide) k) ?_
            show gO (tF T190 m 422 (la12 p0 p1 p2 p3 p4 p5 b1 x137 v139 x147 x148 x149 v164 v174 v188) [(.int 1)])
            exact join422_203 _ _ ((1 : Int32)) (0) X192 e193 N194 (Or.inl ⟨hc403_230, rfl⟩)
          · skip
            refine gob (fun _ k => XS.ifNo X192.here hx rfl (hb hby at_403) rfl ((if0 _ _).trans (feq hc403_230).1) k) ?_
            show gO (tF T190 m 406 (la12 p0 p1 p2 p3 p4 p5 b1 x137 v139 x147 x148 x149 v164 v174 v188) [])
            refine gob (fun _ k => XS.aload X192.here hx rfl (hb hby at_406) rfl rfl k) ?_
            show gO (tF T190 m 408 (la12 p0 p1 p2 p3 p4 p5 b1 x137 v139 x147 x148 x149 v164 v174 v188) [(.ref b1)])
            refine gob (fun _ k => XS.iload X192.here hx rfl (hb hby at_408) rfl k) ?_
            show gO (tF T190 m 410 (la12 p0 p1 p2 p3 p4 p5 b1 x137 v139 x147 x148 x149 v164 v174 v188) [(.int x149), (.ref b1)])
            have hp232 : 0 ≤ x149.toInt ∧ x149.toInt < (44 : Nat) := (la_0_410_233 p4 x149 hx149)
            obtain ⟨cb231, Ab231, Sb231, Hb231⟩ := id BG
            refine gob (X192.baloadBytes hx (j := x149) (v := (.int (gg (x149).toNatClampNeg))) (by rw [e193]; exact Ab231.1) (State.isArrayOf_alike hZ.alike Ab231.2.1) Ab231.2.2 (own_in Sb231 hp232.1 hp232.2) (Hb231 _ (own_lt hp232.1 hp232.2)) (g := (mkF m 410 (la12 p0 p1 p2 p3 p4 p5 b1 x137 v139 x147 x148 x149 v164 v174 v188) [(.int x149), (.ref b1)])) rfl rfl (hb hby at_410)) ?_
            show gO (tF T190 m 411 (la12 p0 p1 p2 p3 p4 p5 b1 x137 v139 x147 x148 x149 v164 v174 v188) [(.int (gg (x149).toNatClampNeg))])
            obtain ⟨_, _, ⟨T234, L234, k234, n234⟩, -, X234, ⟨Lc234, hQ234, l234, y234, z234⟩, st234⟩ := Jvm.LawKit.callS X192 hx (y := (⟨"com/example/cairnlog/cairnlog/ContentIdIsWellFormedPinLaw", "isLowerHex", "(B)Z"⟩ : MethodName)) hown (mvT hZ (hW hw 6 rfl)) (mvT hZ (hW hw 7 rfl)) (mvT hZ (hW hw 8 rfl)) (mvT hZ (hW hw 9 rfl)) (by decide) (backOf (W := 0) (rm2 l Z a0 hw [] (gg (x149).toNatClampNeg) h159 n0 z160 ) hZ (hW hw 9 rfl) (hW hw 8 rfl) (by decide) (by decide)) (g := (mkF m 411 (la12 p0 p1 p2 p3 p4 p5 b1 x137 v139 x147 x148 x149 v164 v174 v188) [(.int (gg (x149).toNatClampNeg))])) rfl (by rw [hml]; rfl) (argsL := [(.int (gg (x149).toNatClampNeg))]) (rest := []) (lenOf pd_0 rfl) rfl (by show 2 * 0 + _ ≤ _; exact Nat.le_of_eq rfl) (hb hby at_411) (fun _ _ => ⟨rfl, e193, (by decide : 1 + 0 ≤ _), (by decide : 44 + 0 ≤ _)⟩)
            dsimp only [Pt.U, Pt.locs, Pt.cells, Pt.slots] at X234 l234 y234 z234 st234 hQ234
            replace X234 := castX X234 (y234.trans (rfl : _ = 1)) (z234.trans (rfl : _ = 44))
            obtain ⟨r234, rfl, hr234, Nq234, e234⟩ := hQ234
            have N234 : Fr n0 L234 := l234 ▸ Fr.app N194 Nq234
            refine gob st234 ?_
            show gO (tF T234 m 414 (la12 p0 p1 p2 p3 p4 p5 b1 x137 v139 x147 x148 x149 v164 v174 v188) [(.int r234)])
            by_cases hc414_235 : r234 = (0 : Int32)
            · skip
              refine gob (fun _ k => XS.ifYes X234.here hx rfl (pc0 := 414) (pc' := 421) rfl (hb hby at_414) rfl ((if0 _ _).trans (teq hc414_235).1) (by decide) (by decide) k) ?_
              show gO (tF T234 m 421 (la12 p0 p1 p2 p3 p4 p5 b1 x137 v139 x147 x148 x149 v164 v174 v188) [])
              refine gob (fun _ k => XS.iconst X234.here hx rfl (hb hby at_421) k) ?_
              show gO (tF T234 m 422 (la12 p0 p1 p2 p3 p4 p5 b1 x137 v139 x147 x148 x149 v164 v174 v188) [(.int 0)])
              exact join422_203 _ _ ((0 : Int32)) (r234) X234 e234 N234 (Or.inr (Or.inl ⟨hc403_230, hr234, hc414_235, rfl⟩))
            · skip
              refine gob (fun _ k => XS.ifNo X234.here hx rfl (hb hby at_414) rfl ((if0 _ _).trans (feq hc414_235).1) k) ?_
              show gO (tF T234 m 417 (la12 p0 p1 p2 p3 p4 p5 b1 x137 v139 x147 x148 x149 v164 v174 v188) [])
              refine gob (fun _ k => XS.iconst X234.here hx rfl (hb hby at_417) k) ?_
              show gO (tF T234 m 418 (la12 p0 p1 p2 p3 p4 p5 b1 x137 v139 x147 x148 x149 v164 v174 v188) [(.int 1)])
              refine gob (fun _ k => XS.goto X234.here hx rfl (pc0 := 418) (pc' := 422) rfl (hb hby at_418) (by decide) (by decide) k) ?_
              show gO (tF T234 m 422 (la12 p0 p1 p2 p3 p4 p5 b1 x137 v139 x147 x148 x149 v164 v174 v188) [(.int 1)])
              exact join422_203 _ _ ((1 : Int32)) (r234) X234 e234 N234 (Or.inr (Or.inr ⟨hc403_230, hr234, hc414_235, rfl⟩))
        by_cases hc380_236 : v164 = (0 : Int32)
        · skip
          refine gob (fun _ k => XS.ifYes X178.here hx rfl (pc0 := 380) (pc' := 394) rfl (hb hby at_380) rfl ((if0 _ _).trans (teq hc380_236).1) (by decide) (by decide) k) ?_
          show gO (tF T176 m 394 (la11 p0 p1 p2 p3 p4 p5 b1 x137 v139 x147 x148 x149 v164 v174) [])
          refine gob (fun _ k => XS.iconst X178.here hx rfl (hb hby at_394) k) ?_
          show gO (tF T176 m 395 (la11 p0 p1 p2 p3 p4 p5 b1 x137 v139 x147 x148 x149 v164 v174) [(.int 1)])
          refine gob (fun _ k => XS.goto X178.here hx rfl (pc0 := 395) (pc' := 399) rfl (hb hby at_395) (by decide) (by decide) k) ?_
          show gO (tF T176 m 399 (la11 p0 p1 p2 p3 p4 p5 b1 x137 v139 x147 x148 x149 v164 v174) [(.int 1)])
          exact join399_189 _ _ ((1 : Int32)) (0) X178 e179 N180 (Or.inl ⟨hc380_236, rfl⟩)
        · skip
          refine gob (fun _ k => XS.ifNo X178.here hx rfl (hb hby at_380) rfl ((if0 _ _).trans (feq hc380_236).1) k) ?_
          show gO (tF T176 m 383 (la11 p0 p1 p2 p3 p4 p5 b1 x137 v139 x147 x148 x149 v164 v174) [])
          refine gob (fun _ k => XS.aload X178.here hx rfl (hb hby at_383) rfl rfl k) ?_
          show gO (tF T176 m 385 (la11 p0 p1 p2 p3 p4 p5 b1 x137 v139 x147 x148 x149 v164 v174) [(.ref b1)])
          refine gob (fun _ k => XS.iload X178.here hx rfl (hb hby at_385) rfl k) ?_
          show gO (tF T176 m 387 (la11 p0 p1 p2 p3 p4 p5 b1 x137 v139 x147 x148 x149 v164 v174) [(.int x148), (.ref b1)])
          have hp238 : 0 ≤ x148.toInt ∧ x148.toInt < (44 : Nat) := (la_0_387_239 p2 x148 hx148)
          obtain ⟨cb237, Ab237, Sb237, Hb237⟩ := id BG
          refine gob (X178.baloadBytes hx (j := x148) (v := (.int (gg (x148).toNatClampNeg))) (by rw [e179]; exact Ab237.1) (State.isArrayOf_alike hZ.alike Ab237.2.1) Ab237.2.2 (own_in Sb237 hp238.1 hp238.2) (Hb237 _ (own_lt hp238.1 hp238.2)) (g := (mkF m 387 (la11 p0 p1 p2 p3 p4 p5 b1 x137 v139 x147 x148 x149 v164 v174) [(.int x148), (.ref b1)])) rfl rfl (hb hby at_387)) ?_
          show gO (tF T176 m 388 (la11 p0 p1 p2 p3 p4 p5 b1 x137 v139 x147 x148 x149 v164 v174) [(.int (gg (x148).toNatClampNeg))])
          obtain ⟨_, _, ⟨T240, L240, k240, n240⟩, -, X240, ⟨Lc240, hQ240, l240, y240, z240⟩, st240⟩ := Jvm.LawKit.callS X178 hx (y := (⟨"com/example/cairnlog/cairnlog/ContentIdIsWellFormedPinLaw", "isLowerHex", "(B)Z"⟩ : MethodName)) hown (mvT hZ (hW hw 6 rfl)) (mvT hZ (hW hw 7 rfl)) (mvT hZ (hW hw 8 rfl)) (mvT hZ (hW hw 9 rfl)) (by decide) (backOf (W := 0) (rm2 l Z a0 hw [] (gg (x148).toNatClampNeg) h159 n0 z160 ) hZ (hW hw 9 rfl) (hW hw 8 rfl) (by decide) (by decide)) (g := (mkF m 388 (la11 p0 p1 p2 p3 p4 p5 b1 x137 v139 x147 x148 x149 v164 v174) [(.int (gg (x148).toNatClampNeg))])) rfl (by rw [hml]; rfl) (argsL := [(.int (gg (x148).toNatClampNeg))]) (rest := []) (lenOf pd_0 rfl) rfl (by show 2 * 0 + _ ≤ _; exact Nat.le_of_eq rfl) (hb hby at_388) (fun _ _ => ⟨rfl, e179, (by decide : 1 + 0 ≤ _), (by decide : 44 + 0 ≤ _)⟩)
          dsimp only [Pt.U, Pt.locs, Pt.cells, Pt.slots] at X240 l240 y240 z240 st240 hQ240
          replace X240 := castX X240 (y240.trans (rfl : _ = 1)) (z240.trans (rfl : _ = 44))
          obtain ⟨r240, rfl, hr240, Nq240, e240⟩ := hQ240
          have N240 : Fr n0 L240 := l240 ▸ Fr.app N180 Nq240
          refine gob st240 ?_
          show gO (tF T240 m 391 (la11 p0 p1 p2 p3 p4 p5 b1 x137 v139 x147 x148 x149 v164 v174) [(.int r240)])
          by_cases hc391_241 : r240 = (0 : Int32)
          · skip
            refine gob (fun _ k => XS.ifYes X240.here hx rfl (pc0 := 391) (pc' := 398) rfl (hb hby at_391) rfl ((if0 _ _).trans (teq hc391_241).1) (by decide) (by decide) k) ?_
            show gO (tF T240 m 398 (la11 p0 p1 p2 p3 p4 p5 b1 x137 v139 x147 x148 x149 v164 v174) [])
            refine gob (fun _ k => XS.iconst X240.here hx rfl (hb hby at_398) k) ?_
            show gO (tF T240 m 399 (la11 p0 p1 p2 p3 p4 p5 b1 x137 v139 x147 x148 x149 v164 v174) [(.int 0)])
            exact join399_189 _ _ ((0 : Int32)) (r240) X240 e240 N240 (Or.inr (Or.inl ⟨hc380_236, hr240, hc391_241, rfl⟩))
          · skip
            refine gob (fun _ k => XS.ifNo X240.here hx rfl (hb hby at_391) rfl ((if0 _ _).trans (feq hc391_241).1) k) ?_
            show gO (tF T240 m 394 (la11 p0 p1 p2 p3 p4 p5 b1 x137 v139 x147 x148 x149 v164 v174) [])
            refine gob (fun _ k => XS.iconst X240.here hx rfl (hb hby at_394) k) ?_
            show gO (tF T240 m 395 (la11 p0 p1 p2 p3 p4 p5 b1 x137 v139 x147 x148 x149 v164 v174) [(.int 1)])
            refine gob (fun _ k => XS.goto X240.here hx rfl (pc0 := 395) (pc' := 399) rfl (hb hby at_395) (by decide) (by decide) k) ?_
            show gO (tF T240 m 399 (la11 p0 p1 p2 p3 p4 p5 b1 x137 v139 x147 x148 x149 v164 v174) [(.int 1)])
            exact join399_189 _ _ ((1 : Int32)) (r240) X240 e240 N240 (Or.inr (Or.inr ⟨hc380_236, hr240, hc391_241, rfl⟩))
      by_cases hc361_242 : x149 < x137
      · skip
        refine gob (fun _ k => XS.icmpYes X168.here hx rfl (pc0 := 361) (pc' := 375) rfl (hb hby at_361) rfl (tlt hc361_242).1 (by decide) (by decide) k) ?_
        show gO (tF T166 m 375 (la10 p0 p1 p2 p3 p4 p5 b1 x137 v139 x147 x148 x149 v164) [])
        refine gob (fun _ k => XS.iconst X168.here hx rfl (hb hby at_375) k) ?_
        show gO (tF T166 m 376 (la10 p0 p1 p2 p3 p4 p5 b1 x137 v139 x147 x148 x149 v164) [(.int 0)])
        exact join376_175 _ _ ((0 : Int32)) X168 e169 N170 (Or.inl ⟨hc361_242, rfl⟩)
      · skip
        refine gob (fun _ k => XS.icmpNo X168.here hx rfl (hb hby at_361) rfl (flt hc361_242).1 k) ?_
        show gO (tF T166 m 364 (la10 p0 p1 p2 p3 p4 p5 b1 x137 v139 x147 x148 x149 v164) [])
        refine gob (fun _ k => XS.iload X168.here hx rfl (hb hby at_364) rfl k) ?_
        show gO (tF T166 m 366 (la10 p0 p1 p2 p3 p4 p5 b1 x137 v139 x147 x148 x149 v164) [(.int x149)])
        refine gob (fun _ k => XS.iload X168.here hx rfl (hb hby at_366) rfl k) ?_
        show gO (tF T166 m 368 (la10 p0 p1 p2 p3 p4 p5 b1 x137 v139 x147 x148 x149 v164) [(.int x147), (.int x149)])
        by_cases hc368_243 : x149 < x147
        · skip
          refine gob (fun _ k => XS.icmpNo X168.here hx rfl (hb hby at_368) rfl (tlt hc368_243).2.1 k) ?_
          show gO (tF T166 m 371 (la10 p0 p1 p2 p3 p4 p5 b1 x137 v139 x147 x148 x149 v164) [])
          refine gob (fun _ k => XS.iconst X168.here hx rfl (hb hby at_371) k) ?_
          show gO (tF T166 m 372 (la10 p0 p1 p2 p3 p4 p5 b1 x137 v139 x147 x148 x149 v164) [(.int 1)])
          refine gob (fun _ k => XS.goto X168.here hx rfl (pc0 := 372) (pc' := 376) rfl (hb hby at_372) (by decide) (by decide) k) ?_
          show gO (tF T166 m 376 (la10 p0 p1 p2 p3 p4 p5 b1 x137 v139 x147 x148 x149 v164) [(.int 1)])
          exact join376_175 _ _ ((1 : Int32)) X168 e169 N170 (Or.inr (Or.inl ⟨hc361_242, hc368_243, rfl⟩))
        · skip
          refine gob (fun _ k => XS.icmpYes X168.here hx rfl (pc0 := 368) (pc' := 375) rfl (hb hby at_368) rfl (flt hc368_243).2.1 (by decide) (by decide) k) ?_
          show gO (tF T166 m 375 (la10 p0 p1 p2 p3 p4 p5 b1 x137 v139 x147 x148 x149 v164) [])
          refine gob (fun _ k => XS.iconst X168.here hx rfl (hb hby at_375) k) ?_
          show gO (tF T166 m 376 (la10 p0 p1 p2 p3 p4 p5 b1 x137 v139 x147 x148 x149 v164) [(.int 0)])
          exact join376_175 _ _ ((0 : Int32)) X168 e169 N170 (Or.inr (Or.inr ⟨hc361_242, hc368_243, rfl⟩))
    by_cases hc340_244 : x148 < x137
    · skip
      refine gob (fun _ k => XS.icmpYes X159.here hx rfl (pc0 := 340) (pc' := 354) rfl (hb hby at_340) rfl (tlt hc340_244).1 (by decide) (by decide) k) ?_
      show gO (tF T159 m 354 (la9 p0 p1 p2 p3 p4 p5 b1 x137 v139 x147 x148 x149) [])
      refine gob (fun _ k => XS.iconst X159.here hx rfl (hb hby at_354) k) ?_
      show gO (tF T159 m 355 (la9 p0 p1 p2 p3 p4 p5 b1 x137 v139 x147 x148 x149) [(.int 0)])
      exact join355_165 _ _ ((0 : Int32)) X159 e159 N159 (Or.inl ⟨hc340_244, rfl⟩)
    · skip
      refine gob (fun _ k => XS.icmpNo X159.here hx rfl (hb hby at_340) rfl (flt hc340_244).1 k) ?_
      show gO (tF T159 m 343 (la9 p0 p1 p2 p3 p4 p5 b1 x137 v139 x147 x148 x149) [])
      refine gob (fun _ k => XS.iload X159.here hx rfl (hb hby at_343) rfl k) ?_
      show gO (tF T159 m 345 (la9 p0 p1 p2 p3 p4 p5 b1 x137 v139 x147 x148 x149) [(.int x148)])
      refine gob (fun _ k => XS.iload X159.here hx rfl (hb hby at_345) rfl k) ?_
      show gO (tF T159 m 347 (la9 p0 p1 p2 p3 p4 p5 b1 x137 v139 x147 x148 x149) [(.int x147), (.int x148)])
      by_cases hc347_245 : x148 < x147
      · skip
        refine gob (fun _ k => XS.icmpNo X159.here hx rfl (hb hby at_347) rfl (tlt hc347_245).2.1 k) ?_
        show gO (tF T159 m 350 (la9 p0 p1 p2 p3 p4 p5 b1 x137 v139 x147 x148 x149) [])
        refine gob (fun _ k => XS.iconst X159.here hx rfl (hb hby at_350) k) ?_
        show gO (tF T159 m 351 (la9 p0 p1 p2 p3 p4 p5 b1 x137 v139 x147 x148 x149) [(.int 1)])
        refine gob (fun _ k => XS.goto X159.here hx rfl (pc0 := 351) (pc' := 355) rfl (hb hby at_351) (by decide) (by decide) k) ?_
        show gO (tF T159 m 355 (la9 p0 p1 p2 p3 p4 p5 b1 x137 v139 x147 x148 x149) [(.int 1)])
        exact join355_165 _ _ ((1 : Int32)) X159 e159 N159 (Or.inr (Or.inl ⟨hc340_244, hc347_245, rfl⟩))
      · skip
        refine gob (fun _ k => XS.icmpYes X159.here hx rfl (pc0 := 347) (pc' := 354) rfl (hb hby at_347) rfl (flt hc347_245).2.1 (by decide) (by decide) k) ?_
        show gO (tF T159 m 354 (la9 p0 p1 p2 p3 p4 p5 b1 x137 v139 x147 x148 x149) [])
        refine gob (fun _ k => XS.iconst X159.here hx rfl (hb hby at_354) k) ?_
        show gO (tF T159 m 355 (la9 p0 p1 p2 p3 p4 p5 b1 x137 v139 x147 x148 x149) [(.int 0)])
        exact join355_165 _ _ ((0 : Int32)) X159 e159 N159 (Or.inr (Or.inr ⟨hc340_244, hc347_245, rfl⟩))
  by_cases hc275_246 : (p1 &&& (1 : Int32)) = (0 : Int32)
  · skip
    refine gob (fun _ k => XS.ifNo X135.here hx rfl (hb hby at_275) rfl ((if0 _ _).trans (teq hc275_246).2) k) ?_
    show gO (tF T135 m 278 (la5 p0 p1 p2 p3 p4 p5 b1 x137) [])
    refine gob (fun _ k => XS.bipush X135.here hx rfl (hb hby at_278) k) ?_
    show gO (tF T135 m 280 (la5 p0 p1 p2 p3 p4 p5 b1 x137) [(.int 40)])
    refine gob (fun _ k => XS.istore X135.here hx rfl (hb hby at_280) rfl (l' := (la6 p0 p1 p2 p3 p4 p5 b1 x137 40)) rfl k) ?_
    show gO (tF T135 m 282 (la6 p0 p1 p2 p3 p4 p5 b1 x137 40) [])
    refine gob (fun _ k => XS.goto X135.here hx rfl (pc0 := 282) (pc' := 295) rfl (hb hby at_282) (by decide) (by decide) k) ?_
    show gO (tF T135 m 295 (la6 p0 p1 p2 p3 p4 p5 b1 x137 40) [])
    exact join295_140 _ _ ((40 : Int32)) X135 e135 N135 (Or.inl ⟨hc275_246, rfl⟩)
  · skip
    refine gob (fun _ k => XS.ifYes X135.here hx rfl (pc0 := 275) (pc' := 285) rfl (hb hby at_275) rfl ((if0 _ _).trans (feq hc275_246).2) (by decide) (by decide) k) ?_
    show gO (tF T135 m 285 (la5 p0 p1 p2 p3 p4 p5 b1 x137) [])
    refine gob (fun _ k => XS.iloadN X135.here hx rfl (hb hby at_285) rfl k) ?_
    show gO (tF T135 m 286 (la5 p0 p1 p2 p3 p4 p5 b1 x137) [(.int p1)])
    refine gob (fun _ k => XS.iconst X135.here hx rfl (hb hby at_286) k) ?_
    show gO (tF T135 m 287 (la5 p0 p1 p2 p3 p4 p5 b1 x137) [(.int 1), (.int p1)])
    refine gob (fun _ k => XS.iushr X135.here hx rfl (hb hby at_287) rfl k) ?_
    show gO (tF T135 m 288 (la5 p0 p1 p2 p3 p4 p5 b1 x137) [(.int ((p1.toUInt32 >>> ((1 : Int32) &&& 31).toUInt32).toInt32))])
    refine gob (fun _ k => XS.bipush X135.here hx rfl (hb hby at_288) k) ?_
    show gO (tF T135 m 290 (la5 p0 p1 p2 p3 p4 p5 b1 x137) [(.int 45), (.int ((p1.toUInt32 >>> ((1 : Int32) &&& 31).toUInt32).toInt32))])
    refine gob (fun _ k => iremM X135 hx rfl (hb hby at_290) rfl (by decide) k) ?_
    show gO (tF T135 m 291 (la5 p0 p1 p2 p3 p4 p5 b1 x137) [(.int (((p1.toUInt32 >>> ((1 : Int32) &&& 31).toUInt32).toInt32) % (45 : Int32)))])
    refine gob (fun _ k => XS.iconst X135.here hx rfl (hb hby at_291) k) ?_
    show gO (tF T135 m 292 (la5 p0 p1 p2 p3 p4 p5 b1 x137) [(.int 2), (.int (((p1.toUInt32 >>> ((1 : Int32) &&& 31).toUInt32).toInt32) % (45 : Int32)))])
    refine gob (fun _ k => XS.isub X135.here hx rfl (hb hby at_292) rfl k) ?_
    show gO (tF T135 m 293 (la5 p0 p1 p2 p3 p4 p5 b1 x137) [(.int ((((p1.toUInt32 >>> ((1 : Int32) &&& 31).toUInt32).toInt32) % (45 : Int32)) - (2 : Int32)))])
    refine gob (fun _ k => XS.istore X135.here hx rfl (hb hby at_293) rfl (l' := (la6 p0 p1 p2 p3 p4 p5 b1 x137 ((((p1.toUInt32 >>> ((1 : Int32) &&& 31).toUInt32).toInt32) % (45 : Int32)) - (2 : Int32)))) rfl k) ?_
    show gO (tF T135 m 295 (la6 p0 p1 p2 p3 p4 p5 b1 x137 ((((p1.toUInt32 >>> ((1 : Int32) &&& 31).toUInt32).toInt32) % (45 : Int32)) - (2 : Int32))) [])
    exact join295_140 _ _ (((((p1.toUInt32 >>> ((1 : Int32) &&& 31).toUInt32).toInt32) % (45 : Int32)) - (2 : Int32))) X135 e135 N135 (Or.inr ⟨hc275_246, rfl⟩)
set_option maxRecDepth 65536 in
set_option maxHeartbeats 40000000 in
theorem comes_1 {Post : Tables → Env → Array Value → State → Outcome → State → Prop} (hpost : ∀ tb e args s v u, (limb_1_1.after args s (.returned v) u = true ∧ limb_1_2.after args s (.returned v) u = true ∧ True) → FrameEnd s (.returned v) u (Jvm.fieldLocs frame_1_writes args s ++ Jvm.arrayLocs frame_1_arrays args s ++ Jvm.staticLocs frame_1_statics s) 16 192 → Post tb e args s (.returned v) u) :
    ArmFor flags0 classFile x code maxLocals ret World_1 tables_1 room_1 Calls_1 rest_1 Pre_1 Post := by
  intro l hfl _ _ p e ha hc hk s m args below hf hA hF happ hP
  obtain ⟨hcalls, hrest, hpre⟩ := hP
  obtain ⟨-, -, -, hnamed, -, -, -, hat⟩ := (Spec.applies_iff hf).mp happ
  obtain ⟨hg, hn⟩ := and_e (Cond.before_iff.mp (show (Jvm.Cond.and given_1 narrow_1).before args s = true from hpre))
  obtain ⟨g1, g2⟩ := and_e hg
  obtain ⟨g3, g4⟩ := and_e g2
  obtain ⟨g5, g6⟩ := and_e g4
  obtain ⟨g7, g8⟩ := and_e g6
  obtain ⟨g9, g10⟩ := and_e g8
  obtain ⟨g11, g12⟩ := and_e g10
  obtain ⟨w0, w1, w2, w3, w4, w5, rfl⟩ : ∃ w0 w1 w2 w3 w4 w5 : Value, args = #[w0, w1, w2, w3, w4, w5] := by
    have hs : args.size = 6 := by simpa [Cond.value, given_1] using g1
    obtain ⟨L⟩ := args
    match L, hs with
    | [w0, w1, w2, w3, w4, w5], _ => exact ⟨w0, w1, w2, w3, w4, w5, rfl⟩
  have hw := fun d (hd : d ∈ tables_1) => atoms_spec (ws := Jvm.Cond.code x code maxLocals ret :: tables_1) hat d (List.mem_cons_of_mem _ hd)
  have hfit : Fit s := fun {y c} hc i hi => by
    obtain ⟨ha, rfl⟩ := Array.getElem?_eq_some_iff.mp hc
    have q := List.all_eq_true.mp ((Array.all_eq_true_iff_forall_mem.mp hF) _ (Array.getElem_mem ha)) i (List.mem_range.mpr hi)
    simpa [Array.getElem?_eq_getElem hi] using q
  obtain ⟨i0, ei0⟩ := is_v g3
  obtain rfl : w0 = (.int i0) := Option.some.inj ei0
  obtain ⟨i1, ei1⟩ := is_v g5
  obtain rfl : w1 = (.int i1) := Option.some.inj ei1
  obtain ⟨i2, ei2⟩ := is_v g7
  obtain rfl : w2 = (.int i2) := Option.some.inj ei2
  obtain ⟨i3, ei3⟩ := is_v g9
  obtain rfl : w3 = (.int i3) := Option.some.inj ei3
  obtain ⟨i4, ei4⟩ := is_v g11
  obtain rfl : w4 = (.int i4) := Option.some.inj ei4
  obtain ⟨i5, ei5⟩ := is_v g12
  obtain rfl : w5 = (.int i5) := Option.some.inj ei5
  obtain ⟨g13, g14⟩ := and_e hn
  obtain ⟨g15, g16⟩ := and_e g14
  obtain ⟨g17, g18⟩ := and_e g16
  obtain ⟨g19, g20⟩ := and_e g18
  obtain ⟨g21, g22⟩ := and_e g20
  obtain ⟨g23, g24⟩ := and_e g22
  obtain ⟨w_T, ev_T⟩ := own_arrOf_v g13
  obtain ⟨clT, A_T⟩ := Arr.start ev_T g13
  have S_T : Sta s s.heap "com/example/cairnlog/cairnlog/ContentId" "IN_ID" "[Z" (.ref w_T) := Sta.start ev_T (Or.inr ⟨(hW hw 4 rfl), (hW hw 11 rfl)⟩)
  have L_T := own_len A_T ev_T g15
  have TB : Tbl s s.heap w_T := own_tbl A_T ev_T L_T g17 g19 g21 g23 g24
  obtain ⟨n, o, h1, h2, h3, _, L, rfl, ⟨rfl, N⟩, hq⟩ := rm0 l s _ hw tables_1 i0 i1 i2 i3 i4 i5 w_T s.heap s.heap.size (Nat.le_refl _) S_T TB p e ha hc hk s m _ below hf ((Spec.applies_iff_loose hf).mp happ).1 ⟨rfl, State.Warmed39.refl s, rfl⟩ trivial
  exact ⟨n, _, h1, h2, h3, hpost _ _ _ _ _ _ ⟨Cond.after_iff.mpr rfl, Cond.after_iff.mpr (eq_i res_at (Term.int_eval (1)) rfl), trivial⟩ ⟨hq.1, hq.2.1, (hq.2.2.sift fun y hy => Or.inr (N y hy)).mono (by decide) (by decide)⟩⟩
theorem main_1_1 : Claimed_1_1 := comes_1 fun _ _ _ _ _ _ h hF => ⟨h.1, hF⟩
theorem main_1_2 : Claimed_1_2 := comes_1 fun _ _ _ _ _ _ h hF => ⟨h.2.1, hF⟩
end Jvm.Pilot.@@N@@
namespace Jvm.Pilot.@@N@@
open Jvm Jvm.ClassFile Sem Op Lib Jvm.Free Jvm.Stand Jvm.Pilot.@@N@@.Jvm.D
/-! MADE BY PROGRAM (witnessworld.py) out of the Statement's table words and the real class files: 11 classes; the members and pool entries that the words name. The judged class is class 1, her method 2. -/
namespace start1
open Jvm.ClassFile
def u (s : String) : CpInfo := .utf8 (stringToUtf16 s)
/-- a pool by its gaps: so many unusable entries, then the entry; so many at the end -/
def gap : Nat → List CpInfo → List CpInfo
  | 0, r => r
  | n + 1, r => .unusable :: gap n r
def poolList (es : List (Nat × CpInfo)) (last : Nat) : List CpInfo := es.foldr (fun e r => gap e.1 (e.2 :: r)) (gap last [])
def pool (es : List (Nat × CpInfo)) (last : Nat) : Array CpInfo := ⟨poolList es last⟩
def fileOf (pool : Array CpInfo) (this : Nat) (attrs : Array Attribute := #[]) (ms : Array MethodInfo := #[]) (fl : Nat := 33) (sup : Nat := 0) (ifs : Array Nat := #[]) (fds : Array FieldInfo := #[]) : ClassFile where
  minorVersion := 0
  majorVersion := 65
  constantPool := pool
  accessFlags := fl
  thisClass := this
  superClass := sup
  interfaces := ifs
  fields := fds
  methods := ms
  attributes := attrs
def plain (name : String) (sup : Option ClassId) : Class where
  name := name
  kind := .ordinary
  loader := none
  accessFlags := 33
  super := sup
  interfaces := #[]
  cf := none
  fields := #[]
  methods := #[]
  instanceTypes := #[]
  staticTypes := #[]
  resolved := #[]
  callSites := []
  init := .initialized
  statics := none
  mirror := none

def pool0 : Array CpInfo := pool [(5, u "<init>"), (0, u "()V"), (1, .class_ 10), (1, u "java/lang/Object")] 113

def k0m0 : Method := { name := "<init>", desc := "()V", sig := { parameters := [], returnType := none }, accessFlags := 1, code := none }
/-- java/lang/Object -/
def k0 : Class := { plain "java/lang/Object" none with
  accessFlags := 33
  interfaces := #[]
  cf := some (fileOf pool0 8 #[] #[{ accessFlags := 1, nameIndex := 5, descriptorIndex := 6, attributes := #[] }] 33 0 #[] #[])
  fields := #[]
  methods := #[k0m0]
  instanceTypes := #[]
  staticTypes := #[]
  resolved := Array.replicate 124 none
  statics := none }

def pool1 : Array CpInfo := pool [(2, .class_ 4), (1, u "java/lang/Object"), (0, u "<init>"), (0, u "()V"), (0, .integer 2147483647), (0, .methodref 9 10), (0, .class_ 11), (0, .nameAndType 12 13), (0, u "com/example/cairnlog/cairnlog/ContentIdIsWellFormedPinLaw"), (0, u "isLowerHex"), (0, u "(B)Z"), (0, .methodref 15 16), (0, .class_ 17), (0, .nameAndType 18 19), (0, u "com/example/cairnlog/cairnlog/ContentId"), (0, u "isWellFormed"), (0, u "([BII)Z"), (3, u "law"), (0, u "(IIIIII)Z")] 4

def k1m0 : Method := { name := "<init>", desc := "()V", sig := { parameters := [], returnType := none }, accessFlags := 2, code := none }
def k1c1 : Code := { maxStack := 2, maxLocals := 1, code := method_2_code, exceptionTable := #[], attributes := #[] }
def k1m1 : Method := { name := "isLowerHex", desc := "(B)Z", sig := { parameters := [.byte], returnType := some .boolean }, accessFlags := 10, code := some k1c1 }
def k1c2 : Code := { maxStack := 4, maxLocals := 18, code := code, exceptionTable := #[], attributes := #[] }
def k1m2 : Method := { name := "law", desc := "(IIIIII)Z", sig := { parameters := [.int, .int, .int, .int, .int, .int], returnType := some .boolean }, accessFlags := 9, code := some k1c2 }
/-- com/example/cairnlog/cairnlog/ContentIdIsWellFormedPinLaw -/
def k1 : Class := { plain "com/example/cairnlog/cairnlog/ContentIdIsWellFormedPinLaw" (some 0) with
  accessFlags := 49
  interfaces := #[]
  cf := some (fileOf pool1 9 #[] #[{ accessFlags := 2, nameIndex := 5, descriptorIndex := 6, attributes := #[] }, { accessFlags := 10, nameIndex := 12, descriptorIndex := 13, attributes := #[] }, { accessFlags := 9, nameIndex := 23, descriptorIndex := 24, attributes := #[] }] 49 2 #[] #[])
  fields := #[]
  methods := #[k1m0, k1m1, k1m2]
  instanceTypes := #[]
  staticTypes := #[]
  resolved := Array.replicate 29 none
  statics := none }

def pool2 : Array CpInfo := pool [(2, .class_ 4), (1, u "java/lang/Object"), (0, u "<init>"), (0, u "()V"), (6, .class_ 14), (0, u "com/example/cairnlog/cairnlog/ContentId"), (0, .fieldref 13 16), (0, .nameAndType 17 18), (0, u "IN_ID"), (0, u "[Z"), (6, u "IN_PREFIX"), (2, u "IN_COMPACT_ID"), (24, u "HEX_DIGITS"), (0, u "[B"), (44, u "LENGTH"), (0, u "I"), (2, u "SHORTEST_PREFIX"), (1, u "COMPACT_LENGTH"), (1, u "BASE32_DIGITS"), (0, u "Ljava/lang/String;"), (0, u "BITS_PER_BASE32_DIGIT"), (3, u "isWellFormed"), (2, u "([BII)Z")] 11

def k2m0 : Method := { name := "<init>", desc := "()V", sig := { parameters := [], returnType := none }, accessFlags := 2, code := none }
def k2c1 : Code := { maxStack := 3, maxLocals := 5, code := prog_9_method_3_code, exceptionTable := #[], attributes := #[] }
def k2m1 : Method := { name := "isWellFormed", desc := "([BII)Z", sig := { parameters := [(.array .byte), .int, .int], returnType := some .boolean }, accessFlags := 8, code := some k2c1 }
/-- com/example/cairnlog/cairnlog/ContentId -/
def k2 : Class := { plain "com/example/cairnlog/cairnlog/ContentId" (some 0) with
  accessFlags := 48
  interfaces := #[]
  cf := some (fileOf pool2 13 #[] #[{ accessFlags := 2, nameIndex := 5, descriptorIndex := 6, attributes := #[] }, { accessFlags := 8, nameIndex := 113, descriptorIndex := 116, attributes := #[] }] 48 2 #[] #[{ accessFlags := 24, nameIndex := 99, descriptorIndex := 100, attributes := #[] }, { accessFlags := 26, nameIndex := 103, descriptorIndex := 100, attributes := #[] }, { accessFlags := 24, nameIndex := 105, descriptorIndex := 100, attributes := #[] }, { accessFlags := 26, nameIndex := 107, descriptorIndex := 108, attributes := #[] }, { accessFlags := 26, nameIndex := 109, descriptorIndex := 100, attributes := #[] }, { accessFlags := 26, nameIndex := 53, descriptorIndex := 54, attributes := #[] }, { accessFlags := 26, nameIndex := 17, descriptorIndex := 18, attributes := #[] }, { accessFlags := 26, nameIndex := 25, descriptorIndex := 18, attributes := #[] }, { accessFlags := 26, nameIndex := 28, descriptorIndex := 18, attributes := #[] }])
  fields := #[{ name := "LENGTH", type := .int, accessFlags := 24, slot := 0, constantValue := 0 }, { name := "SHORTEST_PREFIX", type := .int, accessFlags := 26, slot := 1, constantValue := 0 }, { name := "COMPACT_LENGTH", type := .int, accessFlags := 24, slot := 2, constantValue := 0 }, { name := "BASE32_DIGITS", type := (.object "java/lang/String"), accessFlags := 26, slot := 3, constantValue := 0 }, { name := "BITS_PER_BASE32_DIGIT", type := .int, accessFlags := 26, slot := 4, constantValue := 0 }, { name := "HEX_DIGITS", type := (.array .byte), accessFlags := 26, slot := 5, constantValue := 0 }, { name := "IN_ID", type := (.array .boolean), accessFlags := 26, slot := 6, constantValue := 0 }, { name := "IN_PREFIX", type := (.array .boolean), accessFlags := 26, slot := 7, constantValue := 0 }, { name := "IN_COMPACT_ID", type := (.array .boolean), accessFlags := 26, slot := 8, constantValue := 0 }]
  methods := #[k2m0, k2m1]
  instanceTypes := #[]
  staticTypes := #[.int, .int, .int, (.object "java/lang/String"), .int, (.array .byte), (.array .boolean), (.array .boolean), (.array .boolean)]
  resolved := Array.replicate 128 none
  statics := some 0 }

def pool3 : Array CpInfo := pool [(1, u "java/lang/Cloneable"), (0, .class_ 1), (0, u "java/lang/Object"), (0, .class_ 3)] 3

/-- java/lang/Cloneable -/
def k3 : Class := { plain "java/lang/Cloneable" (some 0) with
  accessFlags := 1537
  interfaces := #[]
  cf := some (fileOf pool3 2 #[] #[] 1537 4 #[] #[])
  fields := #[]
  methods := #[]
  instanceTypes := #[]
  staticTypes := #[]
  resolved := Array.replicate 8 none
  statics := none }

def pool4 : Array CpInfo := pool [(1, u "java/io/Serializable"), (0, .class_ 1), (0, u "java/lang/Object"), (0, .class_ 3)] 3

/-- java/io/Serializable -/
def k4 : Class := { plain "java/io/Serializable" (some 0) with
  accessFlags := 1537
  interfaces := #[]
  cf := some (fileOf pool4 2 #[] #[] 1537 4 #[] #[])
  fields := #[]
  methods := #[]
  instanceTypes := #[]
  staticTypes := #[]
  resolved := Array.replicate 8 none
  statics := none }

/-- the primitive boolean -/
def k5 : Class := { plain "boolean" none with kind := .primitive 'Z', accessFlags := 0x411 }
/-- [Z -/
def k6 : Class := { plain "[Z" (some 0) with kind := .array 5 .boolean, interfaces := #[3, 4], accessFlags := 1041 }

/-- the primitive byte -/
def k7 : Class := { plain "byte" none with kind := .primitive 'B', accessFlags := 0x411 }
/-- [B -/
def k8 : Class := { plain "[B" (some 0) with kind := .array 7 .byte, interfaces := #[3, 4], accessFlags := 1041 }

/-- the primitive int -/
def k9 : Class := { plain "int" none with kind := .primitive 'I', accessFlags := 0x411 }
/-- [I -/
def k10 : Class := { plain "[I" (some 0) with kind := .array 9 .int, interfaces := #[3, 4], accessFlags := 1041 }

def heap : Heap := #[{ cls := 2, slots := #[.int 0, .int 0, .int 0, .null, .int 0, .null, .ref 1, .null, .null], vm := .statics 2 },
  { cls := 6, slots := #[.int 0, .int 0, .int 0, .int 0, .int 0, .int 0, .int 0, .int 0, .int 0, .int 0, .int 0, .int 0, .int 0, .int 0, .int 0, .int 0, .int 0, .int 0, .int 0, .int 0, .int 0, .int 0, .int 0, .int 0, .int 0, .int 0, .int 0, .int 0, .int 0, .int 0, .int 0, .int 0, .int 0, .int 0, .int 0, .int 0, .int 0, .int 0, .int 0, .int 0, .int 0, .int 0, .int 0, .int 0, .int 0, .int 0, .int 0, .int 0, .int 1, .int 1, .int 1, .int 1, .int 1, .int 1, .int 1, .int 1, .int 1, .int 1, .int 0, .int 0, .int 0, .int 0, .int 0, .int 0, .int 0, .int 0, .int 0, .int 0, .int 0, .int 0, .int 0, .int 0, .int 0, .int 0, .int 0, .int 0, .int 0, .int 0, .int 0, .int 0, .int 0, .int 0, .int 0, .int 0, .int 0, .int 0, .int 0, .int 0, .int 0, .int 0, .int 0, .int 0, .int 0, .int 0, .int 0, .int 0, .int 0, .int 1, .int 1, .int 1, .int 1, .int 1, .int 1, .int 0, .int 0, .int 0, .int 0, .int 0, .int 0, .int 0, .int 0, .int 0, .int 0, .int 0, .int 0, .int 0, .int 0, .int 0, .int 0, .int 0, .int 0, .int 0, .int 0, .int 0, .int 0, .int 0, .int 0, .int 0], vm := .none }]
def classes : Array Class := #[k0, k1, k2, k3, k4, k5, k6, k7, k8, k9, k10]
def interned : List (Array UInt16 × Addr) := []
def slotsUsed : Nat := 137
def theMethod : MethodId := ⟨1, 2⟩
def args0 : Array Value := #[.int 5, .int 6, .int 7, .int 8, .int 9, .int 10]
def aboutOver (below : List Frame) : State where
  vm := { classes := classes, interned := interned.toArray }
  heap := heap
  slotsUsed := slotsUsed
  threads := #[{ frames := .invoking theMethod args0 :: below }]
def below0 : List Frame := [.native { method := ⟨0, 0⟩, args := #[] }]
def about1 : State := aboutOver below0
def p0 : Program := .bare "" "" ""
def e0 : Env := launch0.env 0 0 0
theorem w_frames : about1.frames = Frame.invoking theMethod args0 :: below0 := rfl
set_option maxRecDepth 65536 in
theorem w_args : argsFit about1.vm theMethod args0 = true := by decide +kernel
set_option maxRecDepth 65536 in
theorem w_heap : heapFits about1 = true := by decide +kernel
set_option maxRecDepth 65536 in
theorem w_runnable : about1.curStatus? = some .runnable := by decide +kernel
set_option maxRecDepth 65536 in
theorem w_alone : about1.alone = true := by decide +kernel
set_option maxRecDepth 65536 in
theorem w_named : about1.methodNamed? x = some theMethod := by decide +kernel
set_option maxRecDepth 65536 in
theorem w_hears : about1.hears theMethod below0 = true := by decide +kernel
set_option maxRecDepth 65536 in
theorem w_ripe : about1.ripe theMethod args0 below0 = true := by decide +kernel
theorem w_running : about1.status = .running := rfl
set_option maxRecDepth 65536 in
theorem w_room : about1.hasRoom e0.platform room_1 = true :=
  launch0.hasRoom_least _ room_1 (by decide +kernel) (by decide +kernel) (by decide +kernel) (by decide +kernel) (by decide +kernel) (by decide +kernel)
theorem allAtoms_all (ts : List Jvm.Cond) (a : Array Jvm.Value) (st : Jvm.State) : (allAtoms ts).before a st = ts.all (fun c => c.before a st) := by
  induction ts with
  | nil => rfl
  | cons c t ih =>
    show (Jvm.Cond.and c (allAtoms t)).before a st = _
    rw [Jvm.Cond.before_and, ih, List.all_cons]
def words1 : List Jvm.Cond := Jvm.Cond.code x code maxLocals ret :: tables_1
/-- a 'code' word, met by the world's own term for the bytes: nothing is compared byte by byte -/
theorem code_word {y : MethodName} {bytes : ByteArray} {mx : Nat} {rt : Option FieldType} {a : Array Value} {s : State} {m : MethodId} {meth : Method} {c : Code} (h1 : s.methodNamed? y = some m) (h2 : s.vm.method? m = some meth) (h3 : meth.code = some c) (h4 : c.code = bytes)
    (h5 : (c.maxLocals == mx && c.exceptionTable.isEmpty && decide (c.maxStack ≤ mostOperands) && decide (meth.sig.returnType = rt) && !meth.locks && decide (parseMethodDescriptor y.desc = some meth.sig)) = true) : (Jvm.Cond.code y bytes mx rt).before a s = true := by
  simp only [Bool.and_eq_true, beq_iff_eq, Bool.not_eq_true', decide_eq_true_eq] at h5
  obtain ⟨⟨⟨⟨⟨g1, g2⟩, g3⟩, g4⟩, g5⟩, g6⟩ := h5
  simp [Cond.before, Cond.holds, Cond.value, h1, h2, h3, h4, g1, g2, g3, g4, g5, g6]
def isCode : Jvm.Cond → Bool
  | .code _ _ _ _ => true
  | _ => false
theorem all_split {L : List Jvm.Cond} {P : Jvm.Cond → Bool} (h1 : L.all (fun c => isCode c || P c) = true) (h2 : ∀ c ∈ L.filter isCode, P c = true) : L.all P = true := by
  refine List.all_eq_true.mpr fun c hc => ?_
  have h := List.all_eq_true.mp h1 c hc
  rcases Bool.eq_false_or_eq_true (isCode c) with hi | hi
  · exact h2 c (List.mem_filter.mpr ⟨hc, hi⟩)
  · simpa [hi] using h
set_option maxRecDepth 65536 in
theorem w_c0 : (Jvm.Cond.code x code maxLocals ret).before args0 about1 = true := code_word (m := ⟨1, 2⟩) (meth := k1m2) (c := k1c2) (by decide +kernel) rfl rfl rfl (by decide +kernel)
set_option maxRecDepth 65536 in
theorem w_c1 : (Jvm.Cond.code ({ cls := "com/example/cairnlog/cairnlog/ContentId", name := "isWellFormed", desc := "([BII)Z" } : Jvm.MethodName) prog_9_method_3_code (5 : Nat) (Option.some Jvm.ClassFile.FieldType.boolean)).before args0 about1 = true := code_word (m := ⟨2, 1⟩) (meth := k2m1) (c := k2c1) (by decide +kernel) rfl rfl rfl (by decide +kernel)
set_option maxRecDepth 65536 in
theorem w_c2 : (Jvm.Cond.code ({ cls := "com/example/cairnlog/cairnlog/ContentIdIsWellFormedPinLaw", name := "isLowerHex", desc := "(B)Z" } : Jvm.MethodName) method_2_code (1 : Nat) (Option.some Jvm.ClassFile.FieldType.boolean)).before args0 about1 = true := code_word (m := ⟨1, 1⟩) (meth := k1m1) (c := k1c1) (by decide +kernel) rfl rfl rfl (by decide +kernel)
def codes1 : List Jvm.Cond := [Jvm.Cond.code x code maxLocals ret, Jvm.Cond.code ({ cls := "com/example/cairnlog/cairnlog/ContentId", name := "isWellFormed", desc := "([BII)Z" } : Jvm.MethodName) prog_9_method_3_code (5 : Nat) (Option.some Jvm.ClassFile.FieldType.boolean), Jvm.Cond.code ({ cls := "com/example/cairnlog/cairnlog/ContentIdIsWellFormedPinLaw", name := "isLowerHex", desc := "(B)Z" } : Jvm.MethodName) method_2_code (1 : Nat) (Option.some Jvm.ClassFile.FieldType.boolean)]
set_option maxRecDepth 65536 in
theorem codes_eq : words1.filter isCode = codes1 := rfl
theorem w_codes : ∀ c ∈ words1.filter isCode, c.before args0 about1 = true := by
  rw [codes_eq]
  intro c hc
  simp only [codes1, List.mem_cons, List.not_mem_nil, or_false] at hc
  rcases hc with rfl | rfl | rfl
  · exact w_c0
  · exact w_c1
  · exact w_c2
set_option maxRecDepth 65536 in
theorem w_t1 : words1.all (fun c => isCode c || c.before args0 about1) = true := by decide +kernel
theorem w_tables : (allAtoms (Jvm.Cond.code x code maxLocals ret :: tables_1)).before args0 about1 = true := by
  rw [allAtoms_all]
  show words1.all (fun c => c.before args0 about1) = true
  refine all_split ?_ w_codes
  rw [w_t1]
set_option maxRecDepth 65536 in
theorem w_case : (Jvm.Cond.and given_1 narrow_1).before args0 about1 = true := by decide +kernel
theorem w_applies : (headSpec (Jvm.Cond.code x code maxLocals ret :: tables_1) room_1).applies x e0.platform about1 = true :=
  (Spec.applies_iff w_frames).mpr ⟨w_running, w_runnable, w_alone, w_named, w_hears, w_ripe, w_room, w_tables⟩
theorem atStart : AtStart classFile x code maxLocals ret World_1 tables_1 room_1 Calls_1 rest_1 Pre_1 launch0 p0 e0 about1 theMethod args0 below0 :=
  ⟨lists_1, trivial, launch0.admits_env _ _ _, launch0.least_env, fairChoices_fair.cas, fairChoices_fair.clock, w_frames, w_args, w_heap, w_applies, trivial, trivial, w_case⟩
end start1
theorem witness_1 : WitnessClaimed_1 := ⟨start1.p0, start1.e0, start1.about1, start1.theMethod, start1.args0, start1.below0, start1.atStart⟩
end Jvm.Pilot.@@N@@
