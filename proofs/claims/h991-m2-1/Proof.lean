import JvmDerived
import JvmDerived.Pilot.@@N@@Statement
import JvmDerived.Pilot.@@N@@Code
set_option linter.unusedVariables false
set_option linter.unusedSimpArgs false
@@BLOCK:NumsL.lean.txt@@
namespace Jvm.RoadKit
open Sem ClassFile Op Lib Jvm.Stand Jvm.Free Jvm.LawKit
section New
variable {p : Program} {l : Launch} {e : Env} {R : Room} {s : State} {m : MethodId} {args : Array Value} {below : List Frame} {meth : Method} {c : Code} {T : State} {locs : List Loc} {cells slots : Nat}
theorem retI (X : Stand p l e R s m args below meth c T locs cells slots) (hx : p.tables.exec = Jvm.exec) {pc : Nat} {Ls : Array Slot} {z : Int32} {rest : List Value} (hret : meth.sig.returnType = some .int) (hd : decode c.code pc = .ok (.ireturn, 1)) {fs : List Frame}
    (hl : ∀ (f : JFrame) (acts : List Action), f.method = m → f.locked = none → f.entered = [] → (doReturn e (T.setTop f) acts (some (.int z))).1 = T.setFrames fs) : Steps p.tables e below (T.setTop (mkF m pc Ls (.int z :: rest))) (T.setFrames fs) := by
  have hm' : T.vm.method? m = some meth := X.method'
  have hn : narrow .int (.int z) = .int z := rfl
  show Steps p.tables e below (T.setTop { method := m, pc := pc, locals := Ls, stack := _ :: rest, locked := none }) _
  jvm_step X.here [X.here.top, hx, hd, hm', hret, hn]
  first | (intro acts; rw [hl _ acts rfl rfl rfl]) | rw [hl _ _ rfl rfl rfl]
  exact Steps.refl _
end New
end Jvm.RoadKit
namespace Jvm.Pilot.@@N@@
open Jvm Jvm.ClassFile Sem Op Lib Jvm.Free Jvm.Stand Jvm.LawKit Jvm.RoadKit Bundle Jvm.Pilot.@@N@@.Jvm.D
section OwnGo
variable {p : Program} {l : Launch} {e : Env} {R : Room} {s : State} {m : MethodId} {args : Array Value} {below : List Frame} {meth : Method} {c : Code} {T : State} {locs : List Loc} {cells slots : Nat}
/-- what a body owes from the state A on: the run comes to an end of the invocation with Q, within C cells and S slots -/
def own_Go (p : Program) (e : Env) (below : List Frame) (s : State) (Q : Option Value → Heap → List Loc → Prop) (C S : Nat) (A : State) : Prop :=
  ∃ s₂ o, Steps p.tables e below A s₂ ∧ s₂.status = .running ∧ Ended s₂ below o ∧ ∃ v L, o = .returned v ∧ Q v s₂.heap L ∧ FrameEnd s o s₂ L C S
variable {Q : Option Value → Heap → List Loc → Prop} {C S : Nat} {A B : State}
theorem own_step (h : ∀ t, Steps p.tables e below B t → Steps p.tables e below A t) (k : own_Go p e below s Q C S B) : own_Go p e below s Q C S A := by
  obtain ⟨s₂, o, h1, h2⟩ := k; exact ⟨s₂, o, h _ h1, h2⟩
theorem own_via (h : Steps p.tables e below A B) (k : own_Go p e below s Q C S B) : own_Go p e below s Q C S A := own_step (fun _ q => h.trans q) k
theorem own_retN (X : Stand p l e R s m args below meth c T locs cells slots) (hx : p.tables.exec = Jvm.exec) (hlocks : meth.locks = false) {pc : Nat} {Ls : Array Slot} {z : Int32} {t : FieldType} {rest : List Value} (hret : meth.sig.returnType = some t) (ht : t = .boolean ∨ t = .byte ∨ t = .char ∨ t = .short)
    (hd : decode c.code pc = .ok (.ireturn, 1)) (hq : Q (some (.int (nar t z))) T.heap locs) (hC : cells ≤ C) (hS : slots ≤ S) : own_Go p e below s Q C S (T.setTop (mkF m pc Ls (.int z :: rest))) := by
  obtain ⟨fs, hr, hrun, hended, hW, hsame⟩ := X.leave (v := some (.int (nar t z))) (fun h => by rw [hret] at h; cases h) hlocks
  exact ⟨_, _, retN X hx hret ht hd hr, hrun, hended, _, _, rfl, hq, ⟨_, rfl⟩, hW, hsame.mono hC hS⟩
theorem own_retI (X : Stand p l e R s m args below meth c T locs cells slots) (hx : p.tables.exec = Jvm.exec) (hlocks : meth.locks = false) {pc : Nat} {Ls : Array Slot} {z : Int32} {rest : List Value} (hret : meth.sig.returnType = some .int)
    (hd : decode c.code pc = .ok (.ireturn, 1)) (hq : Q (some (.int z)) T.heap locs) (hC : cells ≤ C) (hS : slots ≤ S) : own_Go p e below s Q C S (T.setTop (mkF m pc Ls (.int z :: rest))) := by
  obtain ⟨fs, hr, hrun, hended, hW, hsame⟩ := X.leave (v := some (.int z)) (fun h => by rw [hret] at h; cases h) hlocks
  exact ⟨_, _, retI X hx hret hd hr, hrun, hended, _, _, rfl, hq, ⟨_, rfl⟩, hW, hsame.mono hC hS⟩
theorem own_retJ (X : Stand p l e R s m args below meth c T locs cells slots) (hx : p.tables.exec = Jvm.exec) (hlocks : meth.locks = false) {pc : Nat} {Ls : Array Slot} {z : Int64} {rest : List Value} (hret : meth.sig.returnType = some .long)
    (hd : decode c.code pc = .ok (.lreturn, 1)) (hq : Q (some (.long z)) T.heap locs) (hC : cells ≤ C) (hS : slots ≤ S) : own_Go p e below s Q C S (T.setTop (mkF m pc Ls (.long z :: rest))) := by
  obtain ⟨fs, hr, hrun, hended, hW, hsame⟩ := X.leave (v := some (.long z)) (fun h => by rw [hret] at h; cases h) hlocks
  refine ⟨_, _, ?_, hrun, hended, _, _, rfl, hq, ⟨_, rfl⟩, hW, hsame.mono hC hS⟩
  have hm' : T.vm.method? m = some meth := X.method'
  show Steps p.tables e below (T.setTop { method := m, pc := pc, locals := Ls, stack := _ :: rest, locked := none }) _
  jvm_step X.here [X.here.top, hx, hd, hm', hret, narrow]
  first | (intro acts; rw [hr _ acts rfl rfl rfl]) | rw [hr _ _ rfl rfl rfl]
  exact Steps.refl _
theorem own_retV (X : Stand p l e R s m args below meth c T locs cells slots) (hx : p.tables.exec = Jvm.exec) (hlocks : meth.locks = false) {pc : Nat} {Ls : Array Slot} (hret : meth.sig.returnType = none)
    (hd : decode c.code pc = .ok (.return_, 1)) (hq : Q none T.heap locs) (hC : cells ≤ C) (hS : slots ≤ S) : own_Go p e below s Q C S (T.setTop (mkF m pc Ls [])) := by
  obtain ⟨fs, hr, hrun, hended, hW, hsame⟩ := X.leave (v := none) (fun _ => rfl) hlocks
  exact ⟨_, _, X.returnOut hx hret hd hr, hrun, hended, _, _, rfl, hq, ⟨_, rfl⟩, hW, hsame.mono hC hS⟩
theorem own_retR (X : Stand p l e R s m args below meth c T locs cells slots) (hx : p.tables.exec = Jvm.exec) (hlocks : meth.locks = false) {pc : Nat} {Ls : Array Slot} {v : Value} {t : FieldType} {rest : List Value} (hret : meth.sig.returnType = some t) (hv : v.isRef = true) (ht : t.isReference = true)
    (hd : decode c.code pc = .ok (.areturn, 1)) (hq : Q (some v) T.heap locs) (hC : cells ≤ C) (hS : slots ≤ S) : own_Go p e below s Q C S (T.setTop (mkF m pc Ls (v :: rest))) := by
  obtain ⟨fs, hr, hrun, hended, hW, hsame⟩ := X.leave (v := some v) (fun h => by rw [hret] at h; cases h) hlocks
  refine ⟨_, _, ?_, hrun, hended, _, _, rfl, hq, ⟨_, rfl⟩, hW, hsame.mono hC hS⟩
  have hm' : T.vm.method? m = some meth := X.method'
  show Steps p.tables e below (T.setTop { method := m, pc := pc, locals := Ls, stack := _ :: rest, locked := none }) _
  jvm_step X.here [X.here.top, hx, hd, hm', hret, hv, ht]
  first | (intro acts; rw [hr _ acts rfl rfl rfl]) | rw [hr _ _ rfl rfl rfl]
  exact Steps.refl _
theorem own_staKeep {Z : State} {h h' : Heap} {ws : List Addr} {C n d : String} {v : Value} (F : Sta Z h C n d v) (K : Keep h h' ws) (q : ∀ x ∈ ws, ∀ cell : Cell, h[x]? = some cell → cell.vm.isStatics = false) : Sta Z h' C n d v := by
  obtain ⟨cf, i, k, f, st, cell, h1, h2, h3, h4, h5, h6, h7⟩ := F
  exact ⟨cf, i, k, f, st, cell, h1, h2, h3, h4, K.2.1 st cell h5 (fun m => by have := q st m cell h5; rw [h6] at this; cases this), h6, h7⟩
/-- the same under the wide frame (a String constant may have been loaded) -/
def own_GoW (p : Program) (e : Env) (below : List Frame) (s : State) (Q : Option Value → Heap → List Loc → Prop) (C S : Nat) (A : State) : Prop :=
  ∃ s₂ o, Steps p.tables e below A s₂ ∧ s₂.status = .running ∧ Ended s₂ below o ∧ ∃ v L, o = .returned v ∧ Q v s₂.heap L ∧ ReturnedEndW s o s₂ L C S
theorem own_stepW (h : ∀ t, Steps p.tables e below B t → Steps p.tables e below A t) (k : own_GoW p e below s Q C S B) : own_GoW p e below s Q C S A := by
  obtain ⟨s₂, o, h1, h2⟩ := k; exact ⟨s₂, o, h _ h1, h2⟩
theorem own_viaW (h : Steps p.tables e below A B) (k : own_GoW p e below s Q C S B) : own_GoW p e below s Q C S A := own_stepW (fun _ q => h.trans q) k
theorem own_retNW {vm1 : Vm} {n : Nat} (X : Stand p l e R (s.setVm vm1) m args below meth c T locs cells slots) (hS : s.Since vm1 n) (hn : n ≤ T.heap.size) (hx : p.tables.exec = Jvm.exec) (hlocks : meth.locks = false) {pc : Nat} {Ls : Array Slot} {z : Int32} {t : FieldType} {rest : List Value} (hret : meth.sig.returnType = some t) (ht : t = .boolean ∨ t = .byte ∨ t = .char ∨ t = .short)
    (hd : decode c.code pc = .ok (.ireturn, 1)) (hq : Q (some (.int (nar t z))) T.heap locs) (hC : cells ≤ C) (hS' : slots ≤ S) : own_GoW p e below s Q C S (T.setTop (mkF m pc Ls (.int z :: rest))) := by
  obtain ⟨fs, hr, hrun, hended, h1, h2, h3, h4⟩ := X.leaveW hS hn (v := some (.int (nar t z))) (fun h => by rw [hret] at h; cases h) hlocks
  exact ⟨_, _, retN X hx hret ht hd hr, hrun, hended, _, _, rfl, hq, h1, h2, h3, h4.mono hC hS'⟩
theorem own_retVW {vm1 : Vm} {n : Nat} (X : Stand p l e R (s.setVm vm1) m args below meth c T locs cells slots) (hS : s.Since vm1 n) (hn : n ≤ T.heap.size) (hx : p.tables.exec = Jvm.exec) (hlocks : meth.locks = false) {pc : Nat} {Ls : Array Slot} (hret : meth.sig.returnType = none)
    (hd : decode c.code pc = .ok (.return_, 1)) (hq : Q none T.heap locs) (hC : cells ≤ C) (hS' : slots ≤ S) : own_GoW p e below s Q C S (T.setTop (mkF m pc Ls [])) := by
  obtain ⟨fs, hr, hrun, hended, h1, h2, h3, h4⟩ := X.leaveW hS hn (v := none) (fun _ => rfl) hlocks
  exact ⟨_, _, X.returnOut hx hret hd hr, hrun, hended, _, _, rfl, hq, h1, h2, h3, h4.mono hC hS'⟩
end OwnGo

def own_b (p : Prop) [Decidable p] : Int32 := if p then 1 else 0
theorem own_bt {p : Prop} [Decidable p] (h : p) : own_b p = 1 := if_pos h
theorem own_bf {p : Prop} [Decidable p] (h : ¬ p) : own_b p = 0 := if_neg h
theorem own_bn (p : Prop) [Decidable p] : narrow .boolean (.int (own_b p)) = .int (own_b p) := by unfold own_b; split <;> rfl
theorem own_bfit (p : Prop) [Decidable p] : fits .boolean (.int (own_b p)) = true := by unfold own_b; split <;> rfl
theorem own_iff {p q : Prop} [Decidable p] [Decidable q] (h : p ↔ q) : own_b p = own_b q := by unfold own_b; simp only [h]
/-- the plain signs -/
def own_P (p : Int32) : Prop := (¬ p < 48 ∧ ¬ 57 < p) ∨ (¬ p < 65 ∧ ¬ 90 < p) ∨ (¬ p < 97 ∧ ¬ 122 < p) ∨ p = 46 ∨ p = 95 ∨ p = 45
instance (p : Int32) : Decidable (own_P p) := by unfold own_P; infer_instance
def own_all (f : Nat → Int32) : Nat → Nat → Prop
  | _, 0 => True
  | i, k + 1 => own_P (f i) ∧ own_all f (i + 1) k
def own_allD (f : Nat → Int32) : ∀ i k, Decidable (own_all f i k)
  | _, 0 => isTrue trivial
  | i, k + 1 => @instDecidableAnd _ _ _ (own_allD f (i + 1) k)
instance (f : Nat → Int32) (i k : Nat) : Decidable (own_all f i k) := own_allD f i k
theorem own_toInt {n : Nat} (h : n < 2 ^ 31) : (Int32.ofNat n).toInt = n := Int32.toInt_ofNat_of_lt h
theorem own_nat {n : Nat} (h : n < 2 ^ 31) : (Int32.ofNat n).toNatClampNeg = n := by simp only [Int32.toNatClampNeg, own_toInt h]; rfl
theorem own_lt {a b : Nat} (ha : a < 2 ^ 31) (hb : b < 2 ^ 31) : Int32.ofNat a < Int32.ofNat b ↔ a < b := by rw [Int32.lt_iff_toInt_lt, own_toInt ha, own_toInt hb]; omega
theorem own_succ (i : Nat) : Int32.ofNat i + 1 = Int32.ofNat (i + 1) := by rw [Int32.ofNat_add]; rfl
theorem own_in {cl : Cell} {n sz : Nat} (hs : cl.slots.size = sz) (h : n < sz) (hz : sz ≤ 2 ^ 31) : ¬ (Int32.ofNat n < 0 ∨ cl.slots.size ≤ (Int32.ofNat n).toNatClampNeg) := by
  rw [own_nat (by omega), hs, Int32.lt_iff_toInt_lt, own_toInt (by omega)]
  have e0 : (0 : Int32).toInt = 0 := rfl
  omega
theorem own_mask31 (x : Int32) : 0 ≤ (x &&& (2147483647 : Int32)).toInt := by
  have h : (x &&& (2147483647 : Int32)).toBitVec.msb = false := by
    rw [Int32.toBitVec_and, BitVec.msb_and, show (2147483647 : Int32).toBitVec.msb = false from rfl, Bool.and_false]
  have := BitVec.toInt_eq_toNat_of_msb h
  show 0 ≤ (x &&& (2147483647 : Int32)).toBitVec.toInt
  omega
theorem own_rem (a b : Int32) (n : Int) (hb : b.toInt = n) (h0 : 0 ≤ a.toInt) (hn : 0 < n) : (a - a / b * b).toInt = a.toInt % n := by
  have l := a.toInt_lt
  have d : (a / b).toInt = a.toInt / n := by
    rw [Int32.toInt_div, hb, Int.tdiv_eq_ediv_of_nonneg h0]
    have := Int.ediv_nonneg h0 (Int.le_of_lt hn)
    have := Int.ediv_le_self n h0
    rw [Int.bmod_eq_of_le] <;> omega
  have e1 := Int.emod_nonneg a.toInt (Int.ne_of_gt hn)
  have e2 := Int.emod_add_mul_ediv a.toInt n
  have e3 : a.toInt / n * n = a.toInt - a.toInt % n := by rw [Int.mul_comm]; omega
  have e5 := Int.emod_lt_of_pos a.toInt hn
  have e6 := Int.ediv_nonneg h0 (Int.le_of_lt hn)
  have e7 : 0 ≤ a.toInt / n * n := Int.mul_nonneg e6 (Int.le_of_lt hn)
  have m : (a / b * b).toInt = a.toInt / n * n := by
    rw [Int32.toInt_mul, d, hb, Int.bmod_eq_of_le] <;> omega
  rw [Int32.toInt_sub, m, Int.bmod_eq_of_le] <;> omega
theorem own_mod5 (x : Int32) : ∃ n : Nat, n ≤ 4 ∧ ((x &&& (2147483647 : Int32)) - (x &&& (2147483647 : Int32)) / (5 : Int32) * (5 : Int32)) = Int32.ofNat n := by
  have h0 := own_mask31 x
  have e := own_rem (x &&& (2147483647 : Int32)) 5 5 rfl h0 (by decide)
  refine ⟨((x &&& (2147483647 : Int32)).toInt % 5).toNat, by omega, ?_⟩
  rw [← Int32.toInt_inj, e, Int32.toInt_ofNat_of_lt] <;> omega
theorem own_char (x : Int32) : 0 ≤ (nar .char x).toInt := by
  have l := x.toUInt32.toUInt16.toNat_lt
  show 0 ≤ (x.toUInt32.toUInt16.toUInt32.toBitVec).toInt
  rw [BitVec.toInt_eq_toNat_of_lt]
  · omega
  · show 2 * x.toUInt32.toUInt16.toUInt32.toNat < 2 ^ 32
    rw [UInt16.toNat_toUInt32]; omega
def own_ok (i n1 n2 : Nat) (x : Int32) : Prop := Int32.ofNat i < Int32.ofNat n1 ∨ ¬ Int32.ofNat i < Int32.ofNat n2 ∨ own_P x
instance (i n1 n2 : Nat) (x : Int32) : Decidable (own_ok i n1 n2 x) := by unfold own_ok; infer_instance
theorem own_okn {i n1 n2 : Nat} {x : Int32} (hi : i ≤ 4) (h1 : n1 ≤ 4) (h2 : n2 ≤ 4) : own_ok i n1 n2 x ↔ (i < n1 ∨ ¬ i < n2 ∨ own_P x) := by
  unfold own_ok; rw [own_lt (by omega) (by omega), own_lt (by omega) (by omega)]
theorem own_eqv (f : Nat → Int32) {n1 n2 : Nat} (h1 : n1 ≤ 4) (h2 : n2 ≤ 4) : own_all f n1 (n2 - n1) ↔ (own_ok 0 n1 n2 (f 0) ∧ own_ok 1 n1 n2 (f 1) ∧ own_ok 2 n1 n2 (f 2) ∧ own_ok 3 n1 n2 (f 3)) := by
  rw [own_okn (by omega) h1 h2, own_okn (by omega) h1 h2, own_okn (by omega) h1 h2, own_okn (by omega) h1 h2]
  have a : n1 = 0 ∨ n1 = 1 ∨ n1 = 2 ∨ n1 = 3 ∨ n1 = 4 := by omega
  have b : n2 = 0 ∨ n2 = 1 ∨ n2 = 2 ∨ n2 = 3 ∨ n2 = 4 := by omega
  rcases a with rfl | rfl | rfl | rfl | rfl <;> rcases b with rfl | rfl | rfl | rfl | rfl <;> simp [own_all]
theorem own_b0 {p : Prop} [Decidable p] : own_b p = 0 ↔ ¬ p := by unfold own_b; by_cases h : p <;> simp [h]
/-- the table of plain signs -/
theorem own_big (x : Int32) (h0 : 0 ≤ x.toInt) (h : ¬ x < 128) : ¬ own_P x := by
  unfold own_P
  simp only [Int32.lt_iff_toInt_lt, ← Int32.toInt_inj] at *
  have e0 : (48 : Int32).toInt = 48 := rfl
  have e1 : (57 : Int32).toInt = 57 := rfl
  have e2 : (65 : Int32).toInt = 65 := rfl
  have e3 : (90 : Int32).toInt = 90 := rfl
  have e4 : (97 : Int32).toInt = 97 := rfl
  have e5 : (122 : Int32).toInt = 122 := rfl
  have e6 : (46 : Int32).toInt = 46 := rfl
  have e7 : (95 : Int32).toInt = 95 := rfl
  have e8 : (45 : Int32).toInt = 45 := rfl
  have e9 : (128 : Int32).toInt = 128 := rfl
  rw [e0, e1, e2, e3, e4, e5, e6, e7, e8]
  rw [e9] at h
  omega
theorem own_st {a b c d : Value} {s4 : Slot} (h : One s4) (v : Int32) : storeLocals #[.val a, .val b, .val c, .val d, s4] 4 (.int v) = some #[.val a, .val b, .val c, .val d, .val (.int v)] := by
  rcases h with rfl | ⟨w, rfl, hw⟩
  · rfl
  · cases w <;> first | rfl | (simp [Value.category] at hw)
theorem d2_0 : decode method_2_code 0 = .ok (.iload_n 0, 1) := by decide +kernel
theorem d2_1 : decode method_2_code 1 = .ok (.bipush 48, 2) := by decide +kernel
theorem d2_3 : decode method_2_code 3 = .ok (.if_icmp .lt 9, 3) := by decide +kernel
theorem d2_6 : decode method_2_code 6 = .ok (.iload_n 0, 1) := by decide +kernel
theorem d2_7 : decode method_2_code 7 = .ok (.bipush 57, 2) := by decide +kernel
theorem d2_9 : decode method_2_code 9 = .ok (.if_icmp .le 45, 3) := by decide +kernel
theorem d2_12 : decode method_2_code 12 = .ok (.iload_n 0, 1) := by decide +kernel
theorem d2_13 : decode method_2_code 13 = .ok (.bipush 65, 2) := by decide +kernel
theorem d2_15 : decode method_2_code 15 = .ok (.if_icmp .lt 9, 3) := by decide +kernel
theorem d2_18 : decode method_2_code 18 = .ok (.iload_n 0, 1) := by decide +kernel
theorem d2_19 : decode method_2_code 19 = .ok (.bipush 90, 2) := by decide +kernel
theorem d2_21 : decode method_2_code 21 = .ok (.if_icmp .le 33, 3) := by decide +kernel
theorem d2_24 : decode method_2_code 24 = .ok (.iload_n 0, 1) := by decide +kernel
theorem d2_25 : decode method_2_code 25 = .ok (.bipush 97, 2) := by decide +kernel
theorem d2_27 : decode method_2_code 27 = .ok (.if_icmp .lt 9, 3) := by decide +kernel
theorem d2_30 : decode method_2_code 30 = .ok (.iload_n 0, 1) := by decide +kernel
theorem d2_31 : decode method_2_code 31 = .ok (.bipush 122, 2) := by decide +kernel
theorem d2_33 : decode method_2_code 33 = .ok (.if_icmp .le 21, 3) := by decide +kernel
theorem d2_36 : decode method_2_code 36 = .ok (.iload_n 0, 1) := by decide +kernel
theorem d2_37 : decode method_2_code 37 = .ok (.bipush 46, 2) := by decide +kernel
theorem d2_39 : decode method_2_code 39 = .ok (.if_icmp .eq 15, 3) := by decide +kernel
theorem d2_42 : decode method_2_code 42 = .ok (.iload_n 0, 1) := by decide +kernel
theorem d2_43 : decode method_2_code 43 = .ok (.bipush 95, 2) := by decide +kernel
theorem d2_45 : decode method_2_code 45 = .ok (.if_icmp .eq 9, 3) := by decide +kernel
theorem d2_48 : decode method_2_code 48 = .ok (.iload_n 0, 1) := by decide +kernel
theorem d2_49 : decode method_2_code 49 = .ok (.bipush 45, 2) := by decide +kernel
theorem d2_51 : decode method_2_code 51 = .ok (.if_icmp .ne 7, 3) := by decide +kernel
theorem d2_54 : decode method_2_code 54 = .ok (.iconst 1, 1) := by decide +kernel
theorem d2_55 : decode method_2_code 55 = .ok (.goto 4, 3) := by decide +kernel
theorem d2_58 : decode method_2_code 58 = .ok (.iconst 0, 1) := by decide +kernel
theorem d2_59 : decode method_2_code 59 = .ok (.ireturn, 1) := by decide +kernel
theorem pn_0 : plainName "tidemark/CheckpointIsPlainNamePinLaw" = true := by first | (simp [plainName, overriddenIn]; done) | decide +kernel
theorem ef_2 (m : MethodId) (p1 : Int32) : entryFrame m #[(.int p1)] 1 = mkF m 0 #[.val (.int p1)] [] := by first | (simp [entryFrame, mkF, argsToLocals, Value.category]; done) | rfl
def Q2 (Z : State) (p1 : Int32)  (h0 : Heap) (n0 : Nat) (v : Option Value) (h : Heap) (L : List Loc) : Prop := v = some (.int (own_b (own_P p1))) ∧ Fr n0 L ∧ h = h0
set_option maxRecDepth 65536 in
set_option maxHeartbeats 40000000 in
theorem rm2 (l : Launch) (Z : State) (a0 : Array Value) (hw : ∀ d ∈ tables_1, d.before a0 Z = true) (ws : List Jvm.Cond) (p1 : Int32)  (h0 : Heap) (n0 : Nat) (Z0 : n0 ≤ h0.size) :
    MetFree l (⟨"tidemark/CheckpointIsPlainNamePinLaw", "plain", "(C)Z"⟩ : MethodName) (head1 (Jvm.Cond.code (⟨"tidemark/CheckpointIsPlainNamePinLaw", "plain", "(C)Z"⟩ : MethodName) method_2_code 1 (some .boolean) :: ws) ({ frames := 0, cells := 0, slots := 0, locals := 0 } : Room)) (fun a U => a = #[(.int p1)] ∧ Z.Warmed39 U.vm ∧ U.heap = h0) (fun _ _ _ _ _ => True) (fun _ U o U' => ∃ v L, o = .returned v ∧ Q2 Z p1  h0 n0 v U'.heap L ∧ FrameEnd U o U' L ({ frames := 0, cells := 0, slots := 0, locals := 0 } : Room).cells ({ frames := 0, cells := 0, slots := 0, locals := 0 } : Room).slots) := by
  refine MetFree.of_bodySF (plainFor_of_name pn_0) hisR ?_
  intro p e s m args below meth c s₁ Bd hml0 hP hK
  obtain ⟨rfl, hZ, hh⟩ := hP
  have hx := Bd.exec
  have hby := Bd.bytes
  have hml : c.maxLocals = 1 := hml0
  have hown : s.vm.findClass "tidemark/CheckpointIsPlainNamePinLaw" = some m.cls := findClass_of_methodNamed Bd.named
  have hnm := (name_of_methodNamed Bd.named Bd.method).1
  have X0 : Stand p l e ({ frames := 0, cells := 0, slots := 0, locals := 0 } : Room) s m #[(.int p1)] below meth c s₁ [] 0 0 := Stand.of_body Bd
  have e0 : s₁.heap = h0 := by rw [← hh, Bd.state]; rfl
  have N0 := Fr.nil n0
  skip
  show own_Go p e below s (Q2 Z p1  h0 n0) ({ frames := 0, cells := 0, slots := 0, locals := 0 } : Room).cells ({ frames := 0, cells := 0, slots := 0, locals := 0 } : Room).slots _
  refine own_step (B := s₁.setTop (mkF m 0 #[.val (.int p1)] [])) (fun t k => castTop (ef_2 m p1) k) ?_
  refine own_step (B := s₁.setTop (mkF m 3 #[.val (.int p1)] [(.int (48 : Int32)), (.int p1)])) (fun t k => ?_) ?_
  · show Steps p.tables e below (s₁.setTop (mkF m 0 #[.val (.int p1)] [])) _
    refine XS.iloadN X0.here hx rfl (hb hby d2_0) rfl ?_
    show Steps p.tables e below (s₁.setTop (mkF m 1 #[.val (.int p1)] [(.int p1)])) _
    refine XS.bipush X0.here hx rfl (hb hby d2_1) ?_
    exact k
  by_cases hc3 : p1 < (48 : Int32)
  · refine own_step (B := s₁.setTop (mkF m 15 #[.val (.int p1)] [(.int (65 : Int32)), (.int p1)])) (fun t k => ?_) ?_
    · show Steps p.tables e below (s₁.setTop (mkF m 3 #[.val (.int p1)] [(.int (48 : Int32)), (.int p1)])) _
      refine XS.icmpYes X0.here hx rfl (pc0 := 3) (pc' := 12) rfl (hb hby d2_3) rfl (tlt hc3).1 (by decide) (by decide) ?_
      show Steps p.tables e below (s₁.setTop (mkF m 12 #[.val (.int p1)] [])) _
      refine XS.iloadN X0.here hx rfl (hb hby d2_12) rfl ?_
      show Steps p.tables e below (s₁.setTop (mkF m 13 #[.val (.int p1)] [(.int p1)])) _
      refine XS.bipush X0.here hx rfl (hb hby d2_13) ?_
      exact k
    by_cases hc15 : p1 < (65 : Int32)
    · refine own_step (B := s₁.setTop (mkF m 27 #[.val (.int p1)] [(.int (97 : Int32)), (.int p1)])) (fun t k => ?_) ?_
      · show Steps p.tables e below (s₁.setTop (mkF m 15 #[.val (.int p1)] [(.int (65 : Int32)), (.int p1)])) _
        refine XS.icmpYes X0.here hx rfl (pc0 := 15) (pc' := 24) rfl (hb hby d2_15) rfl (tlt hc15).1 (by decide) (by decide) ?_
        show Steps p.tables e below (s₁.setTop (mkF m 24 #[.val (.int p1)] [])) _
        refine XS.iloadN X0.here hx rfl (hb hby d2_24) rfl ?_
        show Steps p.tables e below (s₁.setTop (mkF m 25 #[.val (.int p1)] [(.int p1)])) _
        refine XS.bipush X0.here hx rfl (hb hby d2_25) ?_
        exact k
      by_cases hc27 : p1 < (97 : Int32)
      · refine own_step (B := s₁.setTop (mkF m 39 #[.val (.int p1)] [(.int (46 : Int32)), (.int p1)])) (fun t k => ?_) ?_
        · show Steps p.tables e below (s₁.setTop (mkF m 27 #[.val (.int p1)] [(.int (97 : Int32)), (.int p1)])) _
          refine XS.icmpYes X0.here hx rfl (pc0 := 27) (pc' := 36) rfl (hb hby d2_27) rfl (tlt hc27).1 (by decide) (by decide) ?_
          show Steps p.tables e below (s₁.setTop (mkF m 36 #[.val (.int p1)] [])) _
          refine XS.iloadN X0.here hx rfl (hb hby d2_36) rfl ?_
          show Steps p.tables e below (s₁.setTop (mkF m 37 #[.val (.int p1)] [(.int p1)])) _
          refine XS.bipush X0.here hx rfl (hb hby d2_37) ?_
          exact k
        by_cases hc39 : p1 = (46 : Int32)
        · refine own_step (B := s₁.setTop (mkF m 59 #[.val (.int p1)] [(.int (1 : Int32))])) (fun t k => ?_) ?_
          · show Steps p.tables e below (s₁.setTop (mkF m 39 #[.val (.int p1)] [(.int (46 : Int32)), (.int p1)])) _
            refine XS.icmpYes X0.here hx rfl (pc0 := 39) (pc' := 54) rfl (hb hby d2_39) rfl (teq hc39).1 (by decide) (by decide) ?_
            show Steps p.tables e below (s₁.setTop (mkF m 54 #[.val (.int p1)] [])) _
            refine XS.iconst X0.here hx rfl (hb hby d2_54) ?_
            show Steps p.tables e below (s₁.setTop (mkF m 55 #[.val (.int p1)] [(.int (1 : Int32))])) _
            refine XS.goto X0.here hx rfl (pc0 := 55) (pc' := 59) rfl (hb hby d2_55) (by decide) (by decide) ?_
            exact k
          exact own_retN X0 hx Bd.notSynchronized (t := .boolean) Bd.returns (by simp) (hb hby d2_59) ⟨by show some (Value.int ((1 : Int32))) = _; simp [own_b, own_P, hc3, hc15, hc27, hc39], N0, e0⟩ (by decide) (by decide)
        · refine own_step (B := s₁.setTop (mkF m 45 #[.val (.int p1)] [(.int (95 : Int32)), (.int p1)])) (fun t k => ?_) ?_
          · show Steps p.tables e below (s₁.setTop (mkF m 39 #[.val (.int p1)] [(.int (46 : Int32)), (.int p1)])) _
            refine XS.icmpNo X0.here hx rfl (hb hby d2_39) rfl (feq hc39).1 ?_
            show Steps p.tables e below (s₁.setTop (mkF m 42 #[.val (.int p1)] [])) _
            refine XS.iloadN X0.here hx rfl (hb hby d2_42) rfl ?_
            show Steps p.tables e below (s₁.setTop (mkF m 43 #[.val (.int p1)] [(.int p1)])) _
            refine XS.bipush X0.here hx rfl (hb hby d2_43) ?_
            exact k
          by_cases hc45 : p1 = (95 : Int32)
          · refine own_step (B := s₁.setTop (mkF m 59 #[.val (.int p1)] [(.int (1 : Int32))])) (fun t k => ?_) ?_
            · show Steps p.tables e below (s₁.setTop (mkF m 45 #[.val (.int p1)] [(.int (95 : Int32)), (.int p1)])) _
              refine XS.icmpYes X0.here hx rfl (pc0 := 45) (pc' := 54) rfl (hb hby d2_45) rfl (teq hc45).1 (by decide) (by decide) ?_
              show Steps p.tables e below (s₁.setTop (mkF m 54 #[.val (.int p1)] [])) _
              refine XS.iconst X0.here hx rfl (hb hby d2_54) ?_
              show Steps p.tables e below (s₁.setTop (mkF m 55 #[.val (.int p1)] [(.int (1 : Int32))])) _
              refine XS.goto X0.here hx rfl (pc0 := 55) (pc' := 59) rfl (hb hby d2_55) (by decide) (by decide) ?_
              exact k
            exact own_retN X0 hx Bd.notSynchronized (t := .boolean) Bd.returns (by simp) (hb hby d2_59) ⟨by show some (Value.int ((1 : Int32))) = _; simp [own_b, own_P, hc3, hc15, hc27, hc39, hc45], N0, e0⟩ (by decide) (by decide)
          · refine own_step (B := s₁.setTop (mkF m 51 #[.val (.int p1)] [(.int (45 : Int32)), (.int p1)])) (fun t k => ?_) ?_
            · show Steps p.tables e below (s₁.setTop (mkF m 45 #[.val (.int p1)] [(.int (95 : Int32)), (.int p1)])) _
              refine XS.icmpNo X0.here hx rfl (hb hby d2_45) rfl (feq hc45).1 ?_
              show Steps p.tables e below (s₁.setTop (mkF m 48 #[.val (.int p1)] [])) _
              refine XS.iloadN X0.here hx rfl (hb hby d2_48) rfl ?_
              show Steps p.tables e below (s₁.setTop (mkF m 49 #[.val (.int p1)] [(.int p1)])) _
              refine XS.bipush X0.here hx rfl (hb hby d2_49) ?_
              exact k
            by_cases hc51 : p1 = (45 : Int32)
            · refine own_step (B := s₁.setTop (mkF m 59 #[.val (.int p1)] [(.int (1 : Int32))])) (fun t k => ?_) ?_
              · show Steps p.tables e below (s₁.setTop (mkF m 51 #[.val (.int p1)] [(.int (45 : Int32)), (.int p1)])) _
                refine XS.icmpNo X0.here hx rfl (hb hby d2_51) rfl (teq hc51).2 ?_
                show Steps p.tables e below (s₁.setTop (mkF m 54 #[.val (.int p1)] [])) _
                refine XS.iconst X0.here hx rfl (hb hby d2_54) ?_
                show Steps p.tables e below (s₁.setTop (mkF m 55 #[.val (.int p1)] [(.int (1 : Int32))])) _
                refine XS.goto X0.here hx rfl (pc0 := 55) (pc' := 59) rfl (hb hby d2_55) (by decide) (by decide) ?_
                exact k
              exact own_retN X0 hx Bd.notSynchronized (t := .boolean) Bd.returns (by simp) (hb hby d2_59) ⟨by show some (Value.int ((1 : Int32))) = _; simp [own_b, own_P, hc3, hc15, hc27, hc39, hc45, hc51], N0, e0⟩ (by decide) (by decide)
            · refine own_step (B := s₁.setTop (mkF m 59 #[.val (.int p1)] [(.int (0 : Int32))])) (fun t k => ?_) ?_
              · show Steps p.tables e below (s₁.setTop (mkF m 51 #[.val (.int p1)] [(.int (45 : Int32)), (.int p1)])) _
                refine XS.icmpYes X0.here hx rfl (pc0 := 51) (pc' := 58) rfl (hb hby d2_51) rfl (feq hc51).2 (by decide) (by decide) ?_
                show Steps p.tables e below (s₁.setTop (mkF m 58 #[.val (.int p1)] [])) _
                refine XS.iconst X0.here hx rfl (hb hby d2_58) ?_
                exact k
              exact own_retN X0 hx Bd.notSynchronized (t := .boolean) Bd.returns (by simp) (hb hby d2_59) ⟨by show some (Value.int ((0 : Int32))) = _; simp [own_b, own_P, hc3, hc15, hc27, hc39, hc45, hc51], N0, e0⟩ (by decide) (by decide)
      · refine own_step (B := s₁.setTop (mkF m 33 #[.val (.int p1)] [(.int (122 : Int32)), (.int p1)])) (fun t k => ?_) ?_
        · show Steps p.tables e below (s₁.setTop (mkF m 27 #[.val (.int p1)] [(.int (97 : Int32)), (.int p1)])) _
          refine XS.icmpNo X0.here hx rfl (hb hby d2_27) rfl (flt hc27).1 ?_
          show Steps p.tables e below (s₁.setTop (mkF m 30 #[.val (.int p1)] [])) _
          refine XS.iloadN X0.here hx rfl (hb hby d2_30) rfl ?_
          show Steps p.tables e below (s₁.setTop (mkF m 31 #[.val (.int p1)] [(.int p1)])) _
          refine XS.bipush X0.here hx rfl (hb hby d2_31) ?_
          exact k
        by_cases hc33 : (122 : Int32) < p1
        · refine own_step (B := s₁.setTop (mkF m 39 #[.val (.int p1)] [(.int (46 : Int32)), (.int p1)])) (fun t k => ?_) ?_
          · show Steps p.tables e below (s₁.setTop (mkF m 33 #[.val (.int p1)] [(.int (122 : Int32)), (.int p1)])) _
            refine XS.icmpNo X0.here hx rfl (hb hby d2_33) rfl (tlt hc33).2.2.2 ?_
            show Steps p.tables e below (s₁.setTop (mkF m 36 #[.val (.int p1)] [])) _
            refine XS.iloadN X0.here hx rfl (hb hby d2_36) rfl ?_
            show Steps p.tables e below (s₁.setTop (mkF m 37 #[.val (.int p1)] [(.int p1)])) _
            refine XS.bipush X0.here hx rfl (hb hby d2_37) ?_
            exact k
          by_cases hc39 : p1 = (46 : Int32)
          · refine own_step (B := s₁.setTop (mkF m 59 #[.val (.int p1)] [(.int (1 : Int32))])) (fun t k => ?_) ?_
            · show Steps p.tables e below (s₁.setTop (mkF m 39 #[.val (.int p1)] [(.int (46 : Int32)), (.int p1)])) _
              refine XS.icmpYes X0.here hx rfl (pc0 := 39) (pc' := 54) rfl (hb hby d2_39) rfl (teq hc39).1 (by decide) (by decide) ?_
              show Steps p.tables e below (s₁.setTop (mkF m 54 #[.val (.int p1)] [])) _
              refine XS.iconst X0.here hx rfl (hb hby d2_54) ?_
              show Steps p.tables e below (s₁.setTop (mkF m 55 #[.val (.int p1)] [(.int (1 : Int32))])) _
              refine XS.goto X0.here hx rfl (pc0 := 55) (pc' := 59) rfl (hb hby d2_55) (by decide) (by decide) ?_
              exact k
            exact own_retN X0 hx Bd.notSynchronized (t := .boolean) Bd.returns (by simp) (hb hby d2_59) ⟨by show some (Value.int ((1 : Int32))) = _; simp [own_b, own_P, hc3, hc15, hc27, hc33, hc39], N0, e0⟩ (by decide) (by decide)
          · refine own_step (B := s₁.setTop (mkF m 45 #[.val (.int p1)] [(.int (95 : Int32)), (.int p1)])) (fun t k => ?_) ?_
            · show Steps p.tables e below (s₁.setTop (mkF m 39 #[.val (.int p1)] [(.int (46 : Int32)), (.int p1)])) _
              refine XS.icmpNo X0.here hx rfl (hb hby d2_39) rfl (feq hc39).1 ?_
              show Steps p.tables e below (s₁.setTop (mkF m 42 #[.val (.int p1)] [])) _
              refine XS.iloadN X0.here hx rfl (hb hby d2_42) rfl ?_
              show Steps p.tables e below (s₁.setTop (mkF m 43 #[.val (.int p1)] [(.int p1)])) _
              refine XS.bipush X0.here hx rfl (hb hby d2_43) ?_
              exact k
            by_cases hc45 : p1 = (95 : Int32)
            · refine own_step (B := s₁.setTop (mkF m 59 #[.val (.int p1)] [(.int (1 : Int32))])) (fun t k => ?_) ?_
              · show Steps p.tables e below (s₁.setTop (mkF m 45 #[.val (.int p1)] [(.int (95 : Int32)), (.int p1)])) _
                refine XS.icmpYes X0.here hx rfl (pc0 := 45) (pc' := 54) rfl (hb hby d2_45) rfl (teq hc45).1 (by decide) (by decide) ?_
                show Steps p.tables e below (s₁.setTop (mkF m 54 #[.val (.int p1)] [])) _
                refine XS.iconst X0.here hx rfl (hb hby d2_54) ?_
                show Steps p.tables e below (s₁.setTop (mkF m 55 #[.val (.int p1)] [(.int (1 : Int32))])) _
                refine XS.goto X0.here hx rfl (pc0 := 55) (pc' := 59) rfl (hb hby d2_55) (by decide) (by decide) ?_
                exact k
              exact own_retN X0 hx Bd.notSynchronized (t := .boolean) Bd.returns (by simp) (hb hby d2_59) ⟨by show some (Value.int ((1 : Int32))) = _; simp [own_b, own_P, hc3, hc15, hc27, hc33, hc39, hc45], N0, e0⟩ (by decide) (by decide)
            · refine own_step (B := s₁.setTop (mkF m 51 #[.val (.int p1)] [(.int (45 : Int32)), (.int p1)])) (fun t k => ?_) ?_
              · show Steps p.tables e below (s₁.setTop (mkF m 45 #[.val (.int p1)] [(.int (95 : Int32)), (.int p1)])) _
                refine XS.icmpNo X0.here hx rfl (hb hby d2_45) rfl (feq hc45).1 ?_
                show Steps p.tables e below (s₁.setTop (mkF m 48 #[.val (.int p1)] [])) _
                refine XS.iloadN X0.here hx rfl (hb hby d2_48) rfl ?_
                show Steps p.tables e below (s₁.setTop (mkF m 49 #[.val (.int p1)] [(.int p1)])) _
                refine XS.bipush X0.here hx rfl (hb hby d2_49) ?_
                exact k
              by_cases hc51 : p1 = (45 : Int32)
              · refine own_step (B := s₁.setTop (mkF m 59 #[.val (.int p1)] [(.int (1 : Int32))])) (fun t k => ?_) ?_
                · show Steps p.tables e below (s₁.setTop (mkF m 51 #[.val (.int p1)] [(.int (45 : Int32)), (.int p1)])) _
                  refine XS.icmpNo X0.here hx rfl (hb hby d2_51) rfl (teq hc51).2 ?_
                  show Steps p.tables e below (s₁.setTop (mkF m 54 #[.val (.int p1)] [])) _
                  refine XS.iconst X0.here hx rfl (hb hby d2_54) ?_
                  show Steps p.tables e below (s₁.setTop (mkF m 55 #[.val (.int p1)] [(.int (1 : Int32))])) _
                  refine XS.goto X0.here hx rfl (pc0 := 55) (pc' := 59) rfl (hb hby d2_55) (by decide) (by decide) ?_
                  exact k
                exact own_retN X0 hx Bd.notSynchronized (t := .boolean) Bd.returns (by simp) (hb hby d2_59) ⟨by show some (Value.int ((1 : Int32))) = _; simp [own_b, own_P, hc3, hc15, hc27, hc33, hc39, hc45, hc51], N0, e0⟩ (by decide) (by decide)
              · refine own_step (B := s₁.setTop (mkF m 59 #[.val (.int p1)] [(.int (0 : Int32))])) (fun t k => ?_) ?_
                · show Steps p.tables e below (s₁.setTop (mkF m 51 #[.val (.int p1)] [(.int (45 : Int32)), (.int p1)])) _
                  refine XS.icmpYes X0.here hx rfl (pc0 := 51) (pc' := 58) rfl (hb hby d2_51) rfl (feq hc51).2 (by decide) (by decide) ?_
                  show Steps p.tables e below (s₁.setTop (mkF m 58 #[.val (.int p1)] [])) _
                  refine XS.iconst X0.here hx rfl (hb hby d2_58) ?_
                  exact k
                exact own_retN X0 hx Bd.notSynchronized (t := .boolean) Bd.returns (by simp) (hb hby d2_59) ⟨by show some (Value.int ((0 : Int32))) = _; simp [own_b, own_P, hc3, hc15, hc27, hc33, hc39, hc45, hc51], N0, e0⟩ (by decide) (by decide)
        · refine own_step (B := s₁.setTop (mkF m 59 #[.val (.int p1)] [(.int (1 : Int32))])) (fun t k => ?_) ?_
          · show Steps p.tables e below (s₁.setTop (mkF m 33 #[.val (.int p1)] [(.int (122 : Int32)), (.int p1)])) _
            refine XS.icmpYes X0.here hx rfl (pc0 := 33) (pc' := 54) rfl (hb hby d2_33) rfl (flt hc33).2.2.2 (by decide) (by decide) ?_
            show Steps p.tables e below (s₁.setTop (mkF m 54 #[.val (.int p1)] [])) _
            refine XS.iconst X0.here hx rfl (hb hby d2_54) ?_
            show Steps p.tables e below (s₁.setTop (mkF m 55 #[.val (.int p1)] [(.int (1 : Int32))])) _
            refine XS.goto X0.here hx rfl (pc0 := 55) (pc' := 59) rfl (hb hby d2_55) (by decide) (by decide) ?_
            exact k
          exact own_retN X0 hx Bd.notSynchronized (t := .boolean) Bd.returns (by simp) (hb hby d2_59) ⟨by show some (Value.int ((1 : Int32))) = _; simp [own_b, own_P, hc3, hc15, hc27, hc33], N0, e0⟩ (by decide) (by decide)
    · refine own_step (B := s₁.setTop (mkF m 21 #[.val (.int p1)] [(.int (90 : Int32)), (.int p1)])) (fun t k => ?_) ?_
      · show Steps p.tables e below (s₁.setTop (mkF m 15 #[.val (.int p1)] [(.int (65 : Int32)), (.int p1)])) _
        refine XS.icmpNo X0.here hx rfl (hb hby d2_15) rfl (flt hc15).1 ?_
        show Steps p.tables e below (s₁.setTop (mkF m 18 #[.val (.int p1)] [])) _
        refine XS.iloadN X0.here hx rfl (hb hby d2_18) rfl ?_
        show Steps p.tables e below (s₁.setTop (mkF m 19 #[.val (.int p1)] [(.int p1)])) _
        refine XS.bipush X0.here hx rfl (hb hby d2_19) ?_
        exact k
      by_cases hc21 : (90 : Int32) < p1
      · refine own_step (B := s₁.setTop (mkF m 27 #[.val (.int p1)] [(.int (97 : Int32)), (.int p1)])) (fun t k => ?_) ?_
        · show Steps p.tables e below (s₁.setTop (mkF m 21 #[.val (.int p1)] [(.int (90 : Int32)), (.int p1)])) _
          refine XS.icmpNo X0.here hx rfl (hb hby d2_21) rfl (tlt hc21).2.2.2 ?_
          show Steps p.tables e below (s₁.setTop (mkF m 24 #[.val (.int p1)] [])) _
          refine XS.iloadN X0.here hx rfl (hb hby d2_24) rfl ?_
          show Steps p.tables e below (s₁.setTop (mkF m 25 #[.val (.int p1)] [(.int p1)])) _
          refine XS.bipush X0.here hx rfl (hb hby d2_25) ?_
          exact k
        by_cases hc27 : p1 < (97 : Int32)
        · refine own_step (B := s₁.setTop (mkF m 39 #[.val (.int p1)] [(.int (46 : Int32)), (.int p1)])) (fun t k => ?_) ?_
          · show Steps p.tables e below (s₁.setTop (mkF m 27 #[.val (.int p1)] [(.int (97 : Int32)), (.int p1)])) _
            refine XS.icmpYes X0.here hx rfl (pc0 := 27) (pc' := 36) rfl (hb hby d2_27) rfl (tlt hc27).1 (by decide) (by decide) ?_
            show Steps p.tables e below (s₁.setTop (mkF m 36 #[.val (.int p1)] [])) _
            refine XS.iloadN X0.here hx rfl (hb hby d2_36) rfl ?_
            show Steps p.tables e below (s₁.setTop (mkF m 37 #[.val (.int p1)] [(.int p1)])) _
            refine XS.bipush X0.here hx rfl (hb hby d2_37) ?_
            exact k
          by_cases hc39 : p1 = (46 : Int32)
          · refine own_step (B := s₁.setTop (mkF m 59 #[.val (.int p1)] [(.int (1 : Int32))])) (fun t k => ?_) ?_
            · show Steps p.tables e below (s₁.setTop (mkF m 39 #[.val (.int p1)] [(.int (46 : Int32)), (.int p1)])) _
              refine XS.icmpYes X0.here hx rfl (pc0 := 39) (pc' := 54) rfl (hb hby d2_39) rfl (teq hc39).1 (by decide) (by decide) ?_
              show Steps p.tables e below (s₁.setTop (mkF m 54 #[.val (.int p1)] [])) _
              refine XS.iconst X0.here hx rfl (hb hby d2_54) ?_
              show Steps p.tables e below (s₁.setTop (mkF m 55 #[.val (.int p1)] [(.int (1 : Int32))])) _
              refine XS.goto X0.here hx rfl (pc0 := 55) (pc' := 59) rfl (hb hby d2_55) (by decide) (by decide) ?_
              exact k
            exact own_retN X0 hx Bd.notSynchronized (t := .boolean) Bd.returns (by simp) (hb hby d2_59) ⟨by show some (Value.int ((1 : Int32))) = _; simp [own_b, own_P, hc3, hc15, hc21, hc27, hc39], N0, e0⟩ (by decide) (by decide)
          · refine own_step (B := s₁.setTop (mkF m 45 #[.val (.int p1)] [(.int (95 : Int32)), (.int p1)])) (fun t k => ?_) ?_
            · show Steps p.tables e below (s₁.setTop (mkF m 39 #[.val (.int p1)] [(.int (46 : Int32)), (.int p1)])) _
              refine XS.icmpNo X0.here hx rfl (hb hby d2_39) rfl (feq hc39).1 ?_
              show Steps p.tables e below (s₁.setTop (mkF m 42 #[.val (.int p1)] [])) _
              refine XS.iloadN X0.here hx rfl (hb hby d2_42) rfl ?_
              show Steps p.tables e below (s₁.setTop (mkF m 43 #[.val (.int p1)] [(.int p1)])) _
              refine XS.bipush X0.here hx rfl (hb hby d2_43) ?_
              exact k
            by_cases hc45 : p1 = (95 : Int32)
            · refine own_step (B := s₁.setTop (mkF m 59 #[.val (.int p1)] [(.int (1 : Int32))])) (fun t k => ?_) ?_
              · show Steps p.tables e below (s₁.setTop (mkF m 45 #[.val (.int p1)] [(.int (95 : Int32)), (.int p1)])) _
                refine XS.icmpYes X0.here hx rfl (pc0 := 45) (pc' := 54) rfl (hb hby d2_45) rfl (teq hc45).1 (by decide) (by decide) ?_
                show Steps p.tables e below (s₁.setTop (mkF m 54 #[.val (.int p1)] [])) _
                refine XS.iconst X0.here hx rfl (hb hby d2_54) ?_
                show Steps p.tables e below (s₁.setTop (mkF m 55 #[.val (.int p1)] [(.int (1 : Int32))])) _
                refine XS.goto X0.here hx rfl (pc0 := 55) (pc' := 59) rfl (hb hby d2_55) (by decide) (by decide) ?_
                exact k
              exact own_retN X0 hx Bd.notSynchronized (t := .boolean) Bd.returns (by simp) (hb hby d2_59) ⟨by show some (Value.int ((1 : Int32))) = _; simp [own_b, own_P, hc3, hc15, hc21, hc27, hc39, hc45], N0, e0⟩ (by decide) (by decide)
            · refine own_step (B := s₁.setTop (mkF m 51 #[.val (.int p1)] [(.int (45 : Int32)), (.int p1)])) (fun t k => ?_) ?_
              · show Steps p.tables e below (s₁.setTop (mkF m 45 #[.val (.int p1)] [(.int (95 : Int32)), (.int p1)])) _
                refine XS.icmpNo X0.here hx rfl (hb hby d2_45) rfl (feq hc45).1 ?_
                show Steps p.tables e below (s₁.setTop (mkF m 48 #[.val (.int p1)] [])) _
                refine XS.iloadN X0.here hx rfl (hb hby d2_48) rfl ?_
                show Steps p.tables e below (s₁.setTop (mkF m 49 #[.val (.int p1)] [(.int p1)])) _
                refine XS.bipush X0.here hx rfl (hb hby d2_49) ?_
                exact k
              by_cases hc51 : p1 = (45 : Int32)
              · refine own_step (B := s₁.setTop (mkF m 59 #[.val (.int p1)] [(.int (1 : Int32))])) (fun t k => ?_) ?_
                · show Steps p.tables e below (s₁.setTop (mkF m 51 #[.val (.int p1)] [(.int (45 : Int32)), (.int p1)])) _
                  refine XS.icmpNo X0.here hx rfl (hb hby d2_51) rfl (teq hc51).2 ?_
                  show Steps p.tables e below (s₁.setTop (mkF m 54 #[.val (.int p1)] [])) _
                  refine XS.iconst X0.here hx rfl (hb hby d2_54) ?_
                  show Steps p.tables e below (s₁.setTop (mkF m 55 #[.val (.int p1)] [(.int (1 : Int32))])) _
                  refine XS.goto X0.here hx rfl (pc0 := 55) (pc' := 59) rfl (hb hby d2_55) (by decide) (by decide) ?_
                  exact k
                exact own_retN X0 hx Bd.notSynchronized (t := .boolean) Bd.returns (by simp) (hb hby d2_59) ⟨by show some (Value.int ((1 : Int32))) = _; simp [own_b, own_P, hc3, hc15, hc21, hc27, hc39, hc45, hc51], N0, e0⟩ (by decide) (by decide)
              · refine own_step (B := s₁.setTop (mkF m 59 #[.val (.int p1)] [(.int (0 : Int32))])) (fun t k => ?_) ?_
                · show Steps p.tables e below (s₁.setTop (mkF m 51 #[.val (.int p1)] [(.int (45 : Int32)), (.int p1)])) _
                  refine XS.icmpYes X0.here hx rfl (pc0 := 51) (pc' := 58) rfl (hb hby d2_51) rfl (feq hc51).2 (by decide) (by decide) ?_
                  show Steps p.tables e below (s₁.setTop (mkF m 58 #[.val (.int p1)] [])) _
                  refine XS.iconst X0.here hx rfl (hb hby d2_58) ?_
                  exact k
                exact own_retN X0 hx Bd.notSynchronized (t := .boolean) Bd.returns (by simp) (hb hby d2_59) ⟨by show some (Value.int ((0 : Int32))) = _; simp [own_b, own_P, hc3, hc15, hc21, hc27, hc39, hc45, hc51], N0, e0⟩ (by decide) (by decide)
        · refine own_step (B := s₁.setTop (mkF m 33 #[.val (.int p1)] [(.int (122 : Int32)), (.int p1)])) (fun t k => ?_) ?_
          · show Steps p.tables e below (s₁.setTop (mkF m 27 #[.val (.int p1)] [(.int (97 : Int32)), (.int p1)])) _
            refine XS.icmpNo X0.here hx rfl (hb hby d2_27) rfl (flt hc27).1 ?_
            show Steps p.tables e below (s₁.setTop (mkF m 30 #[.val (.int p1)] [])) _
            refine XS.iloadN X0.here hx rfl (hb hby d2_30) rfl ?_
            show Steps p.tables e below (s₁.setTop (mkF m 31 #[.val (.int p1)] [(.int p1)])) _
            refine XS.bipush X0.here hx rfl (hb hby d2_31) ?_
            exact k
          by_cases hc33 : (122 : Int32) < p1
          · refine own_step (B := s₁.setTop (mkF m 39 #[.val (.int p1)] [(.int (46 : Int32)), (.int p1)])) (fun t k => ?_) ?_
            · show Steps p.tables e below (s₁.setTop (mkF m 33 #[.val (.int p1)] [(.int (122 : Int32)), (.int p1)])) _
              refine XS.icmpNo X0.here hx rfl (hb hby d2_33) rfl (tlt hc33).2.2.2 ?_
              show Steps p.tables e below (s₁.setTop (mkF m 36 #[.val (.int p1)] [])) _
              refine XS.iloadN X0.here hx rfl (hb hby d2_36) rfl ?_
              show Steps p.tables e below (s₁.setTop (mkF m 37 #[.val (.int p1)] [(.int p1)])) _
              refine XS.bipush X0.here hx rfl (hb hby d2_37) ?_
              exact k
            by_cases hc39 : p1 = (46 : Int32)
            · refine own_step (B := s₁.setTop (mkF m 59 #[.val (.int p1)] [(.int (1 : Int32))])) (fun t k => ?_) ?_
              · show Steps p.tables e below (s₁.setTop (mkF m 39 #[.val (.int p1)] [(.int (46 : Int32)), (.int p1)])) _
                refine XS.icmpYes X0.here hx rfl (pc0 := 39) (pc' := 54) rfl (hb hby d2_39) rfl (teq hc39).1 (by decide) (by decide) ?_
                show Steps p.tables e below (s₁.setTop (mkF m 54 #[.val (.int p1)] [])) _
                refine XS.iconst X0.here hx rfl (hb hby d2_54) ?_
                show Steps p.tables e below (s₁.setTop (mkF m 55 #[.val (.int p1)] [(.int (1 : Int32))])) _
                refine XS.goto X0.here hx rfl (pc0 := 55) (pc' := 59) rfl (hb hby d2_55) (by decide) (by decide) ?_
                exact k
              exact own_retN X0 hx Bd.notSynchronized (t := .boolean) Bd.returns (by simp) (hb hby d2_59) ⟨by show some (Value.int ((1 : Int32))) = _; simp [own_b, own_P, hc3, hc15, hc21, hc27, hc33, hc39], N0, e0⟩ (by decide) (by decide)
            · refine own_step (B := s₁.setTop (mkF m 45 #[.val (.int p1)] [(.int (95 : Int32)), (.int p1)])) (fun t k => ?_) ?_
              · show Steps p.tables e below (s₁.setTop (mkF m 39 #[.val (.int p1)] [(.int (46 : Int32)), (.int p1)])) _
                refine XS.icmpNo X0.here hx rfl (hb hby d2_39) rfl (feq hc39).1 ?_
                show Steps p.tables e below (s₁.setTop (mkF m 42 #[.val (.int p1)] [])) _
                refine XS.iloadN X0.here hx rfl (hb hby d2_42) rfl ?_
                show Steps p.tables e below (s₁.setTop (mkF m 43 #[.val (.int p1)] [(.int p1)])) _
                refine XS.bipush X0.here hx rfl (hb hby d2_43) ?_
                exact k
              by_cases hc45 : p1 = (95 : Int32)
              · refine own_step (B := s₁.setTop (mkF m 59 #[.val (.int p1)] [(.int (1 : Int32))])) (fun t k => ?_) ?_
                · show Steps p.tables e below (s₁.setTop (mkF m 45 #[.val (.int p1)] [(.int (95 : Int32)), (.int p1)])) _
                  refine XS.icmpYes X0.here hx rfl (pc0 := 45) (pc' := 54) rfl (hb hby d2_45) rfl (teq hc45).1 (by decide) (by decide) ?_
                  show Steps p.tables e below (s₁.setTop (mkF m 54 #[.val (.int p1)] [])) _
                  refine XS.iconst X0.here hx rfl (hb hby d2_54) ?_
                  show Steps p.tables e below (s₁.setTop (mkF m 55 #[.val (.int p1)] [(.int (1 : Int32))])) _
                  refine XS.goto X0.here hx rfl (pc0 := 55) (pc' := 59) rfl (hb hby d2_55) (by decide) (by decide) ?_
                  exact k
                exact own_retN X0 hx Bd.notSynchronized (t := .boolean) Bd.returns (by simp) (hb hby d2_59) ⟨by show some (Value.int ((1 : Int32))) = _; simp [own_b, own_P, hc3, hc15, hc21, hc27, hc33, hc39, hc45], N0, e0⟩ (by decide) (by decide)
              · refine own_step (B := s₁.setTop (mkF m 51 #[.val (.int p1)] [(.int (45 : Int32)), (.int p1)])) (fun t k => ?_) ?_
                · show Steps p.tables e below (s₁.setTop (mkF m 45 #[.val (.int p1)] [(.int (95 : Int32)), (.int p1)])) _
                  refine XS.icmpNo X0.here hx rfl (hb hby d2_45) rfl (feq hc45).1 ?_
                  show Steps p.tables e below (s₁.setTop (mkF m 48 #[.val (.int p1)] [])) _
                  refine XS.iloadN X0.here hx rfl (hb hby d2_48) rfl ?_
                  show Steps p.tables e below (s₁.setTop (mkF m 49 #[.val (.int p1)] [(.int p1)])) _
                  refine XS.bipush X0.here hx rfl (hb hby d2_49) ?_
                  exact k
                by_cases hc51 : p1 = (45 : Int32)
                · refine own_step (B := s₁.setTop (mkF m 59 #[.val (.int p1)] [(.int (1 : Int32))])) (fun t k => ?_) ?_
                  · show Steps p.tables e below (s₁.setTop (mkF m 51 #[.val (.int p1)] [(.int (45 : Int32)), (.int p1)])) _
                    refine XS.icmpNo X0.here hx rfl (hb hby d2_51) rfl (teq hc51).2 ?_
                    show Steps p.tables e below (s₁.setTop (mkF m 54 #[.val (.int p1)] [])) _
                    refine XS.iconst X0.here hx rfl (hb hby d2_54) ?_
                    show Steps p.tables e below (s₁.setTop (mkF m 55 #[.val (.int p1)] [(.int (1 : Int32))])) _
                    refine XS.goto X0.here hx rfl (pc0 := 55) (pc' := 59) rfl (hb hby d2_55) (by decide) (by decide) ?_
                    exact k
                  exact own_retN X0 hx Bd.notSynchronized (t := .boolean) Bd.returns (by simp) (hb hby d2_59) ⟨by show some (Value.int ((1 : Int32))) = _; simp [own_b, own_P, hc3, hc15, hc21, hc27, hc33, hc39, hc45, hc51], N0, e0⟩ (by decide) (by decide)
                · refine own_step (B := s₁.setTop (mkF m 59 #[.val (.int p1)] [(.int (0 : Int32))])) (fun t k => ?_) ?_
                  · show Steps p.tables e below (s₁.setTop (mkF m 51 #[.val (.int p1)] [(.int (45 : Int32)), (.int p1)])) _
                    refine XS.icmpYes X0.here hx rfl (pc0 := 51) (pc' := 58) rfl (hb hby d2_51) rfl (feq hc51).2 (by decide) (by decide) ?_
                    show Steps p.tables e below (s₁.setTop (mkF m 58 #[.val (.int p1)] [])) _
                    refine XS.iconst X0.here hx rfl (hb hby d2_58) ?_
                    exact k
                  exact own_retN X0 hx Bd.notSynchronized (t := .boolean) Bd.returns (by simp) (hb hby d2_59) ⟨by show some (Value.int ((0 : Int32))) = _; simp [own_b, own_P, hc3, hc15, hc21, hc27, hc33, hc39, hc45, hc51], N0, e0⟩ (by decide) (by decide)
          · refine own_step (B := s₁.setTop (mkF m 59 #[.val (.int p1)] [(.int (1 : Int32))])) (fun t k => ?_) ?_
            · show Steps p.tables e below (s₁.setTop (mkF m 33 #[.val (.int p1)] [(.int (122 : Int32)), (.int p1)])) _
              refine XS.icmpYes X0.here hx rfl (pc0 := 33) (pc' := 54) rfl (hb hby d2_33) rfl (flt hc33).2.2.2 (by decide) (by decide) ?_
              show Steps p.tables e below (s₁.setTop (mkF m 54 #[.val (.int p1)] [])) _
              refine XS.iconst X0.here hx rfl (hb hby d2_54) ?_
              show Steps p.tables e below (s₁.setTop (mkF m 55 #[.val (.int p1)] [(.int (1 : Int32))])) _
              refine XS.goto X0.here hx rfl (pc0 := 55) (pc' := 59) rfl (hb hby d2_55) (by decide) (by decide) ?_
              exact k
            exact own_retN X0 hx Bd.notSynchronized (t := .boolean) Bd.returns (by simp) (hb hby d2_59) ⟨by show some (Value.int ((1 : Int32))) = _; simp [own_b, own_P, hc3, hc15, hc21, hc27, hc33], N0, e0⟩ (by decide) (by decide)
      · refine own_step (B := s₁.setTop (mkF m 59 #[.val (.int p1)] [(.int (1 : Int32))])) (fun t k => ?_) ?_
        · show Steps p.tables e below (s₁.setTop (mkF m 21 #[.val (.int p1)] [(.int (90 : Int32)), (.int p1)])) _
          refine XS.icmpYes X0.here hx rfl (pc0 := 21) (pc' := 54) rfl (hb hby d2_21) rfl (flt hc21).2.2.2 (by decide) (by decide) ?_
          show Steps p.tables e below (s₁.setTop (mkF m 54 #[.val (.int p1)] [])) _
          refine XS.iconst X0.here hx rfl (hb hby d2_54) ?_
          show Steps p.tables e below (s₁.setTop (mkF m 55 #[.val (.int p1)] [(.int (1 : Int32))])) _
          refine XS.goto X0.here hx rfl (pc0 := 55) (pc' := 59) rfl (hb hby d2_55) (by decide) (by decide) ?_
          exact k
        exact own_retN X0 hx Bd.notSynchronized (t := .boolean) Bd.returns (by simp) (hb hby d2_59) ⟨by show some (Value.int ((1 : Int32))) = _; simp [own_b, own_P, hc3, hc15, hc21], N0, e0⟩ (by decide) (by decide)
  · refine own_step (B := s₁.setTop (mkF m 9 #[.val (.int p1)] [(.int (57 : Int32)), (.int p1)])) (fun t k => ?_) ?_
    · show Steps p.tables e below (s₁.setTop (mkF m 3 #[.val (.int p1)] [(.int (48 : Int32)), (.int p1)])) _
      refine XS.icmpNo X0.here hx rfl (hb hby d2_3) rfl (flt hc3).1 ?_
      show Steps p.tables e below (s₁.setTop (mkF m 6 #[.val (.int p1)] [])) _
      refine XS.iloadN X0.here hx rfl (hb hby d2_6) rfl ?_
      show Steps p.tables e below (s₁.setTop (mkF m 7 #[.val (.int p1)] [(.int p1)])) _
      refine XS.bipush X0.here hx rfl (hb hby d2_7) ?_
      exact k
    by_cases hc9 : (57 : Int32) < p1
    · refine own_step (B := s₁.setTop (mkF m 15 #[.val (.int p1)] [(.int (65 : Int32)), (.int p1)])) (fun t k => ?_) ?_
      · show Steps p.tables e below (s₁.setTop (mkF m 9 #[.val (.int p1)] [(.int (57 : Int32)), (.int p1)])) _
        refine XS.icmpNo X0.here hx rfl (hb hby d2_9) rfl (tlt hc9).2.2.2 ?_
        show Steps p.tables e below (s₁.setTop (mkF m 12 #[.val (.int p1)] [])) _
        refine XS.iloadN X0.here hx rfl (hb hby d2_12) rfl ?_
        show Steps p.tables e below (s₁.setTop (mkF m 13 #[.val (.int p1)] [(.int p1)])) _
        refine XS.bipush X0.here hx rfl (hb hby d2_13) ?_
        exact k
      by_cases hc15 : p1 < (65 : Int32)
      · refine own_step (B := s₁.setTop (mkF m 27 #[.val (.int p1)] [(.int (97 : Int32)), (.int p1)])) (fun t k => ?_) ?_
        · show Steps p.tables e below (s₁.setTop (mkF m 15 #[.val (.int p1)] [(.int (65 : Int32)), (.int p1)])) _
          refine XS.icmpYes X0.here hx rfl (pc0 := 15) (pc' := 24) rfl (hb hby d2_15) rfl (tlt hc15).1 (by decide) (by decide) ?_
          show Steps p.tables e below (s₁.setTop (mkF m 24 #[.val (.int p1)] [])) _
          refine XS.iloadN X0.here hx rfl (hb hby d2_24) rfl ?_
          show Steps p.tables e below (s₁.setTop (mkF m 25 #[.val (.int p1)] [(.int p1)])) _
          refine XS.bipush X0.here hx rfl (hb hby d2_25) ?_
          exact k
        by_cases hc27 : p1 < (97 : Int32)
        · refine own_step (B := s₁.setTop (mkF m 39 #[.val (.int p1)] [(.int (46 : Int32)), (.int p1)])) (fun t k => ?_) ?_
          · show Steps p.tables e below (s₁.setTop (mkF m 27 #[.val (.int p1)] [(.int (97 : Int32)), (.int p1)])) _
            refine XS.icmpYes X0.here hx rfl (pc0 := 27) (pc' := 36) rfl (hb hby d2_27) rfl (tlt hc27).1 (by decide) (by decide) ?_
            show Steps p.tables e below (s₁.setTop (mkF m 36 #[.val (.int p1)] [])) _
            refine XS.iloadN X0.here hx rfl (hb hby d2_36) rfl ?_
            show Steps p.tables e below (s₁.setTop (mkF m 37 #[.val (.int p1)] [(.int p1)])) _
            refine XS.bipush X0.here hx rfl (hb hby d2_37) ?_
            exact k
          by_cases hc39 : p1 = (46 : Int32)
          · refine own_step (B := s₁.setTop (mkF m 59 #[.val (.int p1)] [(.int (1 : Int32))])) (fun t k => ?_) ?_
            · show Steps p.tables e below (s₁.setTop (mkF m 39 #[.val (.int p1)] [(.int (46 : Int32)), (.int p1)])) _
              refine XS.icmpYes X0.here hx rfl (pc0 := 39) (pc' := 54) rfl (hb hby d2_39) rfl (teq hc39).1 (by decide) (by decide) ?_
              show Steps p.tables e below (s₁.setTop (mkF m 54 #[.val (.int p1)] [])) _
              refine XS.iconst X0.here hx rfl (hb hby d2_54) ?_
              show Steps p.tables e below (s₁.setTop (mkF m 55 #[.val (.int p1)] [(.int (1 : Int32))])) _
              refine XS.goto X0.here hx rfl (pc0 := 55) (pc' := 59) rfl (hb hby d2_55) (by decide) (by decide) ?_
              exact k
            exact own_retN X0 hx Bd.notSynchronized (t := .boolean) Bd.returns (by simp) (hb hby d2_59) ⟨by show some (Value.int ((1 : Int32))) = _; simp [own_b, own_P, hc3, hc9, hc15, hc27, hc39], N0, e0⟩ (by decide) (by decide)
          · refine own_step (B := s₁.setTop (mkF m 45 #[.val (.int p1)] [(.int (95 : Int32)), (.int p1)])) (fun t k => ?_) ?_
            · show Steps p.tables e below (s₁.setTop (mkF m 39 #[.val (.int p1)] [(.int (46 : Int32)), (.int p1)])) _
              refine XS.icmpNo X0.here hx rfl (hb hby d2_39) rfl (feq hc39).1 ?_
              show Steps p.tables e below (s₁.setTop (mkF m 42 #[.val (.int p1)] [])) _
              refine XS.iloadN X0.here hx rfl (hb hby d2_42) rfl ?_
              show Steps p.tables e below (s₁.setTop (mkF m 43 #[.val (.int p1)] [(.int p1)])) _
              refine XS.bipush X0.here hx rfl (hb hby d2_43) ?_
              exact k
            by_cases hc45 : p1 = (95 : Int32)
            · refine own_step (B := s₁.setTop (mkF m 59 #[.val (.int p1)] [(.int (1 : Int32))])) (fun t k => ?_) ?_
              · show Steps p.tables e below (s₁.setTop (mkF m 45 #[.val (.int p1)] [(.int (95 : Int32)), (.int p1)])) _
                refine XS.icmpYes X0.here hx rfl (pc0 := 45) (pc' := 54) rfl (hb hby d2_45) rfl (teq hc45).1 (by decide) (by decide) ?_
                show Steps p.tables e below (s₁.setTop (mkF m 54 #[.val (.int p1)] [])) _
                refine XS.iconst X0.here hx rfl (hb hby d2_54) ?_
                show Steps p.tables e below (s₁.setTop (mkF m 55 #[.val (.int p1)] [(.int (1 : Int32))])) _
                refine XS.goto X0.here hx rfl (pc0 := 55) (pc' := 59) rfl (hb hby d2_55) (by decide) (by decide) ?_
                exact k
              exact own_retN X0 hx Bd.notSynchronized (t := .boolean) Bd.returns (by simp) (hb hby d2_59) ⟨by show some (Value.int ((1 : Int32))) = _; simp [own_b, own_P, hc3, hc9, hc15, hc27, hc39, hc45], N0, e0⟩ (by decide) (by decide)
            · refine own_step (B := s₁.setTop (mkF m 51 #[.val (.int p1)] [(.int (45 : Int32)), (.int p1)])) (fun t k => ?_) ?_
              · show Steps p.tables e below (s₁.setTop (mkF m 45 #[.val (.int p1)] [(.int (95 : Int32)), (.int p1)])) _
                refine XS.icmpNo X0.here hx rfl (hb hby d2_45) rfl (feq hc45).1 ?_
                show Steps p.tables e below (s₁.setTop (mkF m 48 #[.val (.int p1)] [])) _
                refine XS.iloadN X0.here hx rfl (hb hby d2_48) rfl ?_
                show Steps p.tables e below (s₁.setTop (mkF m 49 #[.val (.int p1)] [(.int p1)])) _
                refine XS.bipush X0.here hx rfl (hb hby d2_49) ?_
                exact k
              by_cases hc51 : p1 = (45 : Int32)
              · refine own_step (B := s₁.setTop (mkF m 59 #[.val (.int p1)] [(.int (1 : Int32))])) (fun t k => ?_) ?_
                · show Steps p.tables e below (s₁.setTop (mkF m 51 #[.val (.int p1)] [(.int (45 : Int32)), (.int p1)])) _
                  refine XS.icmpNo X0.here hx rfl (hb hby d2_51) rfl (teq hc51).2 ?_
                  show Steps p.tables e below (s₁.setTop (mkF m 54 #[.val (.int p1)] [])) _
                  refine XS.iconst X0.here hx rfl (hb hby d2_54) ?_
                  show Steps p.tables e below (s₁.setTop (mkF m 55 #[.val (.int p1)] [(.int (1 : Int32))])) _
                  refine XS.goto X0.here hx rfl (pc0 := 55) (pc' := 59) rfl (hb hby d2_55) (by decide) (by decide) ?_
                  exact k
                exact own_retN X0 hx Bd.notSynchronized (t := .boolean) Bd.returns (by simp) (hb hby d2_59) ⟨by show some (Value.int ((1 : Int32))) = _; simp [own_b, own_P, hc3, hc9, hc15, hc27, hc39, hc45, hc51], N0, e0⟩ (by decide) (by decide)
              · refine own_step (B := s₁.setTop (mkF m 59 #[.val (.int p1)] [(.int (0 : Int32))])) (fun t k => ?_) ?_
                · show Steps p.tables e below (s₁.setTop (mkF m 51 #[.val (.int p1)] [(.int (45 : Int32)), (.int p1)])) _
                  refine XS.icmpYes X0.here hx rfl (pc0 := 51) (pc' := 58) rfl (hb hby d2_51) rfl (feq hc51).2 (by decide) (by decide) ?_
                  show Steps p.tables e below (s₁.setTop (mkF m 58 #[.val (.int p1)] [])) _
                  refine XS.iconst X0.here hx rfl (hb hby d2_58) ?_
                  exact k
                exact own_retN X0 hx Bd.notSynchronized (t := .boolean) Bd.returns (by simp) (hb hby d2_59) ⟨by show some (Value.int ((0 : Int32))) = _; simp [own_b, own_P, hc3, hc9, hc15, hc27, hc39, hc45, hc51], N0, e0⟩ (by decide) (by decide)
        · refine own_step (B := s₁.setTop (mkF m 33 #[.val (.int p1)] [(.int (122 : Int32)), (.int p1)])) (fun t k => ?_) ?_
          · show Steps p.tables e below (s₁.setTop (mkF m 27 #[.val (.int p1)] [(.int (97 : Int32)), (.int p1)])) _
            refine XS.icmpNo X0.here hx rfl (hb hby d2_27) rfl (flt hc27).1 ?_
            show Steps p.tables e below (s₁.setTop (mkF m 30 #[.val (.int p1)] [])) _
            refine XS.iloadN X0.here hx rfl (hb hby d2_30) rfl ?_
            show Steps p.tables e below (s₁.setTop (mkF m 31 #[.val (.int p1)] [(.int p1)])) _
            refine XS.bipush X0.here hx rfl (hb hby d2_31) ?_
            exact k
          by_cases hc33 : (122 : Int32) < p1
          · refine own_step (B := s₁.setTop (mkF m 39 #[.val (.int p1)] [(.int (46 : Int32)), (.int p1)])) (fun t k => ?_) ?_
            · show Steps p.tables e below (s₁.setTop (mkF m 33 #[.val (.int p1)] [(.int (122 : Int32)), (.int p1)])) _
              refine XS.icmpNo X0.here hx rfl (hb hby d2_33) rfl (tlt hc33).2.2.2 ?_
              show Steps p.tables e below (s₁.setTop (mkF m 36 #[.val (.int p1)] [])) _
              refine XS.iloadN X0.here hx rfl (hb hby d2_36) rfl ?_
              show Steps p.tables e below (s₁.setTop (mkF m 37 #[.val (.int p1)] [(.int p1)])) _
              refine XS.bipush X0.here hx rfl (hb hby d2_37) ?_
              exact k
            by_cases hc39 : p1 = (46 : Int32)
            · refine own_step (B := s₁.setTop (mkF m 59 #[.val (.int p1)] [(.int (1 : Int32))])) (fun t k => ?_) ?_
              · show Steps p.tables e below (s₁.setTop (mkF m 39 #[.val (.int p1)] [(.int (46 : Int32)), (.int p1)])) _
                refine XS.icmpYes X0.here hx rfl (pc0 := 39) (pc' := 54) rfl (hb hby d2_39) rfl (teq hc39).1 (by decide) (by decide) ?_
                show Steps p.tables e below (s₁.setTop (mkF m 54 #[.val (.int p1)] [])) _
                refine XS.iconst X0.here hx rfl (hb hby d2_54) ?_
                show Steps p.tables e below (s₁.setTop (mkF m 55 #[.val (.int p1)] [(.int (1 : Int32))])) _
                refine XS.goto X0.here hx rfl (pc0 := 55) (pc' := 59) rfl (hb hby d2_55) (by decide) (by decide) ?_
                exact k
              exact own_retN X0 hx Bd.notSynchronized (t := .boolean) Bd.returns (by simp) (hb hby d2_59) ⟨by show some (Value.int ((1 : Int32))) = _; simp [own_b, own_P, hc3, hc9, hc15, hc27, hc33, hc39], N0, e0⟩ (by decide) (by decide)
            · refine own_step (B := s₁.setTop (mkF m 45 #[.val (.int p1)] [(.int (95 : Int32)), (.int p1)])) (fun t k => ?_) ?_
              · show Steps p.tables e below (s₁.setTop (mkF m 39 #[.val (.int p1)] [(.int (46 : Int32)), (.int p1)])) _
                refine XS.icmpNo X0.here hx rfl (hb hby d2_39) rfl (feq hc39).1 ?_
                show Steps p.tables e below (s₁.setTop (mkF m 42 #[.val (.int p1)] [])) _
                refine XS.iloadN X0.here hx rfl (hb hby d2_42) rfl ?_
                show Steps p.tables e below (s₁.setTop (mkF m 43 #[.val (.int p1)] [(.int p1)])) _
                refine XS.bipush X0.here hx rfl (hb hby d2_43) ?_
                exact k
              by_cases hc45 : p1 = (95 : Int32)
              · refine own_step (B := s₁.setTop (mkF m 59 #[.val (.int p1)] [(.int (1 : Int32))])) (fun t k => ?_) ?_
                · show Steps p.tables e below (s₁.setTop (mkF m 45 #[.val (.int p1)] [(.int (95 : Int32)), (.int p1)])) _
                  refine XS.icmpYes X0.here hx rfl (pc0 := 45) (pc' := 54) rfl (hb hby d2_45) rfl (teq hc45).1 (by decide) (by decide) ?_
                  show Steps p.tables e below (s₁.setTop (mkF m 54 #[.val (.int p1)] [])) _
                  refine XS.iconst X0.here hx rfl (hb hby d2_54) ?_
                  show Steps p.tables e below (s₁.setTop (mkF m 55 #[.val (.int p1)] [(.int (1 : Int32))])) _
                  refine XS.goto X0.here hx rfl (pc0 := 55) (pc' := 59) rfl (hb hby d2_55) (by decide) (by decide) ?_
                  exact k
                exact own_retN X0 hx Bd.notSynchronized (t := .boolean) Bd.returns (by simp) (hb hby d2_59) ⟨by show some (Value.int ((1 : Int32))) = _; simp [own_b, own_P, hc3, hc9, hc15, hc27, hc33, hc39, hc45], N0, e0⟩ (by decide) (by decide)
              · refine own_step (B := s₁.setTop (mkF m 51 #[.val (.int p1)] [(.int (45 : Int32)), (.int p1)])) (fun t k => ?_) ?_
                · show Steps p.tables e below (s₁.setTop (mkF m 45 #[.val (.int p1)] [(.int (95 : Int32)), (.int p1)])) _
                  refine XS.icmpNo X0.here hx rfl (hb hby d2_45) rfl (feq hc45).1 ?_
                  show Steps p.tables e below (s₁.setTop (mkF m 48 #[.val (.int p1)] [])) _
                  refine XS.iloadN X0.here hx rfl (hb hby d2_48) rfl ?_
                  show Steps p.tables e below (s₁.setTop (mkF m 49 #[.val (.int p1)] [(.int p1)])) _
                  refine XS.bipush X0.here hx rfl (hb hby d2_49) ?_
                  exact k
                by_cases hc51 : p1 = (45 : Int32)
                · refine own_step (B := s₁.setTop (mkF m 59 #[.val (.int p1)] [(.int (1 : Int32))])) (fun t k => ?_) ?_
                  · show Steps p.tables e below (s₁.setTop (mkF m 51 #[.val (.int p1)] [(.int (45 : Int32)), (.int p1)])) _
                    refine XS.icmpNo X0.here hx rfl (hb hby d2_51) rfl (teq hc51).2 ?_
                    show Steps p.tables e below (s₁.setTop (mkF m 54 #[.val (.int p1)] [])) _
                    refine XS.iconst X0.here hx rfl (hb hby d2_54) ?_
                    show Steps p.tables e below (s₁.setTop (mkF m 55 #[.val (.int p1)] [(.int (1 : Int32))])) _
                    refine XS.goto X0.here hx rfl (pc0 := 55) (pc' := 59) rfl (hb hby d2_55) (by decide) (by decide) ?_
                    exact k
                  exact own_retN X0 hx Bd.notSynchronized (t := .boolean) Bd.returns (by simp) (hb hby d2_59) ⟨by show some (Value.int ((1 : Int32))) = _; simp [own_b, own_P, hc3, hc9, hc15, hc27, hc33, hc39, hc45, hc51], N0, e0⟩ (by decide) (by decide)
                · refine own_step (B := s₁.setTop (mkF m 59 #[.val (.int p1)] [(.int (0 : Int32))])) (fun t k => ?_) ?_
                  · show Steps p.tables e below (s₁.setTop (mkF m 51 #[.val (.int p1)] [(.int (45 : Int32)), (.int p1)])) _
                    refine XS.icmpYes X0.here hx rfl (pc0 := 51) (pc' := 58) rfl (hb hby d2_51) rfl (feq hc51).2 (by decide) (by decide) ?_
                    show Steps p.tables e below (s₁.setTop (mkF m 58 #[.val (.int p1)] [])) _
                    refine XS.iconst X0.here hx rfl (hb hby d2_58) ?_
                    exact k
                  exact own_retN X0 hx Bd.notSynchronized (t := .boolean) Bd.returns (by simp) (hb hby d2_59) ⟨by show some (Value.int ((0 : Int32))) = _; simp [own_b, own_P, hc3, hc9, hc15, hc27, hc33, hc39, hc45, hc51], N0, e0⟩ (by decide) (by decide)
          · refine own_step (B := s₁.setTop (mkF m 59 #[.val (.int p1)] [(.int (1 : Int32))])) (fun t k => ?_) ?_
            · show Steps p.tables e below (s₁.setTop (mkF m 33 #[.val (.int p1)] [(.int (122 : Int32)), (.int p1)])) _
              refine XS.icmpYes X0.here hx rfl (pc0 := 33) (pc' := 54) rfl (hb hby d2_33) rfl (flt hc33).2.2.2 (by decide) (by decide) ?_
              show Steps p.tables e below (s₁.setTop (mkF m 54 #[.val (.int p1)] [])) _
              refine XS.iconst X0.here hx rfl (hb hby d2_54) ?_
              show Steps p.tables e below (s₁.setTop (mkF m 55 #[.val (.int p1)] [(.int (1 : Int32))])) _
              refine XS.goto X0.here hx rfl (pc0 := 55) (pc' := 59) rfl (hb hby d2_55) (by decide) (by decide) ?_
              exact k
            exact own_retN X0 hx Bd.notSynchronized (t := .boolean) Bd.returns (by simp) (hb hby d2_59) ⟨by show some (Value.int ((1 : Int32))) = _; simp [own_b, own_P, hc3, hc9, hc15, hc27, hc33], N0, e0⟩ (by decide) (by decide)
      · refine own_step (B := s₁.setTop (mkF m 21 #[.val (.int p1)] [(.int (90 : Int32)), (.int p1)])) (fun t k => ?_) ?_
        · show Steps p.tables e below (s₁.setTop (mkF m 15 #[.val (.int p1)] [(.int (65 : Int32)), (.int p1)])) _
          refine XS.icmpNo X0.here hx rfl (hb hby d2_15) rfl (flt hc15).1 ?_
          show Steps p.tables e below (s₁.setTop (mkF m 18 #[.val (.int p1)] [])) _
          refine XS.iloadN X0.here hx rfl (hb hby d2_18) rfl ?_
          show Steps p.tables e below (s₁.setTop (mkF m 19 #[.val (.int p1)] [(.int p1)])) _
          refine XS.bipush X0.here hx rfl (hb hby d2_19) ?_
          exact k
        by_cases hc21 : (90 : Int32) < p1
        · refine own_step (B := s₁.setTop (mkF m 27 #[.val (.int p1)] [(.int (97 : Int32)), (.int p1)])) (fun t k => ?_) ?_
          · show Steps p.tables e below (s₁.setTop (mkF m 21 #[.val (.int p1)] [(.int (90 : Int32)), (.int p1)])) _
            refine XS.icmpNo X0.here hx rfl (hb hby d2_21) rfl (tlt hc21).2.2.2 ?_
            show Steps p.tables e below (s₁.setTop (mkF m 24 #[.val (.int p1)] [])) _
            refine XS.iloadN X0.here hx rfl (hb hby d2_24) rfl ?_
            show Steps p.tables e below (s₁.setTop (mkF m 25 #[.val (.int p1)] [(.int p1)])) _
            refine XS.bipush X0.here hx rfl (hb hby d2_25) ?_
            exact k
          by_cases hc27 : p1 < (97 : Int32)
          · refine own_step (B := s₁.setTop (mkF m 39 #[.val (.int p1)] [(.int (46 : Int32)), (.int p1)])) (fun t k => ?_) ?_
            · show Steps p.tables e below (s₁.setTop (mkF m 27 #[.val (.int p1)] [(.int (97 : Int32)), (.int p1)])) _
              refine XS.icmpYes X0.here hx rfl (pc0 := 27) (pc' := 36) rfl (hb hby d2_27) rfl (tlt hc27).1 (by decide) (by decide) ?_
              show Steps p.tables e below (s₁.setTop (mkF m 36 #[.val (.int p1)] [])) _
              refine XS.iloadN X0.here hx rfl (hb hby d2_36) rfl ?_
              show Steps p.tables e below (s₁.setTop (mkF m 37 #[.val (.int p1)] [(.int p1)])) _
              refine XS.bipush X0.here hx rfl (hb hby d2_37) ?_
              exact k
            by_cases hc39 : p1 = (46 : Int32)
            · refine own_step (B := s₁.setTop (mkF m 59 #[.val (.int p1)] [(.int (1 : Int32))])) (fun t k => ?_) ?_
              · show Steps p.tables e below (s₁.setTop (mkF m 39 #[.val (.int p1)] [(.int (46 : Int32)), (.int p1)])) _
                refine XS.icmpYes X0.here hx rfl (pc0 := 39) (pc' := 54) rfl (hb hby d2_39) rfl (teq hc39).1 (by decide) (by decide) ?_
                show Steps p.tables e below (s₁.setTop (mkF m 54 #[.val (.int p1)] [])) _
                refine XS.iconst X0.here hx rfl (hb hby d2_54) ?_
                show Steps p.tables e below (s₁.setTop (mkF m 55 #[.val (.int p1)] [(.int (1 : Int32))])) _
                refine XS.goto X0.here hx rfl (pc0 := 55) (pc' := 59) rfl (hb hby d2_55) (by decide) (by decide) ?_
                exact k
              exact own_retN X0 hx Bd.notSynchronized (t := .boolean) Bd.returns (by simp) (hb hby d2_59) ⟨by show some (Value.int ((1 : Int32))) = _; simp [own_b, own_P, hc3, hc9, hc15, hc21, hc27, hc39], N0, e0⟩ (by decide) (by decide)
            · refine own_step (B := s₁.setTop (mkF m 45 #[.val (.int p1)] [(.int (95 : Int32)), (.int p1)])) (fun t k => ?_) ?_
              · show Steps p.tables e below (s₁.setTop (mkF m 39 #[.val (.int p1)] [(.int (46 : Int32)), (.int p1)])) _
                refine XS.icmpNo X0.here hx rfl (hb hby d2_39) rfl (feq hc39).1 ?_
                show Steps p.tables e below (s₁.setTop (mkF m 42 #[.val (.int p1)] [])) _
                refine XS.iloadN X0.here hx rfl (hb hby d2_42) rfl ?_
                show Steps p.tables e below (s₁.setTop (mkF m 43 #[.val (.int p1)] [(.int p1)])) _
                refine XS.bipush X0.here hx rfl (hb hby d2_43) ?_
                exact k
              by_cases hc45 : p1 = (95 : Int32)
              · refine own_step (B := s₁.setTop (mkF m 59 #[.val (.int p1)] [(.int (1 : Int32))])) (fun t k => ?_) ?_
                · show Steps p.tables e below (s₁.setTop (mkF m 45 #[.val (.int p1)] [(.int (95 : Int32)), (.int p1)])) _
                  refine XS.icmpYes X0.here hx rfl (pc0 := 45) (pc' := 54) rfl (hb hby d2_45) rfl (teq hc45).1 (by decide) (by decide) ?_
                  show Steps p.tables e below (s₁.setTop (mkF m 54 #[.val (.int p1)] [])) _
                  refine XS.iconst X0.here hx rfl (hb hby d2_54) ?_
                  show Steps p.tables e below (s₁.setTop (mkF m 55 #[.val (.int p1)] [(.int (1 : Int32))])) _
                  refine XS.goto X0.here hx rfl (pc0 := 55) (pc' := 59) rfl (hb hby d2_55) (by decide) (by decide) ?_
                  exact k
                exact own_retN X0 hx Bd.notSynchronized (t := .boolean) Bd.returns (by simp) (hb hby d2_59) ⟨by show some (Value.int ((1 : Int32))) = _; simp [own_b, own_P, hc3, hc9, hc15, hc21, hc27, hc39, hc45], N0, e0⟩ (by decide) (by decide)
              · refine own_step (B := s₁.setTop (mkF m 51 #[.val (.int p1)] [(.int (45 : Int32)), (.int p1)])) (fun t k => ?_) ?_
                · show Steps p.tables e below (s₁.setTop (mkF m 45 #[.val (.int p1)] [(.int (95 : Int32)), (.int p1)])) _
                  refine XS.icmpNo X0.here hx rfl (hb hby d2_45) rfl (feq hc45).1 ?_
                  show Steps p.tables e below (s₁.setTop (mkF m 48 #[.val (.int p1)] [])) _
                  refine XS.iloadN X0.here hx rfl (hb hby d2_48) rfl ?_
                  show Steps p.tables e below (s₁.setTop (mkF m 49 #[.val (.int p1)] [(.int p1)])) _
                  refine XS.bipush X0.here hx rfl (hb hby d2_49) ?_
                  exact k
                by_cases hc51 : p1 = (45 : Int32)
                · refine own_step (B := s₁.setTop (mkF m 59 #[.val (.int p1)] [(.int (1 : Int32))])) (fun t k => ?_) ?_
                  · show Steps p.tables e below (s₁.setTop (mkF m 51 #[.val (.int p1)] [(.int (45 : Int32)), (.int p1)])) _
                    refine XS.icmpNo X0.here hx rfl (hb hby d2_51) rfl (teq hc51).2 ?_
                    show Steps p.tables e below (s₁.setTop (mkF m 54 #[.val (.int p1)] [])) _
                    refine XS.iconst X0.here hx rfl (hb hby d2_54) ?_
                    show Steps p.tables e below (s₁.setTop (mkF m 55 #[.val (.int p1)] [(.int (1 : Int32))])) _
                    refine XS.goto X0.here hx rfl (pc0 := 55) (pc' := 59) rfl (hb hby d2_55) (by decide) (by decide) ?_
                    exact k
                  exact own_retN X0 hx Bd.notSynchronized (t := .boolean) Bd.returns (by simp) (hb hby d2_59) ⟨by show some (Value.int ((1 : Int32))) = _; simp [own_b, own_P, hc3, hc9, hc15, hc21, hc27, hc39, hc45, hc51], N0, e0⟩ (by decide) (by decide)
                · refine own_step (B := s₁.setTop (mkF m 59 #[.val (.int p1)] [(.int (0 : Int32))])) (fun t k => ?_) ?_
                  · show Steps p.tables e below (s₁.setTop (mkF m 51 #[.val (.int p1)] [(.int (45 : Int32)), (.int p1)])) _
                    refine XS.icmpYes X0.here hx rfl (pc0 := 51) (pc' := 58) rfl (hb hby d2_51) rfl (feq hc51).2 (by decide) (by decide) ?_
                    show Steps p.tables e below (s₁.setTop (mkF m 58 #[.val (.int p1)] [])) _
                    refine XS.iconst X0.here hx rfl (hb hby d2_58) ?_
                    exact k
                  exact own_retN X0 hx Bd.notSynchronized (t := .boolean) Bd.returns (by simp) (hb hby d2_59) ⟨by show some (Value.int ((0 : Int32))) = _; simp [own_b, own_P, hc3, hc9, hc15, hc21, hc27, hc39, hc45, hc51], N0, e0⟩ (by decide) (by decide)
          · refine own_step (B := s₁.setTop (mkF m 33 #[.val (.int p1)] [(.int (122 : Int32)), (.int p1)])) (fun t k => ?_) ?_
            · show Steps p.tables e below (s₁.setTop (mkF m 27 #[.val (.int p1)] [(.int (97 : Int32)), (.int p1)])) _
              refine XS.icmpNo X0.here hx rfl (hb hby d2_27) rfl (flt hc27).1 ?_
              show Steps p.tables e below (s₁.setTop (mkF m 30 #[.val (.int p1)] [])) _
              refine XS.iloadN X0.here hx rfl (hb hby d2_30) rfl ?_
              show Steps p.tables e below (s₁.setTop (mkF m 31 #[.val (.int p1)] [(.int p1)])) _
              refine XS.bipush X0.here hx rfl (hb hby d2_31) ?_
              exact k
            by_cases hc33 : (122 : Int32) < p1
            · refine own_step (B := s₁.setTop (mkF m 39 #[.val (.int p1)] [(.int (46 : Int32)), (.int p1)])) (fun t k => ?_) ?_
              · show Steps p.tables e below (s₁.setTop (mkF m 33 #[.val (.int p1)] [(.int (122 : Int32)), (.int p1)])) _
                refine XS.icmpNo X0.here hx rfl (hb hby d2_33) rfl (tlt hc33).2.2.2 ?_
                show Steps p.tables e below (s₁.setTop (mkF m 36 #[.val (.int p1)] [])) _
                refine XS.iloadN X0.here hx rfl (hb hby d2_36) rfl ?_
                show Steps p.tables e below (s₁.setTop (mkF m 37 #[.val (.int p1)] [(.int p1)])) _
                refine XS.bipush X0.here hx rfl (hb hby d2_37) ?_
                exact k
              by_cases hc39 : p1 = (46 : Int32)
              · refine own_step (B := s₁.setTop (mkF m 59 #[.val (.int p1)] [(.int (1 : Int32))])) (fun t k => ?_) ?_
                · show Steps p.tables e below (s₁.setTop (mkF m 39 #[.val (.int p1)] [(.int (46 : Int32)), (.int p1)])) _
                  refine XS.icmpYes X0.here hx rfl (pc0 := 39) (pc' := 54) rfl (hb hby d2_39) rfl (teq hc39).1 (by decide) (by decide) ?_
                  show Steps p.tables e below (s₁.setTop (mkF m 54 #[.val (.int p1)] [])) _
                  refine XS.iconst X0.here hx rfl (hb hby d2_54) ?_
                  show Steps p.tables e below (s₁.setTop (mkF m 55 #[.val (.int p1)] [(.int (1 : Int32))])) _
                  refine XS.goto X0.here hx rfl (pc0 := 55) (pc' := 59) rfl (hb hby d2_55) (by decide) (by decide) ?_
                  exact k
                exact own_retN X0 hx Bd.notSynchronized (t := .boolean) Bd.returns (by simp) (hb hby d2_59) ⟨by show some (Value.int ((1 : Int32))) = _; simp [own_b, own_P, hc3, hc9, hc15, hc21, hc27, hc33, hc39], N0, e0⟩ (by decide) (by decide)
              · refine own_step (B := s₁.setTop (mkF m 45 #[.val (.int p1)] [(.int (95 : Int32)), (.int p1)])) (fun t k => ?_) ?_
                · show Steps p.tables e below (s₁.setTop (mkF m 39 #[.val (.int p1)] [(.int (46 : Int32)), (.int p1)])) _
                  refine XS.icmpNo X0.here hx rfl (hb hby d2_39) rfl (feq hc39).1 ?_
                  show Steps p.tables e below (s₁.setTop (mkF m 42 #[.val (.int p1)] [])) _
                  refine XS.iloadN X0.here hx rfl (hb hby d2_42) rfl ?_
                  show Steps p.tables e below (s₁.setTop (mkF m 43 #[.val (.int p1)] [(.int p1)])) _
                  refine XS.bipush X0.here hx rfl (hb hby d2_43) ?_
                  exact k
                by_cases hc45 : p1 = (95 : Int32)
                · refine own_step (B := s₁.setTop (mkF m 59 #[.val (.int p1)] [(.int (1 : Int32))])) (fun t k => ?_) ?_
                  · show Steps p.tables e below (s₁.setTop (mkF m 45 #[.val (.int p1)] [(.int (95 : Int32)), (.int p1)])) _
                    refine XS.icmpYes X0.here hx rfl (pc0 := 45) (pc' := 54) rfl (hb hby d2_45) rfl (teq hc45).1 (by decide) (by decide) ?_
                    show Steps p.tables e below (s₁.setTop (mkF m 54 #[.val (.int p1)] [])) _
                    refine XS.iconst X0.here hx rfl (hb hby d2_54) ?_
                    show Steps p.tables e below (s₁.setTop (mkF m 55 #[.val (.int p1)] [(.int (1 : Int32))])) _
                    refine XS.goto X0.here hx rfl (pc0 := 55) (pc' := 59) rfl (hb hby d2_55) (by decide) (by decide) ?_
                    exact k
                  exact own_retN X0 hx Bd.notSynchronized (t := .boolean) Bd.returns (by simp) (hb hby d2_59) ⟨by show some (Value.int ((1 : Int32))) = _; simp [own_b, own_P, hc3, hc9, hc15, hc21, hc27, hc33, hc39, hc45], N0, e0⟩ (by decide) (by decide)
                · refine own_step (B := s₁.setTop (mkF m 51 #[.val (.int p1)] [(.int (45 : Int32)), (.int p1)])) (fun t k => ?_) ?_
                  · show Steps p.tables e below (s₁.setTop (mkF m 45 #[.val (.int p1)] [(.int (95 : Int32)), (.int p1)])) _
                    refine XS.icmpNo X0.here hx rfl (hb hby d2_45) rfl (feq hc45).1 ?_
                    show Steps p.tables e below (s₁.setTop (mkF m 48 #[.val (.int p1)] [])) _
                    refine XS.iloadN X0.here hx rfl (hb hby d2_48) rfl ?_
                    show Steps p.tables e below (s₁.setTop (mkF m 49 #[.val (.int p1)] [(.int p1)])) _
                    refine XS.bipush X0.here hx rfl (hb hby d2_49) ?_
                    exact k
                  by_cases hc51 : p1 = (45 : Int32)
                  · refine own_step (B := s₁.setTop (mkF m 59 #[.val (.int p1)] [(.int (1 : Int32))])) (fun t k => ?_) ?_
                    · show Steps p.tables e below (s₁.setTop (mkF m 51 #[.val (.int p1)] [(.int (45 : Int32)), (.int p1)])) _
                      refine XS.icmpNo X0.here hx rfl (hb hby d2_51) rfl (teq hc51).2 ?_
                      show Steps p.tables e below (s₁.setTop (mkF m 54 #[.val (.int p1)] [])) _
                      refine XS.iconst X0.here hx rfl (hb hby d2_54) ?_
                      show Steps p.tables e below (s₁.setTop (mkF m 55 #[.val (.int p1)] [(.int (1 : Int32))])) _
                      refine XS.goto X0.here hx rfl (pc0 := 55) (pc' := 59) rfl (hb hby d2_55) (by decide) (by decide) ?_
                      exact k
                    exact own_retN X0 hx Bd.notSynchronized (t := .boolean) Bd.returns (by simp) (hb hby d2_59) ⟨by show some (Value.int ((1 : Int32))) = _; simp [own_b, own_P, hc3, hc9, hc15, hc21, hc27, hc33, hc39, hc45, hc51], N0, e0⟩ (by decide) (by decide)
                  · refine own_step (B := s₁.setTop (mkF m 59 #[.val (.int p1)] [(.int (0 : Int32))])) (fun t k => ?_) ?_
                    · show Steps p.tables e below (s₁.setTop (mkF m 51 #[.val (.int p1)] [(.int (45 : Int32)), (.int p1)])) _
                      refine XS.icmpYes X0.here hx rfl (pc0 := 51) (pc' := 58) rfl (hb hby d2_51) rfl (feq hc51).2 (by decide) (by decide) ?_
                      show Steps p.tables e below (s₁.setTop (mkF m 58 #[.val (.int p1)] [])) _
                      refine XS.iconst X0.here hx rfl (hb hby d2_58) ?_
                      exact k
                    exact own_retN X0 hx Bd.notSynchronized (t := .boolean) Bd.returns (by simp) (hb hby d2_59) ⟨by show some (Value.int ((0 : Int32))) = _; simp [own_b, own_P, hc3, hc9, hc15, hc21, hc27, hc33, hc39, hc45, hc51], N0, e0⟩ (by decide) (by decide)
            · refine own_step (B := s₁.setTop (mkF m 59 #[.val (.int p1)] [(.int (1 : Int32))])) (fun t k => ?_) ?_
              · show Steps p.tables e below (s₁.setTop (mkF m 33 #[.val (.int p1)] [(.int (122 : Int32)), (.int p1)])) _
                refine XS.icmpYes X0.here hx rfl (pc0 := 33) (pc' := 54) rfl (hb hby d2_33) rfl (flt hc33).2.2.2 (by decide) (by decide) ?_
                show Steps p.tables e below (s₁.setTop (mkF m 54 #[.val (.int p1)] [])) _
                refine XS.iconst X0.here hx rfl (hb hby d2_54) ?_
                show Steps p.tables e below (s₁.setTop (mkF m 55 #[.val (.int p1)] [(.int (1 : Int32))])) _
                refine XS.goto X0.here hx rfl (pc0 := 55) (pc' := 59) rfl (hb hby d2_55) (by decide) (by decide) ?_
                exact k
              exact own_retN X0 hx Bd.notSynchronized (t := .boolean) Bd.returns (by simp) (hb hby d2_59) ⟨by show some (Value.int ((1 : Int32))) = _; simp [own_b, own_P, hc3, hc9, hc15, hc21, hc27, hc33], N0, e0⟩ (by decide) (by decide)
        · refine own_step (B := s₁.setTop (mkF m 59 #[.val (.int p1)] [(.int (1 : Int32))])) (fun t k => ?_) ?_
          · show Steps p.tables e below (s₁.setTop (mkF m 21 #[.val (.int p1)] [(.int (90 : Int32)), (.int p1)])) _
            refine XS.icmpYes X0.here hx rfl (pc0 := 21) (pc' := 54) rfl (hb hby d2_21) rfl (flt hc21).2.2.2 (by decide) (by decide) ?_
            show Steps p.tables e below (s₁.setTop (mkF m 54 #[.val (.int p1)] [])) _
            refine XS.iconst X0.here hx rfl (hb hby d2_54) ?_
            show Steps p.tables e below (s₁.setTop (mkF m 55 #[.val (.int p1)] [(.int (1 : Int32))])) _
            refine XS.goto X0.here hx rfl (pc0 := 55) (pc' := 59) rfl (hb hby d2_55) (by decide) (by decide) ?_
            exact k
          exact own_retN X0 hx Bd.notSynchronized (t := .boolean) Bd.returns (by simp) (hb hby d2_59) ⟨by show some (Value.int ((1 : Int32))) = _; simp [own_b, own_P, hc3, hc9, hc15, hc21], N0, e0⟩ (by decide) (by decide)
    · refine own_step (B := s₁.setTop (mkF m 59 #[.val (.int p1)] [(.int (1 : Int32))])) (fun t k => ?_) ?_
      · show Steps p.tables e below (s₁.setTop (mkF m 9 #[.val (.int p1)] [(.int (57 : Int32)), (.int p1)])) _
        refine XS.icmpYes X0.here hx rfl (pc0 := 9) (pc' := 54) rfl (hb hby d2_9) rfl (flt hc9).2.2.2 (by decide) (by decide) ?_
        show Steps p.tables e below (s₁.setTop (mkF m 54 #[.val (.int p1)] [])) _
        refine XS.iconst X0.here hx rfl (hb hby d2_54) ?_
        show Steps p.tables e below (s₁.setTop (mkF m 55 #[.val (.int p1)] [(.int (1 : Int32))])) _
        refine XS.goto X0.here hx rfl (pc0 := 55) (pc' := 59) rfl (hb hby d2_55) (by decide) (by decide) ?_
        exact k
      exact own_retN X0 hx Bd.notSynchronized (t := .boolean) Bd.returns (by simp) (hb hby d2_59) ⟨by show some (Value.int ((1 : Int32))) = _; simp [own_b, own_P, hc3, hc9], N0, e0⟩ (by decide) (by decide)
theorem d1_0 : decode method_3_code 0 = .ok (.iload_n 1, 1) := by decide +kernel
theorem d1_1 : decode method_3_code 1 = .ok (.iload_n 2, 1) := by decide +kernel
theorem d1_2 : decode method_3_code 2 = .ok (.if_icmp .lt 17, 3) := by decide +kernel
theorem d1_5 : decode method_3_code 5 = .ok (.iload_n 1, 1) := by decide +kernel
theorem d1_6 : decode method_3_code 6 = .ok (.iload_n 3, 1) := by decide +kernel
theorem d1_7 : decode method_3_code 7 = .ok (.if_icmp .ge 12, 3) := by decide +kernel
theorem d1_10 : decode method_3_code 10 = .ok (.aload_n 0, 1) := by decide +kernel
theorem d1_11 : decode method_3_code 11 = .ok (.iload_n 1, 1) := by decide +kernel
theorem d1_12 : decode method_3_code 12 = .ok (.caload, 1) := by decide +kernel
theorem d1_13 : decode method_3_code 13 = .ok (.invokestatic 7, 3) := by decide +kernel
theorem d1_16 : decode method_3_code 16 = .ok (.ifCond .eq 7, 3) := by decide +kernel
theorem d1_19 : decode method_3_code 19 = .ok (.iconst 1, 1) := by decide +kernel
theorem d1_20 : decode method_3_code 20 = .ok (.goto 4, 3) := by decide +kernel
theorem d1_23 : decode method_3_code 23 = .ok (.iconst 0, 1) := by decide +kernel
theorem d1_24 : decode method_3_code 24 = .ok (.ireturn, 1) := by decide +kernel
theorem pd_1 : parseMethodDescriptor "(C)Z" = some ⟨[.char], some .boolean⟩ := by decide +kernel
theorem ef_1 (m : MethodId) (a1 : Addr) (p2 : Int32) (p3 : Int32) (p4 : Int32) : entryFrame m #[(.ref a1), (.int p2), (.int p3), (.int p4)] 4 = mkF m 0 #[.val (.ref a1), .val (.int p2), .val (.int p3), .val (.int p4)] [] := by first | (simp [entryFrame, mkF, argsToLocals, Value.category]; done) | rfl
def Q1 (Z : State) (a1 : Addr) (p2 : Int32) (p3 : Int32) (p4 : Int32) (cl : Cell) (x : Int32) (h0 : Heap) (n0 : Nat) (v : Option Value) (h : Heap) (L : List Loc) : Prop := v = some (.int (own_b (p2 < p3 ∨ ¬ p2 < p4 ∨ own_P x))) ∧ Fr n0 L ∧ h = h0
set_option maxRecDepth 65536 in
set_option maxHeartbeats 40000000 in
theorem rm1 (l : Launch) (Z : State) (a0 : Array Value) (hw : ∀ d ∈ tables_1, d.before a0 Z = true) (ws : List Jvm.Cond) (a1 : Addr) (p2 : Int32) (p3 : Int32) (p4 : Int32) (cl : Cell) (x : Int32) (h0 : Heap) (n0 : Nat) (Z0 : n0 ≤ h0.size) (Ar : Arr Z h0 a1 cl .char) (hin : ¬ (p2 < 0 ∨ cl.slots.size ≤ (p2).toNatClampNeg)) (hat : cl.slots[(p2).toNatClampNeg]? = some (.int x)) :
    MetFree l (⟨"tidemark/CheckpointIsPlainNamePinLaw", "okAt", "([CIII)Z"⟩ : MethodName) (head1 (Jvm.Cond.code (⟨"tidemark/CheckpointIsPlainNamePinLaw", "okAt", "([CIII)Z"⟩ : MethodName) method_3_code 4 (some .boolean) :: ws) ({ frames := 1, cells := 0, slots := 0, locals := 12 } : Room)) (fun a U => a = #[(.ref a1), (.int p2), (.int p3), (.int p4)] ∧ Z.Warmed39 U.vm ∧ U.heap = h0) (fun _ _ _ _ _ => True) (fun _ U o U' => ∃ v L, o = .returned v ∧ Q1 Z a1 p2 p3 p4 cl x h0 n0 v U'.heap L ∧ FrameEnd U o U' L ({ frames := 1, cells := 0, slots := 0, locals := 12 } : Room).cells ({ frames := 1, cells := 0, slots := 0, locals := 12 } : Room).slots) := by
  refine MetFree.of_bodySF (plainFor_of_name pn_0) hisR ?_
  intro p e s m args below meth c s₁ Bd hml0 hP hK
  obtain ⟨rfl, hZ, hh⟩ := hP
  have hx := Bd.exec
  have hby := Bd.bytes
  have hml : c.maxLocals = 4 := hml0
  have hown : s.vm.findClass "tidemark/CheckpointIsPlainNamePinLaw" = some m.cls := findClass_of_methodNamed Bd.named
  have hnm := (name_of_methodNamed Bd.named Bd.method).1
  have X0 : Stand p l e ({ frames := 1, cells := 0, slots := 0, locals := 12 } : Room) s m #[(.ref a1), (.int p2), (.int p3), (.int p4)] below meth c s₁ [] 0 0 := Stand.of_body Bd
  have e0 : s₁.heap = h0 := by rw [← hh, Bd.state]; rfl
  have N0 := Fr.nil n0
  skip
  show own_Go p e below s (Q1 Z a1 p2 p3 p4 cl x h0 n0) ({ frames := 1, cells := 0, slots := 0, locals := 12 } : Room).cells ({ frames := 1, cells := 0, slots := 0, locals := 12 } : Room).slots _
  refine own_step (B := s₁.setTop (mkF m 0 #[.val (.ref a1), .val (.int p2), .val (.int p3), .val (.int p4)] [])) (fun t k => castTop (ef_1 m a1 p2 p3 p4) k) ?_
  refine own_step (B := s₁.setTop (mkF m 2 #[.val (.ref a1), .val (.int p2), .val (.int p3), .val (.int p4)] [(.int p3), (.int p2)])) (fun t k => ?_) ?_
  · show Steps p.tables e below (s₁.setTop (mkF m 0 #[.val (.ref a1), .val (.int p2), .val (.int p3), .val (.int p4)] [])) _
    refine XS.iloadN X0.here hx rfl (hb hby d1_0) rfl ?_
    show Steps p.tables e below (s₁.setTop (mkF m 1 #[.val (.ref a1), .val (.int p2), .val (.int p3), .val (.int p4)] [(.int p2)])) _
    refine XS.iloadN X0.here hx rfl (hb hby d1_1) rfl ?_
    exact k
  by_cases hc2 : p2 < p3
  · refine own_step (B := s₁.setTop (mkF m 24 #[.val (.ref a1), .val (.int p2), .val (.int p3), .val (.int p4)] [(.int (1 : Int32))])) (fun t k => ?_) ?_
    · show Steps p.tables e below (s₁.setTop (mkF m 2 #[.val (.ref a1), .val (.int p2), .val (.int p3), .val (.int p4)] [(.int p3), (.int p2)])) _
      refine XS.icmpYes X0.here hx rfl (pc0 := 2) (pc' := 19) rfl (hb hby d1_2) rfl (tlt hc2).1 (by decide) (by decide) ?_
      show Steps p.tables e below (s₁.setTop (mkF m 19 #[.val (.ref a1), .val (.int p2), .val (.int p3), .val (.int p4)] [])) _
      refine XS.iconst X0.here hx rfl (hb hby d1_19) ?_
      show Steps p.tables e below (s₁.setTop (mkF m 20 #[.val (.ref a1), .val (.int p2), .val (.int p3), .val (.int p4)] [(.int (1 : Int32))])) _
      refine XS.goto X0.here hx rfl (pc0 := 20) (pc' := 24) rfl (hb hby d1_20) (by decide) (by decide) ?_
      exact k
    exact own_retN X0 hx Bd.notSynchronized (t := .boolean) Bd.returns (by simp) (hb hby d1_24) ⟨by show some (Value.int ((1 : Int32))) = _; simp only [own_b0] at *; simp [own_b, hc2], N0, e0⟩ (by decide) (by decide)
  · refine own_step (B := s₁.setTop (mkF m 7 #[.val (.ref a1), .val (.int p2), .val (.int p3), .val (.int p4)] [(.int p4), (.int p2)])) (fun t k => ?_) ?_
    · show Steps p.tables e below (s₁.setTop (mkF m 2 #[.val (.ref a1), .val (.int p2), .val (.int p3), .val (.int p4)] [(.int p3), (.int p2)])) _
      refine XS.icmpNo X0.here hx rfl (hb hby d1_2) rfl (flt hc2).1 ?_
      show Steps p.tables e below (s₁.setTop (mkF m 5 #[.val (.ref a1), .val (.int p2), .val (.int p3), .val (.int p4)] [])) _
      refine XS.iloadN X0.here hx rfl (hb hby d1_5) rfl ?_
      show Steps p.tables e below (s₁.setTop (mkF m 6 #[.val (.ref a1), .val (.int p2), .val (.int p3), .val (.int p4)] [(.int p2)])) _
      refine XS.iloadN X0.here hx rfl (hb hby d1_6) rfl ?_
      exact k
    by_cases hc7 : p2 < p4
    · refine own_step (B := s₁.setTop (mkF m 13 #[.val (.ref a1), .val (.int p2), .val (.int p3), .val (.int p4)] [(.int x)])) (fun t k => ?_) ?_
      · show Steps p.tables e below (s₁.setTop (mkF m 7 #[.val (.ref a1), .val (.int p2), .val (.int p3), .val (.int p4)] [(.int p4), (.int p2)])) _
        refine XS.icmpNo X0.here hx rfl (hb hby d1_7) rfl (tlt hc7).2.1 ?_
        show Steps p.tables e below (s₁.setTop (mkF m 10 #[.val (.ref a1), .val (.int p2), .val (.int p3), .val (.int p4)] [])) _
        refine XS.aloadN X0.here hx rfl (hb hby d1_10) rfl rfl ?_
        show Steps p.tables e below (s₁.setTop (mkF m 11 #[.val (.ref a1), .val (.int p2), .val (.int p3), .val (.int p4)] [(.ref a1)])) _
        refine XS.iloadN X0.here hx rfl (hb hby d1_11) rfl ?_
        show Steps p.tables e below (s₁.setTop (mkF m 12 #[.val (.ref a1), .val (.int p2), .val (.int p3), .val (.int p4)] [(.int p2), (.ref a1)])) _
        refine X0.caload hx (j := p2) (v := (.int x)) (by rw [e0]; exact Ar.1) (State.isArrayOf_alike hZ.alike Ar.2.1) Ar.2.2 hin hat (g := (mkF m 12 #[.val (.ref a1), .val (.int p2), .val (.int p3), .val (.int p4)] [(.int p2), (.ref a1)])) rfl rfl (hb hby d1_12) _ ?_
        exact k
      obtain ⟨_, _, ⟨T1, L1, k1, n1⟩, -, X1, ⟨Lc1, hQ1, l1, y1, z1⟩, st1⟩ := Jvm.LawKit.callS X0 hx (y := (⟨"tidemark/CheckpointIsPlainNamePinLaw", "plain", "(C)Z"⟩ : MethodName)) hown (mvT hZ (hw _ (List.mem_of_getElem? (i := 6) rfl))) (mvT hZ (hw _ (List.mem_of_getElem? (i := 7) rfl))) (mvT hZ (hw _ (List.mem_of_getElem? (i := 4) rfl))) (mvT hZ (hw _ (List.mem_of_getElem? (i := 8) rfl))) (by decide) (backOf (W := 0) (rm2 l Z a0 hw [] x  h0 n0 Z0 ) hZ (hw _ (List.mem_of_getElem? (i := 8) rfl)) (hw _ (List.mem_of_getElem? (i := 4) rfl)) (by decide) (by decide)) (g := (mkF m 13 #[.val (.ref a1), .val (.int p2), .val (.int p3), .val (.int p4)] [(.int x)])) rfl (by rw [hml]; rfl) (argsL := [(.int x)]) (rest := []) (lenOf pd_1 rfl) rfl (by show 2 * 0 + _ ≤ _; exact Nat.le_of_eq rfl) (hb hby d1_13) (fun _ _ => ⟨rfl, e0, (by decide : 0 + 0 ≤ _), (by decide : 0 + 0 ≤ _)⟩)
      dsimp only [Pt.U, Pt.locs, Pt.cells, Pt.slots] at X1 l1 y1 z1 st1 hQ1
      subst l1 y1 z1
      obtain ⟨rfl, N1q, e1⟩ := hQ1
      have N1 := Fr.app N0 N1q
      refine own_step st1 ?_
      show own_Go p e below s _ _ _ (T1.setTop (mkF m 16 #[.val (.ref a1), .val (.int p2), .val (.int p3), .val (.int p4)] [(.int (own_b (own_P x)))]))
      by_cases hc16 : (own_b (own_P x)) = (0 : Int32)
      · refine own_step (B := T1.setTop (mkF m 24 #[.val (.ref a1), .val (.int p2), .val (.int p3), .val (.int p4)] [(.int (0 : Int32))])) (fun t k => ?_) ?_
        · show Steps p.tables e below (T1.setTop (mkF m 16 #[.val (.ref a1), .val (.int p2), .val (.int p3), .val (.int p4)] [(.int (own_b (own_P x)))])) _
          refine XS.ifYes X1.here hx rfl (pc0 := 16) (pc' := 23) rfl (hb hby d1_16) rfl ((if0 _ _).trans (teq hc16).1) (by decide) (by decide) ?_
          show Steps p.tables e below (T1.setTop (mkF m 23 #[.val (.ref a1), .val (.int p2), .val (.int p3), .val (.int p4)] [])) _
          refine XS.iconst X1.here hx rfl (hb hby d1_23) ?_
          exact k
        exact own_retN X1 hx Bd.notSynchronized (t := .boolean) Bd.returns (by simp) (hb hby d1_24) ⟨by show some (Value.int ((0 : Int32))) = _; simp only [own_b0] at *; simp [own_b, hc2, hc7, hc16], N1, e1⟩ (by decide) (by decide)
      · refine own_step (B := T1.setTop (mkF m 24 #[.val (.ref a1), .val (.int p2), .val (.int p3), .val (.int p4)] [(.int (1 : Int32))])) (fun t k => ?_) ?_
        · show Steps p.tables e below (T1.setTop (mkF m 16 #[.val (.ref a1), .val (.int p2), .val (.int p3), .val (.int p4)] [(.int (own_b (own_P x)))])) _
          refine XS.ifNo X1.here hx rfl (hb hby d1_16) rfl ((if0 _ _).trans (feq hc16).1) ?_
          show Steps p.tables e below (T1.setTop (mkF m 19 #[.val (.ref a1), .val (.int p2), .val (.int p3), .val (.int p4)] [])) _
          refine XS.iconst X1.here hx rfl (hb hby d1_19) ?_
          show Steps p.tables e below (T1.setTop (mkF m 20 #[.val (.ref a1), .val (.int p2), .val (.int p3), .val (.int p4)] [(.int (1 : Int32))])) _
          refine XS.goto X1.here hx rfl (pc0 := 20) (pc' := 24) rfl (hb hby d1_20) (by decide) (by decide) ?_
          exact k
        exact own_retN X1 hx Bd.notSynchronized (t := .boolean) Bd.returns (by simp) (hb hby d1_24) ⟨by show some (Value.int ((1 : Int32))) = _; simp only [own_b0] at *; simp [own_b, hc2, hc7, hc16], N1, e1⟩ (by decide) (by decide)
    · refine own_step (B := s₁.setTop (mkF m 24 #[.val (.ref a1), .val (.int p2), .val (.int p3), .val (.int p4)] [(.int (1 : Int32))])) (fun t k => ?_) ?_
      · show Steps p.tables e below (s₁.setTop (mkF m 7 #[.val (.ref a1), .val (.int p2), .val (.int p3), .val (.int p4)] [(.int p4), (.int p2)])) _
        refine XS.icmpYes X0.here hx rfl (pc0 := 7) (pc' := 19) rfl (hb hby d1_7) rfl (flt hc7).2.1 (by decide) (by decide) ?_
        show Steps p.tables e below (s₁.setTop (mkF m 19 #[.val (.ref a1), .val (.int p2), .val (.int p3), .val (.int p4)] [])) _
        refine XS.iconst X0.here hx rfl (hb hby d1_19) ?_
        show Steps p.tables e below (s₁.setTop (mkF m 20 #[.val (.ref a1), .val (.int p2), .val (.int p3), .val (.int p4)] [(.int (1 : Int32))])) _
        refine XS.goto X0.here hx rfl (pc0 := 20) (pc' := 24) rfl (hb hby d1_20) (by decide) (by decide) ?_
        exact k
      exact own_retN X0 hx Bd.notSynchronized (t := .boolean) Bd.returns (by simp) (hb hby d1_24) ⟨by show some (Value.int ((1 : Int32))) = _; simp only [own_b0] at *; simp [own_b, hc2, hc7], N0, e0⟩ (by decide) (by decide)
theorem d3_0 : decode prog_20_method_17_code 0 = .ok (.iload_n 1, 1) := by decide +kernel
theorem d3_1 : decode prog_20_method_17_code 1 = .ok (.iload_n 2, 1) := by decide +kernel
theorem d3_2 : decode prog_20_method_17_code 2 = .ok (.if_icmp .ge 19, 3) := by decide +kernel
theorem d3_5 : decode prog_20_method_17_code 5 = .ok (.aload_n 0, 1) := by decide +kernel
theorem d3_6 : decode prog_20_method_17_code 6 = .ok (.iload_n 1, 1) := by decide +kernel
theorem d3_7 : decode prog_20_method_17_code 7 = .ok (.caload, 1) := by decide +kernel
theorem d3_8 : decode prog_20_method_17_code 8 = .ok (.bipush 46, 2) := by decide +kernel
theorem d3_10 : decode prog_20_method_17_code 10 = .ok (.if_icmp .eq 11, 3) := by decide +kernel
theorem d3_13 : decode prog_20_method_17_code 13 = .ok (.aload_n 0, 1) := by decide +kernel
theorem d3_14 : decode prog_20_method_17_code 14 = .ok (.iload_n 1, 1) := by decide +kernel
theorem d3_15 : decode prog_20_method_17_code 15 = .ok (.caload, 1) := by decide +kernel
theorem d3_16 : decode prog_20_method_17_code 16 = .ok (.bipush 45, 2) := by decide +kernel
theorem d3_18 : decode prog_20_method_17_code 18 = .ok (.if_icmp .ne 5, 3) := by decide +kernel
theorem d3_21 : decode prog_20_method_17_code 21 = .ok (.iconst 0, 1) := by decide +kernel
theorem d3_22 : decode prog_20_method_17_code 22 = .ok (.ireturn, 1) := by decide +kernel
theorem d3_23 : decode prog_20_method_17_code 23 = .ok (.iload_n 1, 1) := by decide +kernel
theorem d3_24 : decode prog_20_method_17_code 24 = .ok (.istore_n 3, 1) := by decide +kernel
theorem d3_25 : decode prog_20_method_17_code 25 = .ok (.iload_n 3, 1) := by decide +kernel
theorem d3_26 : decode prog_20_method_17_code 26 = .ok (.iload_n 2, 1) := by decide +kernel
theorem d3_27 : decode prog_20_method_17_code 27 = .ok (.if_icmp .ge 34, 3) := by decide +kernel
theorem d3_30 : decode prog_20_method_17_code 30 = .ok (.aload_n 0, 1) := by decide +kernel
theorem d3_31 : decode prog_20_method_17_code 31 = .ok (.iload_n 3, 1) := by decide +kernel
theorem d3_32 : decode prog_20_method_17_code 32 = .ok (.caload, 1) := by decide +kernel
theorem d3_33 : decode prog_20_method_17_code 33 = .ok (.istore 4, 2) := by decide +kernel
theorem d3_35 : decode prog_20_method_17_code 35 = .ok (.iload 4, 2) := by decide +kernel
theorem d3_37 : decode prog_20_method_17_code 37 = .ok (.getstatic 143, 3) := by decide +kernel
theorem d3_40 : decode prog_20_method_17_code 40 = .ok (.arraylength, 1) := by decide +kernel
theorem d3_41 : decode prog_20_method_17_code 41 = .ok (.if_icmp .ge 12, 3) := by decide +kernel
theorem d3_44 : decode prog_20_method_17_code 44 = .ok (.getstatic 143, 3) := by decide +kernel
theorem d3_47 : decode prog_20_method_17_code 47 = .ok (.iload 4, 2) := by decide +kernel
theorem d3_49 : decode prog_20_method_17_code 49 = .ok (.baload, 1) := by decide +kernel
theorem d3_50 : decode prog_20_method_17_code 50 = .ok (.ifCond .ne 5, 3) := by decide +kernel
theorem d3_53 : decode prog_20_method_17_code 53 = .ok (.iconst 0, 1) := by decide +kernel
theorem d3_54 : decode prog_20_method_17_code 54 = .ok (.ireturn, 1) := by decide +kernel
theorem d3_55 : decode prog_20_method_17_code 55 = .ok (.iinc 3 1, 3) := by decide +kernel
theorem d3_58 : decode prog_20_method_17_code 58 = .ok (.goto (-33), 3) := by decide +kernel
theorem d3_61 : decode prog_20_method_17_code 61 = .ok (.iconst 1, 1) := by decide +kernel
theorem d3_62 : decode prog_20_method_17_code 62 = .ok (.ireturn, 1) := by decide +kernel
theorem pn_2 : plainName "tidemark/Checkpoint" = true := by first | (simp [plainName, overriddenIn]; done) | decide +kernel
theorem own_small {x : Int32} (h0 : 0 ≤ x.toInt) (h : x < 128) : ∃ j : Nat, j < 128 ∧ x = Int32.ofNat j := by
  rw [Int32.lt_iff_toInt_lt, show (128 : Int32).toInt = 128 from rfl] at h
  exact ⟨x.toInt.toNat, by omega, by rw [← Int32.toInt_inj, own_toInt (by omega)]; omega⟩
set_option maxRecDepth 65536 in
set_option maxHeartbeats 40000000 in
theorem own_loop {p : Program} {l : Launch} {e : Env} {R : Room} {s : State} {m : MethodId} {args : Array Value} {below : List Frame} {meth : Method} {c : Code} {locs : List Loc} {cells slots : Nat} {Z : State} {a0 : Array Value} {h0 : Heap} {a1 : Addr} {p2 : Int32} {pa : Addr} {clP : Cell} {cl : Cell} {f : Nat → Int32} {n1 n2 : Nat} {C S : Nat} {Q : Option Value → Heap → List Loc → Prop}
    (hx : p.tables.exec = Jvm.exec) (hZ : Z.Warmed39 s.vm) (hw : ∀ d ∈ tables_1, d.before a0 Z = true) (hby : c.code = prog_20_method_17_code) (hml : c.maxLocals = 5) (hown : s.vm.findClass "tidemark/Checkpoint" = some m.cls) (hlk : meth.locks = false) (hret : meth.sig.returnType = some .boolean) (hC : cells ≤ C) (hS : slots ≤ S) (S_P : Sta Z h0 "tidemark/Checkpoint" "PLAIN" "[Z" (.ref pa)) (ArP : Arr Z h0 pa clP .boolean) (hsP : clP.slots.size = 128) (hP : ∀ j : Nat, j < 128 → clP.slots[j]? = some (.int (own_b (own_P (Int32.ofNat j))))) (Ar : Arr Z h0 a1 cl .char) (hs : cl.slots.size = 4) (hf : ∀ j : Nat, j < 4 → cl.slots[j]? = some (.int (f j))) (hf0 : ∀ j : Nat, 0 ≤ (f j).toInt) (h1 : n1 ≤ 4) (h2 : n2 ≤ 4) :
    ∀ (k i : Nat) (T : State) (s4 : Slot), Stand p l e R s m args below meth c T locs cells slots → T.heap = h0 → One s4 → i + k = n2 → Q (some (.int (own_b (own_all f i k)))) h0 locs →
      own_Go p e below s Q C S (T.setTop (mkF m 25 #[.val (.ref a1), .val (.int p2), .val (.int (Int32.ofNat n2)), .val (.int (Int32.ofNat i)), s4] [])) := by
  have hlenP : clP.slots.size.toInt32 = (128 : Int32) := by rw [hsP]; rfl
  intro k
  induction k with
  | zero =>
    intro i T s4 X e0 h4 hik hQ
    have hlt : ¬ (Int32.ofNat i < Int32.ofNat n2) := by rw [own_lt (by omega) (by omega)]; omega
    refine own_step (B := T.setTop (mkF m 62 #[.val (.ref a1), .val (.int p2), .val (.int (Int32.ofNat n2)), .val (.int (Int32.ofNat i)), s4] [(.int (1 : Int32))])) (fun t k => ?_) ?_
    · show Steps p.tables e below (T.setTop (mkF m 25 #[.val (.ref a1), .val (.int p2), .val (.int (Int32.ofNat n2)), .val (.int (Int32.ofNat i)), s4] [])) _
      refine XS.iloadN X.here hx rfl (hb hby d3_25) rfl ?_
      show Steps p.tables e below (T.setTop (mkF m 26 #[.val (.ref a1), .val (.int p2), .val (.int (Int32.ofNat n2)), .val (.int (Int32.ofNat i)), s4] [(.int (Int32.ofNat i))])) _
      refine XS.iloadN X.here hx rfl (hb hby d3_26) rfl ?_
      show Steps p.tables e below (T.setTop (mkF m 27 #[.val (.ref a1), .val (.int p2), .val (.int (Int32.ofNat n2)), .val (.int (Int32.ofNat i)), s4] [(.int (Int32.ofNat n2)), (.int (Int32.ofNat i))])) _
      refine XS.icmpYes X.here hx rfl (pc0 := 27) (pc' := 61) rfl (hb hby d3_27) rfl (flt hlt).2.1 (by decide) (by decide) ?_
      show Steps p.tables e below (T.setTop (mkF m 61 #[.val (.ref a1), .val (.int p2), .val (.int (Int32.ofNat n2)), .val (.int (Int32.ofNat i)), s4] [])) _
      refine XS.iconst X.here hx rfl (hb hby d3_61) ?_
      exact k
    exact own_retN X hx hlk (t := .boolean) hret (by simp) (hb hby d3_62) (by rw [e0]; exact hQ) hC hS
  | succ k ih =>
    intro i T s4 X e0 h4 hik hQ
    have hlt : Int32.ofNat i < Int32.ofNat n2 := by rw [own_lt (by omega) (by omega)]; omega
    refine own_step (B := T.setTop (mkF m 37 #[.val (.ref a1), .val (.int p2), .val (.int (Int32.ofNat n2)), .val (.int (Int32.ofNat i)), .val (.int (f i))] [(.int (f i))])) (fun t k => ?_) ?_
    · show Steps p.tables e below (T.setTop (mkF m 25 #[.val (.ref a1), .val (.int p2), .val (.int (Int32.ofNat n2)), .val (.int (Int32.ofNat i)), s4] [])) _
      refine XS.iloadN X.here hx rfl (hb hby d3_25) rfl ?_
      show Steps p.tables e below (T.setTop (mkF m 26 #[.val (.ref a1), .val (.int p2), .val (.int (Int32.ofNat n2)), .val (.int (Int32.ofNat i)), s4] [(.int (Int32.ofNat i))])) _
      refine XS.iloadN X.here hx rfl (hb hby d3_26) rfl ?_
      show Steps p.tables e below (T.setTop (mkF m 27 #[.val (.ref a1), .val (.int p2), .val (.int (Int32.ofNat n2)), .val (.int (Int32.ofNat i)), s4] [(.int (Int32.ofNat n2)), (.int (Int32.ofNat i))])) _
      refine XS.icmpNo X.here hx rfl (hb hby d3_27) rfl (tlt hlt).2.1 ?_
      show Steps p.tables e below (T.setTop (mkF m 30 #[.val (.ref a1), .val (.int p2), .val (.int (Int32.ofNat n2)), .val (.int (Int32.ofNat i)), s4] [])) _
      refine XS.aloadN X.here hx rfl (hb hby d3_30) rfl rfl ?_
      show Steps p.tables e below (T.setTop (mkF m 31 #[.val (.ref a1), .val (.int p2), .val (.int (Int32.ofNat n2)), .val (.int (Int32.ofNat i)), s4] [(.ref a1)])) _
      refine XS.iloadN X.here hx rfl (hb hby d3_31) rfl ?_
      show Steps p.tables e below (T.setTop (mkF m 32 #[.val (.ref a1), .val (.int p2), .val (.int (Int32.ofNat n2)), .val (.int (Int32.ofNat i)), s4] [(.int (Int32.ofNat i)), (.ref a1)])) _
      refine X.caload hx (j := (Int32.ofNat i)) (v := (.int (f i))) (by rw [e0]; exact Ar.1) (State.isArrayOf_alike hZ.alike Ar.2.1) Ar.2.2 (own_in hs (by omega) (by decide)) (by rw [own_nat (by omega)]; exact hf i (by omega)) (g := (mkF m 32 #[.val (.ref a1), .val (.int p2), .val (.int (Int32.ofNat n2)), .val (.int (Int32.ofNat i)), s4] [(.int (Int32.ofNat i)), (.ref a1)])) rfl rfl (hb hby d3_32) _ ?_
      show Steps p.tables e below (T.setTop (mkF m 33 #[.val (.ref a1), .val (.int p2), .val (.int (Int32.ofNat n2)), .val (.int (Int32.ofNat i)), s4] [(.int (f i))])) _
      refine XS.istore X.here hx rfl (hb hby d3_33) rfl (l' := #[.val (.ref a1), .val (.int p2), .val (.int (Int32.ofNat n2)), .val (.int (Int32.ofNat i)), .val (.int (f i))]) (own_st h4 _) ?_
      show Steps p.tables e below (T.setTop (mkF m 35 #[.val (.ref a1), .val (.int p2), .val (.int (Int32.ofNat n2)), .val (.int (Int32.ofNat i)), .val (.int (f i))] [])) _
      refine XS.iload X.here hx rfl (hb hby d3_35) rfl ?_
      exact k
    obtain ⟨T1, X1, e1, st1⟩ := getS2 X hx hZ hown (host := "") (Or.inl (hw _ (List.mem_of_getElem? (i := 13) rfl))) Via.refl e0 S_P (g := (mkF m 37 #[.val (.ref a1), .val (.int p2), .val (.int (Int32.ofNat n2)), .val (.int (Int32.ofNat i)), .val (.int (f i))] [(.int (f i))])) rfl (hb hby d3_37)
    refine own_step st1 ?_
    show own_Go p e below s _ _ _ (T1.setTop (mkF m 40 #[.val (.ref a1), .val (.int p2), .val (.int (Int32.ofNat n2)), .val (.int (Int32.ofNat i)), .val (.int (f i))] [(.ref pa), (.int (f i))]))
    refine own_step (B := T1.setTop (mkF m 41 #[.val (.ref a1), .val (.int p2), .val (.int (Int32.ofNat n2)), .val (.int (Int32.ofNat i)), .val (.int (f i))] [(.int (128 : Int32)), (.int (f i))])) (fun t k => ?_) ?_
    · show Steps p.tables e below (T1.setTop (mkF m 40 #[.val (.ref a1), .val (.int p2), .val (.int (Int32.ofNat n2)), .val (.int (Int32.ofNat i)), .val (.int (f i))] [(.ref pa), (.int (f i))])) _
      refine X1.arraylength hx (by rw [e1]; exact ArP.1) (State.isArrayOf_alike hZ.alike ArP.2.1) (g := (mkF m 40 #[.val (.ref a1), .val (.int p2), .val (.int (Int32.ofNat n2)), .val (.int (Int32.ofNat i)), .val (.int (f i))] [(.ref pa), (.int (f i))])) rfl rfl (hb hby d3_40) _ ?_
      rw [hlenP]
      exact k
    by_cases hc41 : (f i) < (128 : Int32)
    · refine own_step (B := T1.setTop (mkF m 44 #[.val (.ref a1), .val (.int p2), .val (.int (Int32.ofNat n2)), .val (.int (Int32.ofNat i)), .val (.int (f i))] [])) (fun t k => ?_) ?_
      · show Steps p.tables e below (T1.setTop (mkF m 41 #[.val (.ref a1), .val (.int p2), .val (.int (Int32.ofNat n2)), .val (.int (Int32.ofNat i)), .val (.int (f i))] [(.int (128 : Int32)), (.int (f i))])) _
        refine XS.icmpNo X1.here hx rfl (hb hby d3_41) rfl (tlt hc41).2.1 ?_
        exact k
      obtain ⟨T2, X2, e2, st2⟩ := getS2 X1 hx hZ hown (host := "") (Or.inl (hw _ (List.mem_of_getElem? (i := 13) rfl))) Via.refl e1 S_P (g := (mkF m 44 #[.val (.ref a1), .val (.int p2), .val (.int (Int32.ofNat n2)), .val (.int (Int32.ofNat i)), .val (.int (f i))] [])) rfl (hb hby d3_44)
      refine own_step st2 ?_
      show own_Go p e below s _ _ _ (T2.setTop (mkF m 47 #[.val (.ref a1), .val (.int p2), .val (.int (Int32.ofNat n2)), .val (.int (Int32.ofNat i)), .val (.int (f i))] [(.ref pa)]))
      refine own_step (B := T2.setTop (mkF m 49 #[.val (.ref a1), .val (.int p2), .val (.int (Int32.ofNat n2)), .val (.int (Int32.ofNat i)), .val (.int (f i))] [(.int (f i)), (.ref pa)])) (fun t k => ?_) ?_
      · show Steps p.tables e below (T2.setTop (mkF m 47 #[.val (.ref a1), .val (.int p2), .val (.int (Int32.ofNat n2)), .val (.int (Int32.ofNat i)), .val (.int (f i))] [(.ref pa)])) _
        refine XS.iload X2.here hx rfl (hb hby d3_47) rfl ?_
        exact k
      obtain ⟨j, hj, ej⟩ : ∃ j : Nat, j < 128 ∧ f i = Int32.ofNat j := own_small (hf0 i) hc41
      have hatP : clP.slots[(f i).toNatClampNeg]? = some (.int (own_b (own_P (f i)))) := by rw [ej, own_nat (by omega)]; exact hP j hj
      have hinP : ¬ (f i < 0 ∨ clP.slots.size ≤ (f i).toNatClampNeg) := by rw [ej]; exact own_in hsP hj (by decide)
      refine own_step (B := T2.setTop (mkF m 50 #[.val (.ref a1), .val (.int p2), .val (.int (Int32.ofNat n2)), .val (.int (Int32.ofNat i)), .val (.int (f i))] [(.int (own_b (own_P (f i))))])) (fun t k => ?_) ?_
      · show Steps p.tables e below (T2.setTop (mkF m 49 #[.val (.ref a1), .val (.int p2), .val (.int (Int32.ofNat n2)), .val (.int (Int32.ofNat i)), .val (.int (f i))] [(.int (f i)), (.ref pa)])) _
        refine X2.baloadBooleans hx (j := (f i)) (v := (.int (own_b (own_P (f i))))) (by rw [e2]; exact ArP.1) (State.isArrayOf_alike hZ.alike ArP.2.1) ArP.2.2 hinP hatP (g := (mkF m 49 #[.val (.ref a1), .val (.int p2), .val (.int (Int32.ofNat n2)), .val (.int (Int32.ofNat i)), .val (.int (f i))] [(.int (f i)), (.ref pa)])) rfl rfl (hb hby d3_49) _ ?_
        exact k
      by_cases hc50 : (own_b (own_P (f i))) = (0 : Int32)
      · refine own_step (B := T2.setTop (mkF m 54 #[.val (.ref a1), .val (.int p2), .val (.int (Int32.ofNat n2)), .val (.int (Int32.ofNat i)), .val (.int (f i))] [(.int (0 : Int32))])) (fun t k => ?_) ?_
        · show Steps p.tables e below (T2.setTop (mkF m 50 #[.val (.ref a1), .val (.int p2), .val (.int (Int32.ofNat n2)), .val (.int (Int32.ofNat i)), .val (.int (f i))] [(.int (own_b (own_P (f i))))])) _
          refine XS.ifNo X2.here hx rfl (hb hby d3_50) rfl ((if0 _ _).trans (teq hc50).2) ?_
          show Steps p.tables e below (T2.setTop (mkF m 53 #[.val (.ref a1), .val (.int p2), .val (.int (Int32.ofNat n2)), .val (.int (Int32.ofNat i)), .val (.int (f i))] [])) _
          refine XS.iconst X2.here hx rfl (hb hby d3_53) ?_
          exact k
        exact own_retN X2 hx hlk (t := .boolean) hret (by simp) (hb hby d3_54) (by rw [e2]; have e : own_b (own_all f i (k + 1)) = 0 := own_bf (fun q => own_b0.mp hc50 q.1); rw [e] at hQ; exact hQ) hC hS
      · refine own_step (B := T2.setTop (mkF m 25 #[.val (.ref a1), .val (.int p2), .val (.int (Int32.ofNat n2)), .val (.int ((Int32.ofNat i) + (1 : Int32))), .val (.int (f i))] [])) (fun t k => ?_) ?_
        · show Steps p.tables e below (T2.setTop (mkF m 50 #[.val (.ref a1), .val (.int p2), .val (.int (Int32.ofNat n2)), .val (.int (Int32.ofNat i)), .val (.int (f i))] [(.int (own_b (own_P (f i))))])) _
          refine XS.ifYes X2.here hx rfl (pc0 := 50) (pc' := 55) rfl (hb hby d3_50) rfl ((if0 _ _).trans (feq hc50).2) (by decide) (by decide) ?_
          show Steps p.tables e below (T2.setTop (mkF m 55 #[.val (.ref a1), .val (.int p2), .val (.int (Int32.ofNat n2)), .val (.int (Int32.ofNat i)), .val (.int (f i))] [])) _
          refine XS.iinc X2.here hx rfl (hb hby d3_55) rfl (l' := #[.val (.ref a1), .val (.int p2), .val (.int (Int32.ofNat n2)), .val (.int ((Int32.ofNat i) + (1 : Int32))), .val (.int (f i))]) rfl ?_
          show Steps p.tables e below (T2.setTop (mkF m 58 #[.val (.ref a1), .val (.int p2), .val (.int (Int32.ofNat n2)), .val (.int ((Int32.ofNat i) + (1 : Int32))), .val (.int (f i))] [])) _
          refine XS.goto X2.here hx rfl (pc0 := 58) (pc' := 25) rfl (hb hby d3_58) (by decide) (by decide) ?_
          exact k
        have hPi : own_P (f i) := Classical.byContradiction fun q => hc50 (own_b0.mpr q)
        rw [own_succ i]
        exact ih (i + 1) T2 (.val (.int (f i))) X2 e2 (One.val rfl) (by omega) (by have e : own_b (own_all f (i + 1) k) = own_b (own_all f i (k + 1)) := own_iff ⟨fun q => ⟨hPi, q⟩, fun q => q.2⟩; rw [e]; exact hQ)
    · refine own_step (B := T1.setTop (mkF m 54 #[.val (.ref a1), .val (.int p2), .val (.int (Int32.ofNat n2)), .val (.int (Int32.ofNat i)), .val (.int (f i))] [(.int (0 : Int32))])) (fun t k => ?_) ?_
      · show Steps p.tables e below (T1.setTop (mkF m 41 #[.val (.ref a1), .val (.int p2), .val (.int (Int32.ofNat n2)), .val (.int (Int32.ofNat i)), .val (.int (f i))] [(.int (128 : Int32)), (.int (f i))])) _
        refine XS.icmpYes X1.here hx rfl (pc0 := 41) (pc' := 53) rfl (hb hby d3_41) rfl (flt hc41).2.1 (by decide) (by decide) ?_
        show Steps p.tables e below (T1.setTop (mkF m 53 #[.val (.ref a1), .val (.int p2), .val (.int (Int32.ofNat n2)), .val (.int (Int32.ofNat i)), .val (.int (f i))] [])) _
        refine XS.iconst X1.here hx rfl (hb hby d3_53) ?_
        exact k
      exact own_retN X1 hx hlk (t := .boolean) hret (by simp) (hb hby d3_54) (by rw [e1]; have e : own_b (own_all f i (k + 1)) = 0 := own_bf (fun q => own_big (f i) (hf0 i) hc41 q.1); rw [e] at hQ; exact hQ) hC hS
theorem ef_3 (m : MethodId) (a1 : Addr) (p2 : Int32) (p3 : Int32) : entryFrame m #[(.ref a1), (.int p2), (.int p3)] 5 = mkF m 0 #[.val (.ref a1), .val (.int p2), .val (.int p3), .unset, .unset] [] := by first | (simp [entryFrame, mkF, argsToLocals, Value.category]; done) | rfl
def Q3 (Z : State) (a1 : Addr) (p2 : Int32) (p3 : Int32) (pa : Addr) (clP : Cell) (cl : Cell) (f : Nat → Int32) (n1 : Nat) (n2 : Nat) (h0 : Heap) (n0 : Nat) (v : Option Value) (h : Heap) (L : List Loc) : Prop := v = some (.int (own_b (n1 < n2 ∧ ¬ f n1 = 46 ∧ ¬ f n1 = 45 ∧ own_all f n1 (n2 - n1)))) ∧ Fr n0 L ∧ h = h0
set_option maxRecDepth 65536 in
set_option maxHeartbeats 40000000 in
theorem rm3 (l : Launch) (Z : State) (a0 : Array Value) (hw : ∀ d ∈ tables_1, d.before a0 Z = true) (ws : List Jvm.Cond) (a1 : Addr) (p2 : Int32) (p3 : Int32) (pa : Addr) (clP : Cell) (cl : Cell) (f : Nat → Int32) (n1 : Nat) (n2 : Nat) (h0 : Heap) (n0 : Nat) (Z0 : n0 ≤ h0.size) (S_P : Sta Z h0 "tidemark/Checkpoint" "PLAIN" "[Z" (.ref pa)) (ArP : Arr Z h0 pa clP .boolean) (hsP : clP.slots.size = 128) (hP : ∀ j : Nat, j < 128 → clP.slots[j]? = some (.int (own_b (own_P (Int32.ofNat j))))) (Ar : Arr Z h0 a1 cl .char) (hs : cl.slots.size = 4) (hf : ∀ j : Nat, j < 4 → cl.slots[j]? = some (.int (f j))) (hf0 : ∀ j : Nat, 0 ≤ (f j).toInt) (h1 : n1 ≤ 4) (h2 : n2 ≤ 4) (e2 : p2 = Int32.ofNat n1) (e3 : p3 = Int32.ofNat n2) :
    MetFree l (⟨"tidemark/Checkpoint", "isPlainName", "([CII)Z"⟩ : MethodName) (head1 (Jvm.Cond.code (⟨"tidemark/Checkpoint", "isPlainName", "([CII)Z"⟩ : MethodName) prog_20_method_17_code 5 (some .boolean) :: ws) ({ frames := 0, cells := 0, slots := 0, locals := 0 } : Room)) (fun a U => a = #[(.ref a1), (.int p2), (.int p3)] ∧ Z.Warmed39 U.vm ∧ U.heap = h0) (fun _ _ _ _ _ => True) (fun _ U o U' => ∃ v L, o = .returned v ∧ Q3 Z a1 p2 p3 pa clP cl f n1 n2 h0 n0 v U'.heap L ∧ FrameEnd U o U' L ({ frames := 0, cells := 0, slots := 0, locals := 0 } : Room).cells ({ frames := 0, cells := 0, slots := 0, locals := 0 } : Room).slots) := by
  refine MetFree.of_bodySF (plainFor_of_name pn_2) hisR ?_
  intro p e s m args below meth c s₁ Bd hml0 hP hK
  obtain ⟨rfl, hZ, hh⟩ := hP
  have hx := Bd.exec
  have hby := Bd.bytes
  have hml : c.maxLocals = 5 := hml0
  have hown : s.vm.findClass "tidemark/Checkpoint" = some m.cls := findClass_of_methodNamed Bd.named
  have hnm := (name_of_methodNamed Bd.named Bd.method).1
  have X0 : Stand p l e ({ frames := 0, cells := 0, slots := 0, locals := 0 } : Room) s m #[(.ref a1), (.int p2), (.int p3)] below meth c s₁ [] 0 0 := Stand.of_body Bd
  have e0 : s₁.heap = h0 := by rw [← hh, Bd.state]; rfl
  have N0 := Fr.nil n0
  skip
  show own_Go p e below s (Q3 Z a1 p2 p3 pa clP cl f n1 n2 h0 n0) ({ frames := 0, cells := 0, slots := 0, locals := 0 } : Room).cells ({ frames := 0, cells := 0, slots := 0, locals := 0 } : Room).slots _
  refine own_step (B := s₁.setTop (mkF m 0 #[.val (.ref a1), .val (.int p2), .val (.int p3), .unset, .unset] [])) (fun t k => castTop (ef_3 m a1 p2 p3) k) ?_
  subst e2 e3
  refine own_step (B := s₁.setTop (mkF m 2 #[.val (.ref a1), .val (.int (Int32.ofNat n1)), .val (.int (Int32.ofNat n2)), .unset, .unset] [(.int (Int32.ofNat n2)), (.int (Int32.ofNat n1))])) (fun t k => ?_) ?_
  · show Steps p.tables e below (s₁.setTop (mkF m 0 #[.val (.ref a1), .val (.int (Int32.ofNat n1)), .val (.int (Int32.ofNat n2)), .unset, .unset] [])) _
    refine XS.iloadN X0.here hx rfl (hb hby d3_0) rfl ?_
    show Steps p.tables e below (s₁.setTop (mkF m 1 #[.val (.ref a1), .val (.int (Int32.ofNat n1)), .val (.int (Int32.ofNat n2)), .unset, .unset] [(.int (Int32.ofNat n1))])) _
    refine XS.iloadN X0.here hx rfl (hb hby d3_1) rfl ?_
    exact k
  by_cases hc2 : (Int32.ofNat n1) < (Int32.ofNat n2)
  · refine own_step (B := s₁.setTop (mkF m 10 #[.val (.ref a1), .val (.int (Int32.ofNat n1)), .val (.int (Int32.ofNat n2)), .unset, .unset] [(.int (46 : Int32)), (.int (f n1))])) (fun t k => ?_) ?_
    · show Steps p.tables e below (s₁.setTop (mkF m 2 #[.val (.ref a1), .val (.int (Int32.ofNat n1)), .val (.int (Int32.ofNat n2)), .unset, .unset] [(.int (Int32.ofNat n2)), (.int (Int32.ofNat n1))])) _
      refine XS.icmpNo X0.here hx rfl (hb hby d3_2) rfl (tlt hc2).2.1 ?_
      show Steps p.tables e below (s₁.setTop (mkF m 5 #[.val (.ref a1), .val (.int (Int32.ofNat n1)), .val (.int (Int32.ofNat n2)), .unset, .unset] [])) _
      refine XS.aloadN X0.here hx rfl (hb hby d3_5) rfl rfl ?_
      show Steps p.tables e below (s₁.setTop (mkF m 6 #[.val (.ref a1), .val (.int (Int32.ofNat n1)), .val (.int (Int32.ofNat n2)), .unset, .unset] [(.ref a1)])) _
      refine XS.iloadN X0.here hx rfl (hb hby d3_6) rfl ?_
      show Steps p.tables e below (s₁.setTop (mkF m 7 #[.val (.ref a1), .val (.int (Int32.ofNat n1)), .val (.int (Int32.ofNat n2)), .unset, .unset] [(.int (Int32.ofNat n1)), (.ref a1)])) _
      refine X0.caload hx (j := (Int32.ofNat n1)) (v := (.int (f n1))) (by rw [e0]; exact Ar.1) (State.isArrayOf_alike hZ.alike Ar.2.1) Ar.2.2 (own_in hs (by have := (own_lt (by omega) (by omega)).mp hc2; omega) (by decide)) (by rw [own_nat (by omega)]; exact hf n1 (by have := (own_lt (by omega) (by omega)).mp hc2; omega)) (g := (mkF m 7 #[.val (.ref a1), .val (.int (Int32.ofNat n1)), .val (.int (Int32.ofNat n2)), .unset, .unset] [(.int (Int32.ofNat n1)), (.ref a1)])) rfl rfl (hb hby d3_7) _ ?_
      show Steps p.tables e below (s₁.setTop (mkF m 8 #[.val (.ref a1), .val (.int (Int32.ofNat n1)), .val (.int (Int32.ofNat n2)), .unset, .unset] [(.int (f n1))])) _
      refine XS.bipush X0.here hx rfl (hb hby d3_8) ?_
      exact k
    by_cases hc10 : (f n1) = (46 : Int32)
    · refine own_step (B := s₁.setTop (mkF m 22 #[.val (.ref a1), .val (.int (Int32.ofNat n1)), .val (.int (Int32.ofNat n2)), .unset, .unset] [(.int (0 : Int32))])) (fun t k => ?_) ?_
      · show Steps p.tables e below (s₁.setTop (mkF m 10 #[.val (.ref a1), .val (.int (Int32.ofNat n1)), .val (.int (Int32.ofNat n2)), .unset, .unset] [(.int (46 : Int32)), (.int (f n1))])) _
        refine XS.icmpYes X0.here hx rfl (pc0 := 10) (pc' := 21) rfl (hb hby d3_10) rfl (teq hc10).1 (by decide) (by decide) ?_
        show Steps p.tables e below (s₁.setTop (mkF m 21 #[.val (.ref a1), .val (.int (Int32.ofNat n1)), .val (.int (Int32.ofNat n2)), .unset, .unset] [])) _
        refine XS.iconst X0.here hx rfl (hb hby d3_21) ?_
        exact k
      exact own_retN X0 hx Bd.notSynchronized (t := .boolean) Bd.returns (by simp) (hb hby d3_22) ⟨by show some (Value.int (0 : Int32)) = _; rw [own_bf (fun q => q.2.1 hc10)], N0, e0⟩ (by decide) (by decide)
    · refine own_step (B := s₁.setTop (mkF m 18 #[.val (.ref a1), .val (.int (Int32.ofNat n1)), .val (.int (Int32.ofNat n2)), .unset, .unset] [(.int (45 : Int32)), (.int (f n1))])) (fun t k => ?_) ?_
      · show Steps p.tables e below (s₁.setTop (mkF m 10 #[.val (.ref a1), .val (.int (Int32.ofNat n1)), .val (.int (Int32.ofNat n2)), .unset, .unset] [(.int (46 : Int32)), (.int (f n1))])) _
        refine XS.icmpNo X0.here hx rfl (hb hby d3_10) rfl (feq hc10).1 ?_
        show Steps p.tables e below (s₁.setTop (mkF m 13 #[.val (.ref a1), .val (.int (Int32.ofNat n1)), .val (.int (Int32.ofNat n2)), .unset, .unset] [])) _
        refine XS.aloadN X0.here hx rfl (hb hby d3_13) rfl rfl ?_
        show Steps p.tables e below (s₁.setTop (mkF m 14 #[.val (.ref a1), .val (.int (Int32.ofNat n1)), .val (.int (Int32.ofNat n2)), .unset, .unset] [(.ref a1)])) _
        refine XS.iloadN X0.here hx rfl (hb hby d3_14) rfl ?_
        show Steps p.tables e below (s₁.setTop (mkF m 15 #[.val (.ref a1), .val (.int (Int32.ofNat n1)), .val (.int (Int32.ofNat n2)), .unset, .unset] [(.int (Int32.ofNat n1)), (.ref a1)])) _
        refine X0.caload hx (j := (Int32.ofNat n1)) (v := (.int (f n1))) (by rw [e0]; exact Ar.1) (State.isArrayOf_alike hZ.alike Ar.2.1) Ar.2.2 (own_in hs (by have := (own_lt (by omega) (by omega)).mp hc2; omega) (by decide)) (by rw [own_nat (by omega)]; exact hf n1 (by have := (own_lt (by omega) (by omega)).mp hc2; omega)) (g := (mkF m 15 #[.val (.ref a1), .val (.int (Int32.ofNat n1)), .val (.int (Int32.ofNat n2)), .unset, .unset] [(.int (Int32.ofNat n1)), (.ref a1)])) rfl rfl (hb hby d3_15) _ ?_
        show Steps p.tables e below (s₁.setTop (mkF m 16 #[.val (.ref a1), .val (.int (Int32.ofNat n1)), .val (.int (Int32.ofNat n2)), .unset, .unset] [(.int (f n1))])) _
        refine XS.bipush X0.here hx rfl (hb hby d3_16) ?_
        exact k
      by_cases hc18 : (f n1) = (45 : Int32)
      · refine own_step (B := s₁.setTop (mkF m 22 #[.val (.ref a1), .val (.int (Int32.ofNat n1)), .val (.int (Int32.ofNat n2)), .unset, .unset] [(.int (0 : Int32))])) (fun t k => ?_) ?_
        · show Steps p.tables e below (s₁.setTop (mkF m 18 #[.val (.ref a1), .val (.int (Int32.ofNat n1)), .val (.int (Int32.ofNat n2)), .unset, .unset] [(.int (45 : Int32)), (.int (f n1))])) _
          refine XS.icmpNo X0.here hx rfl (hb hby d3_18) rfl (teq hc18).2 ?_
          show Steps p.tables e below (s₁.setTop (mkF m 21 #[.val (.ref a1), .val (.int (Int32.ofNat n1)), .val (.int (Int32.ofNat n2)), .unset, .unset] [])) _
          refine XS.iconst X0.here hx rfl (hb hby d3_21) ?_
          exact k
        exact own_retN X0 hx Bd.notSynchronized (t := .boolean) Bd.returns (by simp) (hb hby d3_22) ⟨by show some (Value.int (0 : Int32)) = _; rw [own_bf (fun q => q.2.2.1 hc18)], N0, e0⟩ (by decide) (by decide)
      · refine own_step (B := s₁.setTop (mkF m 25 #[.val (.ref a1), .val (.int (Int32.ofNat n1)), .val (.int (Int32.ofNat n2)), .val (.int (Int32.ofNat n1)), .unset] [])) (fun t k => ?_) ?_
        · show Steps p.tables e below (s₁.setTop (mkF m 18 #[.val (.ref a1), .val (.int (Int32.ofNat n1)), .val (.int (Int32.ofNat n2)), .unset, .unset] [(.int (45 : Int32)), (.int (f n1))])) _
          refine XS.icmpYes X0.here hx rfl (pc0 := 18) (pc' := 23) rfl (hb hby d3_18) rfl (feq hc18).2 (by decide) (by decide) ?_
          show Steps p.tables e below (s₁.setTop (mkF m 23 #[.val (.ref a1), .val (.int (Int32.ofNat n1)), .val (.int (Int32.ofNat n2)), .unset, .unset] [])) _
          refine XS.iloadN X0.here hx rfl (hb hby d3_23) rfl ?_
          show Steps p.tables e below (s₁.setTop (mkF m 24 #[.val (.ref a1), .val (.int (Int32.ofNat n1)), .val (.int (Int32.ofNat n2)), .unset, .unset] [(.int (Int32.ofNat n1))])) _
          refine XS.istoreN X0.here hx rfl (hb hby d3_24) rfl (l' := #[.val (.ref a1), .val (.int (Int32.ofNat n1)), .val (.int (Int32.ofNat n2)), .val (.int (Int32.ofNat n1)), .unset]) rfl ?_
          exact k
        have hn : n1 < n2 := (own_lt (by omega) (by omega)).mp hc2
        exact own_loop (p2 := Int32.ofNat n1) (n1 := n1) hx hZ hw hby hml hown Bd.notSynchronized Bd.returns (Nat.le_refl _) (Nat.le_refl _) S_P ArP hsP hP Ar hs hf hf0 h1 h2 (n2 - n1) n1 s₁ .unset X0 e0 One.u (by omega) ⟨congrArg (fun z => some (Value.int z)) (own_iff ⟨fun q => ⟨hn, hc10, hc18, q⟩, fun q => q.2.2.2⟩), N0, rfl⟩
  · refine own_step (B := s₁.setTop (mkF m 22 #[.val (.ref a1), .val (.int (Int32.ofNat n1)), .val (.int (Int32.ofNat n2)), .unset, .unset] [(.int (0 : Int32))])) (fun t k => ?_) ?_
    · show Steps p.tables e below (s₁.setTop (mkF m 2 #[.val (.ref a1), .val (.int (Int32.ofNat n1)), .val (.int (Int32.ofNat n2)), .unset, .unset] [(.int (Int32.ofNat n2)), (.int (Int32.ofNat n1))])) _
      refine XS.icmpYes X0.here hx rfl (pc0 := 2) (pc' := 21) rfl (hb hby d3_2) rfl (flt hc2).2.1 (by decide) (by decide) ?_
      show Steps p.tables e below (s₁.setTop (mkF m 21 #[.val (.ref a1), .val (.int (Int32.ofNat n1)), .val (.int (Int32.ofNat n2)), .unset, .unset] [])) _
      refine XS.iconst X0.here hx rfl (hb hby d3_21) ?_
      exact k
    exact own_retN X0 hx Bd.notSynchronized (t := .boolean) Bd.returns (by simp) (hb hby d3_22) ⟨by show some (Value.int (0 : Int32)) = _; rw [own_bf (fun q => hc2 ((own_lt (by omega) (by omega)).mpr q.1))], N0, e0⟩ (by decide) (by decide)
theorem pd_3 : parseMethodDescriptor "([CIII)Z" = some ⟨[(.array .char), .int, .int, .int], some .boolean⟩ := by decide +kernel
theorem pd_4 : parseMethodDescriptor "([CII)Z" = some ⟨[(.array .char), .int, .int], some .boolean⟩ := by decide +kernel
theorem ef_0 (m : MethodId) (p1 : Int32) (p2 : Int32) (p3 : Int32) (p4 : Int32) (p5 : Int32) (p6 : Int32) : entryFrame m #[(.int p1), (.int p2), (.int p3), (.int p4), (.int p5), (.int p6)] maxLocals = mkF m 0 #[.val (.int p1), .val (.int p2), .val (.int p3), .val (.int p4), .val (.int p5), .val (.int p6), .unset, .unset, .unset, .unset, .unset] [] := by first | (simp [entryFrame, mkF, argsToLocals, Value.category, maxLocals]; done) | rfl
def Q0 (Z : State) (p1 : Int32) (p2 : Int32) (p3 : Int32) (p4 : Int32) (p5 : Int32) (p6 : Int32) (pa : Addr) (clP : Cell) (h0 : Heap) (n0 : Nat) (v : Option Value) (h : Heap) (L : List Loc) : Prop := v = some (.int (1 : Int32)) ∧ Fr n0 L
set_option maxRecDepth 65536 in
set_option maxHeartbeats 40000000 in
theorem rm0 (l : Launch) (Z : State) (a0 : Array Value) (hw : ∀ d ∈ tables_1, d.before a0 Z = true) (ws : List Jvm.Cond) (p1 : Int32) (p2 : Int32) (p3 : Int32) (p4 : Int32) (p5 : Int32) (p6 : Int32) (pa : Addr) (clP : Cell) (h0 : Heap) (n0 : Nat) (Z0 : n0 ≤ h0.size) (O0 : Old Z n0 h0) (S_P : Sta Z Z.heap "tidemark/Checkpoint" "PLAIN" "[Z" (.ref pa)) (ArP : Arr Z Z.heap pa clP .boolean) (hsP : clP.slots.size = 128) (hP : ∀ j : Nat, j < 128 → clP.slots[j]? = some (.int (own_b (own_P (Int32.ofNat j))))) :
    MetFree l x (head1 (Jvm.Cond.code x code maxLocals ret :: ws) room_1) (fun a U => a = #[(.int p1), (.int p2), (.int p3), (.int p4), (.int p5), (.int p6)] ∧ Z.Warmed39 U.vm ∧ U.heap = h0) (fun _ _ _ _ _ => True) (fun _ U o U' => ∃ v L, o = .returned v ∧ Q0 Z p1 p2 p3 p4 p5 p6 pa clP h0 n0 v U'.heap L ∧ FrameEnd U o U' L room_1.cells room_1.slots) := by
  refine MetFree.of_bodySF (plainFor_of_name pn_0) hisR ?_
  intro p e s m args below meth c s₁ Bd hml0 hP hK
  obtain ⟨rfl, hZ, hh⟩ := hP
  have hx := Bd.exec
  have hby := Bd.bytes
  have hml : c.maxLocals = 11 := hml0
  have hown : s.vm.findClass "tidemark/CheckpointIsPlainNamePinLaw" = some m.cls := findClass_of_methodNamed Bd.named
  have hnm := (name_of_methodNamed Bd.named Bd.method).1
  have X0 : Stand p l e room_1 s m #[(.int p1), (.int p2), (.int p3), (.int p4), (.int p5), (.int p6)] below meth c s₁ [] 0 0 := Stand.of_body Bd
  have e0 : s₁.heap = h0 := by rw [← hh, Bd.state]; rfl
  have N0 := Fr.nil n0
  skip
  show own_Go p e below s (Q0 Z p1 p2 p3 p4 p5 p6 pa clP h0 n0) room_1.cells room_1.slots _
  refine own_step (B := s₁.setTop (mkF m 0 #[.val (.int p1), .val (.int p2), .val (.int p3), .val (.int p4), .val (.int p5), .val (.int p6), .unset, .unset, .unset, .unset, .unset] [])) (fun t k => castTop (ef_0 m p1 p2 p3 p4 p5 p6) k) ?_
  refine own_step (B := s₁.setTop (mkF m 1 #[.val (.int p1), .val (.int p2), .val (.int p3), .val (.int p4), .val (.int p5), .val (.int p6), .unset, .unset, .unset, .unset, .unset] [(.int (4 : Int32))])) (fun t k => ?_) ?_
  · show Steps p.tables e below (s₁.setTop (mkF m 0 #[.val (.int p1), .val (.int p2), .val (.int p3), .val (.int p4), .val (.int p5), .val (.int p6), .unset, .unset, .unset, .unset, .unset] [])) _
    refine XS.iconst X0.here hx rfl (hb hby at_0) ?_
    exact k
  obtain ⟨T1, h1, k1, X1, e1, E1, A1, st1⟩ := newP X0 hx hZ (hw _ (List.mem_of_getElem? (i := 0) rfl)) e0 (g := (mkF m 1 #[.val (.int p1), .val (.int p2), .val (.int p3), .val (.int p4), .val (.int p5), .val (.int p6), .unset, .unset, .unset, .unset, .unset] [(.int (4 : Int32))])) rfl (hb hby at_1) rfl (by decide) (cap := 4) (by decide) (by decide) (by decide) (by decide)
  obtain ⟨b1, g1⟩ : ∃ z, z = h0.size := ⟨_, rfl⟩
  rw [← g1] at A1 st1
  have g_b1 : n0 ≤ b1 := Nat.le_trans Z0 (Nat.le_of_eq g1.symm)
  have V_b1 : Arv Z h1 b1 k1 .char (4 : Int32) [(.int (0 : Int32)), (.int (0 : Int32)), (.int (0 : Int32)), (.int (0 : Int32))] (.int (0 : Int32)) := (Arv.new A1 (by decide)).pad (pad_rep [] (.int (0 : Int32)) 4)
  refine own_step st1 ?_
  show own_Go p e below s _ _ _ (T1.setTop (mkF m 3 #[.val (.int p1), .val (.int p2), .val (.int p3), .val (.int p4), .val (.int p5), .val (.int p6), .unset, .unset, .unset, .unset, .unset] [(.ref b1)]))
  refine own_step (B := T1.setTop (mkF m 10 #[.val (.int p1), .val (.int p2), .val (.int p3), .val (.int p4), .val (.int p5), .val (.int p6), .val (.ref b1), .unset, .unset, .unset, .unset] [(.int (p1.toUInt32.toUInt16.toUInt32.toInt32)), (.int (0 : Int32)), (.ref b1)])) (fun t k => ?_) ?_
  · show Steps p.tables e below (T1.setTop (mkF m 3 #[.val (.int p1), .val (.int p2), .val (.int p3), .val (.int p4), .val (.int p5), .val (.int p6), .unset, .unset, .unset, .unset, .unset] [(.ref b1)])) _
    refine XS.astore X1.here hx rfl (hb hby at_3) rfl rfl (l' := #[.val (.int p1), .val (.int p2), .val (.int p3), .val (.int p4), .val (.int p5), .val (.int p6), .val (.ref b1), .unset, .unset, .unset, .unset]) rfl ?_
    show Steps p.tables e below (T1.setTop (mkF m 5 #[.val (.int p1), .val (.int p2), .val (.int p3), .val (.int p4), .val (.int p5), .val (.int p6), .val (.ref b1), .unset, .unset, .unset, .unset] [])) _
    refine XS.aload X1.here hx rfl (hb hby at_5) rfl rfl ?_
    show Steps p.tables e below (T1.setTop (mkF m 7 #[.val (.int p1), .val (.int p2), .val (.int p3), .val (.int p4), .val (.int p5), .val (.int p6), .val (.ref b1), .unset, .unset, .unset, .unset] [(.ref b1)])) _
    refine XS.iconst X1.here hx rfl (hb hby at_7) ?_
    show Steps p.tables e below (T1.setTop (mkF m 8 #[.val (.int p1), .val (.int p2), .val (.int p3), .val (.int p4), .val (.int p5), .val (.int p6), .val (.ref b1), .unset, .unset, .unset, .unset] [(.int (0 : Int32)), (.ref b1)])) _
    refine XS.iloadN X1.here hx rfl (hb hby at_8) rfl ?_
    show Steps p.tables e below (T1.setTop (mkF m 9 #[.val (.int p1), .val (.int p2), .val (.int p3), .val (.int p4), .val (.int p5), .val (.int p6), .val (.ref b1), .unset, .unset, .unset, .unset] [(.int p1), (.int (0 : Int32)), (.ref b1)])) _
    refine XS.i2c X1.here hx rfl (hb hby at_9) rfl ?_
    exact k
  obtain ⟨cl2, Ar2, q2, S2, NN2, Hs2, G2⟩ := V_b1
  have hin2 : ¬ ((0 : Int32) < 0 ∨ cl2.slots.size ≤ ((0 : Int32)).toNatClampNeg) := inb_of S2 ⟨by decide, by decide⟩
  obtain ⟨T2, h2, X2, e2, W2, st2⟩ := stC X1 hx hZ e1 Ar2 (j := (0 : Int32)) hin2 (g := (mkF m 10 #[.val (.int p1), .val (.int p2), .val (.int p3), .val (.int p4), .val (.int p5), .val (.int p6), .val (.ref b1), .unset, .unset, .unset, .unset] [(.int (p1.toUInt32.toUInt16.toUInt32.toInt32)), (.int (0 : Int32)), (.ref b1)])) rfl rfl (hb hby at_10)
  have V2 : Arv Z h2 b1 k1 .char (4 : Int32) [(.int (nar .char (p1.toUInt32.toUInt16.toUInt32.toInt32))), (.int (0 : Int32)), (.int (0 : Int32)), (.int (0 : Int32))] (.int (0 : Int32)) := Arv.set Ar2 q2 S2 NN2 Hs2 G2 (fits_nar_char _) W2 0 rfl (Nat.le_of_ble_eq_true rfl)
  have N2 := Fr.snoc X2 N0 g_b1
  refine own_step st2 ?_
  show own_Go p e below s _ _ _ (T2.setTop (mkF m 11 #[.val (.int p1), .val (.int p2), .val (.int p3), .val (.int p4), .val (.int p5), .val (.int p6), .val (.ref b1), .unset, .unset, .unset, .unset] []))
  refine own_step (B := T2.setTop (mkF m 16 #[.val (.int p1), .val (.int p2), .val (.int p3), .val (.int p4), .val (.int p5), .val (.int p6), .val (.ref b1), .unset, .unset, .unset, .unset] [(.int (p2.toUInt32.toUInt16.toUInt32.toInt32)), (.int (1 : Int32)), (.ref b1)])) (fun t k => ?_) ?_
  · show Steps p.tables e below (T2.setTop (mkF m 11 #[.val (.int p1), .val (.int p2), .val (.int p3), .val (.int p4), .val (.int p5), .val (.int p6), .val (.ref b1), .unset, .unset, .unset, .unset] [])) _
    refine XS.aload X2.here hx rfl (hb hby at_11) rfl rfl ?_
    show Steps p.tables e below (T2.setTop (mkF m 13 #[.val (.int p1), .val (.int p2), .val (.int p3), .val (.int p4), .val (.int p5), .val (.int p6), .val (.ref b1), .unset, .unset, .unset, .unset] [(.ref b1)])) _
    refine XS.iconst X2.here hx rfl (hb hby at_13) ?_
    show Steps p.tables e below (T2.setTop (mkF m 14 #[.val (.int p1), .val (.int p2), .val (.int p3), .val (.int p4), .val (.int p5), .val (.int p6), .val (.ref b1), .unset, .unset, .unset, .unset] [(.int (1 : Int32)), (.ref b1)])) _
    refine XS.iloadN X2.here hx rfl (hb hby at_14) rfl ?_
    show Steps p.tables e below (T2.setTop (mkF m 15 #[.val (.int p1), .val (.int p2), .val (.int p3), .val (.int p4), .val (.int p5), .val (.int p6), .val (.ref b1), .unset, .unset, .unset, .unset] [(.int p2), (.int (1 : Int32)), (.ref b1)])) _
    refine XS.i2c X2.here hx rfl (hb hby at_15) rfl ?_
    exact k
  obtain ⟨cl3, Ar3, q3, S3, NN3, Hs3, G3⟩ := V2
  have hin3 : ¬ ((1 : Int32) < 0 ∨ cl3.slots.size ≤ ((1 : Int32)).toNatClampNeg) := inb_of S3 ⟨by decide, by decide⟩
  obtain ⟨T3, h3, X3, e3, W3, st3⟩ := stC X2 hx hZ e2 Ar3 (j := (1 : Int32)) hin3 (g := (mkF m 16 #[.val (.int p1), .val (.int p2), .val (.int p3), .val (.int p4), .val (.int p5), .val (.int p6), .val (.ref b1), .unset, .unset, .unset, .unset] [(.int (p2.toUInt32.toUInt16.toUInt32.toInt32)), (.int (1 : Int32)), (.ref b1)])) rfl rfl (hb hby at_16)
  have V3 : Arv Z h3 b1 k1 .char (4 : Int32) [(.int (nar .char (p1.toUInt32.toUInt16.toUInt32.toInt32))), (.int (nar .char (p2.toUInt32.toUInt16.toUInt32.toInt32))), (.int (0 : Int32)), (.int (0 : Int32))] (.int (0 : Int32)) := Arv.set Ar3 q3 S3 NN3 Hs3 G3 (fits_nar_char _) W3 1 rfl (Nat.le_of_ble_eq_true rfl)
  have N3 := Fr.snoc X3 N2 g_b1
  refine own_step st3 ?_
  show own_Go p e below s _ _ _ (T3.setTop (mkF m 17 #[.val (.int p1), .val (.int p2), .val (.int p3), .val (.int p4), .val (.int p5), .val (.int p6), .val (.ref b1), .unset, .unset, .unset, .unset] []))
  refine own_step (B := T3.setTop (mkF m 22 #[.val (.int p1), .val (.int p2), .val (.int p3), .val (.int p4), .val (.int p5), .val (.int p6), .val (.ref b1), .unset, .unset, .unset, .unset] [(.int (p3.toUInt32.toUInt16.toUInt32.toInt32)), (.int (2 : Int32)), (.ref b1)])) (fun t k => ?_) ?_
  · show Steps p.tables e below (T3.setTop (mkF m 17 #[.val (.int p1), .val (.int p2), .val (.int p3), .val (.int p4), .val (.int p5), .val (.int p6), .val (.ref b1), .unset, .unset, .unset, .unset] [])) _
    refine XS.aload X3.here hx rfl (hb hby at_17) rfl rfl ?_
    show Steps p.tables e below (T3.setTop (mkF m 19 #[.val (.int p1), .val (.int p2), .val (.int p3), .val (.int p4), .val (.int p5), .val (.int p6), .val (.ref b1), .unset, .unset, .unset, .unset] [(.ref b1)])) _
    refine XS.iconst X3.here hx rfl (hb hby at_19) ?_
    show Steps p.tables e below (T3.setTop (mkF m 20 #[.val (.int p1), .val (.int p2), .val (.int p3), .val (.int p4), .val (.int p5), .val (.int p6), .val (.ref b1), .unset, .unset, .unset, .unset] [(.int (2 : Int32)), (.ref b1)])) _
    refine XS.iloadN X3.here hx rfl (hb hby at_20) rfl ?_
    show Steps p.tables e below (T3.setTop (mkF m 21 #[.val (.int p1), .val (.int p2), .val (.int p3), .val (.int p4), .val (.int p5), .val (.int p6), .val (.ref b1), .unset, .unset, .unset, .unset] [(.int p3), (.int (2 : Int32)), (.ref b1)])) _
    refine XS.i2c X3.here hx rfl (hb hby at_21) rfl ?_
    exact k
  obtain ⟨cl4, Ar4, q4, S4, NN4, Hs4, G4⟩ := V3
  have hin4 : ¬ ((2 : Int32) < 0 ∨ cl4.slots.size ≤ ((2 : Int32)).toNatClampNeg) := inb_of S4 ⟨by decide, by decide⟩
  obtain ⟨T4, h4, X4, e4, W4, st4⟩ := stC X3 hx hZ e3 Ar4 (j := (2 : Int32)) hin4 (g := (mkF m 22 #[.val (.int p1), .val (.int p2), .val (.int p3), .val (.int p4), .val (.int p5), .val (.int p6), .val (.ref b1), .unset, .unset, .unset, .unset] [(.int (p3.toUInt32.toUInt16.toUInt32.toInt32)), (.int (2 : Int32)), (.ref b1)])) rfl rfl (hb hby at_22)
  have V4 : Arv Z h4 b1 k1 .char (4 : Int32) [(.int (nar .char (p1.toUInt32.toUInt16.toUInt32.toInt32))), (.int (nar .char (p2.toUInt32.toUInt16.toUInt32.toInt32))), (.int (nar .char (p3.toUInt32.toUInt16.toUInt32.toInt32))), (.int (0 : Int32))] (.int (0 : Int32)) := Arv.set Ar4 q4 S4 NN4 Hs4 G4 (fits_nar_char _) W4 2 rfl (Nat.le_of_ble_eq_true rfl)
  have N4 := Fr.snoc X4 N3 g_b1
  refine own_step st4 ?_
  show own_Go p e below s _ _ _ (T4.setTop (mkF m 23 #[.val (.int p1), .val (.int p2), .val (.int p3), .val (.int p4), .val (.int p5), .val (.int p6), .val (.ref b1), .unset, .unset, .unset, .unset] []))
  refine own_step (B := T4.setTop (mkF m 28 #[.val (.int p1), .val (.int p2), .val (.int p3), .val (.int p4), .val (.int p5), .val (.int p6), .val (.ref b1), .unset, .unset, .unset, .unset] [(.int (p4.toUInt32.toUInt16.toUInt32.toInt32)), (.int (3 : Int32)), (.ref b1)])) (fun t k => ?_) ?_
  · show Steps p.tables e below (T4.setTop (mkF m 23 #[.val (.int p1), .val (.int p2), .val (.int p3), .val (.int p4), .val (.int p5), .val (.int p6), .val (.ref b1), .unset, .unset, .unset, .unset] [])) _
    refine XS.aload X4.here hx rfl (hb hby at_23) rfl rfl ?_
    show Steps p.tables e below (T4.setTop (mkF m 25 #[.val (.int p1), .val (.int p2), .val (.int p3), .val (.int p4), .val (.int p5), .val (.int p6), .val (.ref b1), .unset, .unset, .unset, .unset] [(.ref b1)])) _
    refine XS.iconst X4.here hx rfl (hb hby at_25) ?_
    show Steps p.tables e below (T4.setTop (mkF m 26 #[.val (.int p1), .val (.int p2), .val (.int p3), .val (.int p4), .val (.int p5), .val (.int p6), .val (.ref b1), .unset, .unset, .unset, .unset] [(.int (3 : Int32)), (.ref b1)])) _
    refine XS.iloadN X4.here hx rfl (hb hby at_26) rfl ?_
    show Steps p.tables e below (T4.setTop (mkF m 27 #[.val (.int p1), .val (.int p2), .val (.int p3), .val (.int p4), .val (.int p5), .val (.int p6), .val (.ref b1), .unset, .unset, .unset, .unset] [(.int p4), (.int (3 : Int32)), (.ref b1)])) _
    refine XS.i2c X4.here hx rfl (hb hby at_27) rfl ?_
    exact k
  obtain ⟨cl5, Ar5, q5, S5, NN5, Hs5, G5⟩ := V4
  have hin5 : ¬ ((3 : Int32) < 0 ∨ cl5.slots.size ≤ ((3 : Int32)).toNatClampNeg) := inb_of S5 ⟨by decide, by decide⟩
  obtain ⟨T5, h5, X5, e5, W5, st5⟩ := stC X4 hx hZ e4 Ar5 (j := (3 : Int32)) hin5 (g := (mkF m 28 #[.val (.int p1), .val (.int p2), .val (.int p3), .val (.int p4), .val (.int p5), .val (.int p6), .val (.ref b1), .unset, .unset, .unset, .unset] [(.int (p4.toUInt32.toUInt16.toUInt32.toInt32)), (.int (3 : Int32)), (.ref b1)])) rfl rfl (hb hby at_28)
  have V5 : Arv Z h5 b1 k1 .char (4 : Int32) [(.int (nar .char (p1.toUInt32.toUInt16.toUInt32.toInt32))), (.int (nar .char (p2.toUInt32.toUInt16.toUInt32.toInt32))), (.int (nar .char (p3.toUInt32.toUInt16.toUInt32.toInt32))), (.int (nar .char (p4.toUInt32.toUInt16.toUInt32.toInt32)))] (.int (0 : Int32)) := Arv.set Ar5 q5 S5 NN5 Hs5 G5 (fits_nar_char _) W5 3 rfl (Nat.le_of_ble_eq_true rfl)
  have N5 := Fr.snoc X5 N4 g_b1
  refine own_step st5 ?_
  show own_Go p e below s _ _ _ (T5.setTop (mkF m 29 #[.val (.int p1), .val (.int p2), .val (.int p3), .val (.int p4), .val (.int p5), .val (.int p6), .val (.ref b1), .unset, .unset, .unset, .unset] []))
  obtain ⟨cl, Ar, -, S4, N4, Hs, -⟩ := V5
  have hs : cl.slots.size = 4 := S4
  obtain ⟨f, hf, hf0⟩ : ∃ f : Nat → Int32, (∀ j : Nat, j < 4 → cl.slots[j]? = some (.int (f j))) ∧ ∀ j : Nat, 0 ≤ (f j).toInt := by
    refine ⟨fun j => match j with | 0 => (nar .char (p1.toUInt32.toUInt16.toUInt32.toInt32)) | 1 => (nar .char (p2.toUInt32.toUInt16.toUInt32.toInt32)) | 2 => (nar .char (p3.toUInt32.toUInt16.toUInt32.toInt32)) | _ => (nar .char (p4.toUInt32.toUInt16.toUInt32.toInt32)), fun j hj => ?_, fun j => ?_⟩
    · rw [Hs j (by omega)]; match j, hj with | 0, _ => rfl | 1, _ => rfl | 2, _ => rfl | 3, _ => rfl
    · match j with | 0 => exact own_char _ | 1 => exact own_char _ | 2 => exact own_char _ | _ + 3 => exact own_char _
  refine own_step (B := T5.setTop (mkF m 47 #[.val (.int p1), .val (.int p2), .val (.int p3), .val (.int p4), .val (.int p5), .val (.int p6), .val (.ref b1), .val (.int ((p5 &&& (2147483647 : Int32)) - (p5 &&& (2147483647 : Int32)) / (5 : Int32) * (5 : Int32))), .val (.int ((p6 &&& (2147483647 : Int32)) - (p6 &&& (2147483647 : Int32)) / (5 : Int32) * (5 : Int32))), .unset, .unset] [])) (fun t k => ?_) ?_
  · show Steps p.tables e below (T5.setTop (mkF m 29 #[.val (.int p1), .val (.int p2), .val (.int p3), .val (.int p4), .val (.int p5), .val (.int p6), .val (.ref b1), .unset, .unset, .unset, .unset] [])) _
    refine XS.iload X5.here hx rfl (hb hby at_29) rfl ?_
    show Steps p.tables e below (T5.setTop (mkF m 31 #[.val (.int p1), .val (.int p2), .val (.int p3), .val (.int p4), .val (.int p5), .val (.int p6), .val (.ref b1), .unset, .unset, .unset, .unset] [(.int p5)])) _
    refine X5.ldcInt hx hown (mvT hZ (hw _ (List.mem_of_getElem? (i := 1) rfl))) (g := (mkF m 31 #[.val (.int p1), .val (.int p2), .val (.int p3), .val (.int p4), .val (.int p5), .val (.int p6), .val (.ref b1), .unset, .unset, .unset, .unset] [(.int p5)])) rfl (hb hby at_31) _ ?_
    show Steps p.tables e below (T5.setTop (mkF m 33 #[.val (.int p1), .val (.int p2), .val (.int p3), .val (.int p4), .val (.int p5), .val (.int p6), .val (.ref b1), .unset, .unset, .unset, .unset] [(.int (2147483647 : Int32)), (.int p5)])) _
    refine XS.iand X5.here hx rfl (hb hby at_33) rfl ?_
    show Steps p.tables e below (T5.setTop (mkF m 34 #[.val (.int p1), .val (.int p2), .val (.int p3), .val (.int p4), .val (.int p5), .val (.int p6), .val (.ref b1), .unset, .unset, .unset, .unset] [(.int (p5 &&& (2147483647 : Int32)))])) _
    refine XS.iconst X5.here hx rfl (hb hby at_34) ?_
    show Steps p.tables e below (T5.setTop (mkF m 35 #[.val (.int p1), .val (.int p2), .val (.int p3), .val (.int p4), .val (.int p5), .val (.int p6), .val (.ref b1), .unset, .unset, .unset, .unset] [(.int (5 : Int32)), (.int (p5 &&& (2147483647 : Int32)))])) _
    refine XS.irem X5.here hx rfl (hb hby at_35) rfl (by decide) ?_
    show Steps p.tables e below (T5.setTop (mkF m 36 #[.val (.int p1), .val (.int p2), .val (.int p3), .val (.int p4), .val (.int p5), .val (.int p6), .val (.ref b1), .unset, .unset, .unset, .unset] [(.int ((p5 &&& (2147483647 : Int32)) - (p5 &&& (2147483647 : Int32)) / (5 : Int32) * (5 : Int32)))])) _
    refine XS.istore X5.here hx rfl (hb hby at_36) rfl (l' := #[.val (.int p1), .val (.int p2), .val (.int p3), .val (.int p4), .val (.int p5), .val (.int p6), .val (.ref b1), .val (.int ((p5 &&& (2147483647 : Int32)) - (p5 &&& (2147483647 : Int32)) / (5 : Int32) * (5 : Int32))), .unset, .unset, .unset]) rfl ?_
    show Steps p.tables e below (T5.setTop (mkF m 38 #[.val (.int p1), .val (.int p2), .val (.int p3), .val (.int p4), .val (.int p5), .val (.int p6), .val (.ref b1), .val (.int ((p5 &&& (2147483647 : Int32)) - (p5 &&& (2147483647 : Int32)) / (5 : Int32) * (5 : Int32))), .unset, .unset, .unset] [])) _
    refine XS.iload X5.here hx rfl (hb hby at_38) rfl ?_
    show Steps p.tables e below (T5.setTop (mkF m 40 #[.val (.int p1), .val (.int p2), .val (.int p3), .val (.int p4), .val (.int p5), .val (.int p6), .val (.ref b1), .val (.int ((p5 &&& (2147483647 : Int32)) - (p5 &&& (2147483647 : Int32)) / (5 : Int32) * (5 : Int32))), .unset, .unset, .unset] [(.int p6)])) _
    refine X5.ldcInt hx hown (mvT hZ (hw _ (List.mem_of_getElem? (i := 1) rfl))) (g := (mkF m 40 #[.val (.int p1), .val (.int p2), .val (.int p3), .val (.int p4), .val (.int p5), .val (.int p6), .val (.ref b1), .val (.int ((p5 &&& (2147483647 : Int32)) - (p5 &&& (2147483647 : Int32)) / (5 : Int32) * (5 : Int32))), .unset, .unset, .unset] [(.int p6)])) rfl (hb hby at_40) _ ?_
    show Steps p.tables e below (T5.setTop (mkF m 42 #[.val (.int p1), .val (.int p2), .val (.int p3), .val (.int p4), .val (.int p5), .val (.int p6), .val (.ref b1), .val (.int ((p5 &&& (2147483647 : Int32)) - (p5 &&& (2147483647 : Int32)) / (5 : Int32) * (5 : Int32))), .unset, .unset, .unset] [(.int (2147483647 : Int32)), (.int p6)])) _
    refine XS.iand X5.here hx rfl (hb hby at_42) rfl ?_
    show Steps p.tables e below (T5.setTop (mkF m 43 #[.val (.int p1), .val (.int p2), .val (.int p3), .val (.int p4), .val (.int p5), .val (.int p6), .val (.ref b1), .val (.int ((p5 &&& (2147483647 : Int32)) - (p5 &&& (2147483647 : Int32)) / (5 : Int32) * (5 : Int32))), .unset, .unset, .unset] [(.int (p6 &&& (2147483647 : Int32)))])) _
    refine XS.iconst X5.here hx rfl (hb hby at_43) ?_
    show Steps p.tables e below (T5.setTop (mkF m 44 #[.val (.int p1), .val (.int p2), .val (.int p3), .val (.int p4), .val (.int p5), .val (.int p6), .val (.ref b1), .val (.int ((p5 &&& (2147483647 : Int32)) - (p5 &&& (2147483647 : Int32)) / (5 : Int32) * (5 : Int32))), .unset, .unset, .unset] [(.int (5 : Int32)), (.int (p6 &&& (2147483647 : Int32)))])) _
    refine XS.irem X5.here hx rfl (hb hby at_44) rfl (by decide) ?_
    show Steps p.tables e below (T5.setTop (mkF m 45 #[.val (.int p1), .val (.int p2), .val (.int p3), .val (.int p4), .val (.int p5), .val (.int p6), .val (.ref b1), .val (.int ((p5 &&& (2147483647 : Int32)) - (p5 &&& (2147483647 : Int32)) / (5 : Int32) * (5 : Int32))), .unset, .unset, .unset] [(.int ((p6 &&& (2147483647 : Int32)) - (p6 &&& (2147483647 : Int32)) / (5 : Int32) * (5 : Int32)))])) _
    refine XS.istore X5.here hx rfl (hb hby at_45) rfl (l' := #[.val (.int p1), .val (.int p2), .val (.int p3), .val (.int p4), .val (.int p5), .val (.int p6), .val (.ref b1), .val (.int ((p5 &&& (2147483647 : Int32)) - (p5 &&& (2147483647 : Int32)) / (5 : Int32) * (5 : Int32))), .val (.int ((p6 &&& (2147483647 : Int32)) - (p6 &&& (2147483647 : Int32)) / (5 : Int32) * (5 : Int32))), .unset, .unset]) rfl ?_
    exact k
  obtain ⟨n1, h1, e1⟩ := own_mod5 p5
  obtain ⟨n2, h2, e2⟩ := own_mod5 p6
  rw [e1, e2]
  have oo := (((((O0.ext E1).wr W2 g_b1).wr W3 g_b1).wr W4 g_b1).wr W5 g_b1)
  refine own_step (B := T5.setTop (mkF m 51 #[.val (.int p1), .val (.int p2), .val (.int p3), .val (.int p4), .val (.int p5), .val (.int p6), .val (.ref b1), .val (.int (Int32.ofNat n1)), .val (.int (Int32.ofNat n2)), .unset, .unset] [(.int (Int32.ofNat n2)), (.int (Int32.ofNat n1))])) (fun t k => ?_) ?_
  · show Steps p.tables e below (T5.setTop (mkF m 47 #[.val (.int p1), .val (.int p2), .val (.int p3), .val (.int p4), .val (.int p5), .val (.int p6), .val (.ref b1), .val (.int (Int32.ofNat n1)), .val (.int (Int32.ofNat n2)), .unset, .unset] [])) _
    refine XS.iload X5.here hx rfl (hb hby at_47) rfl ?_
    show Steps p.tables e below (T5.setTop (mkF m 49 #[.val (.int p1), .val (.int p2), .val (.int p3), .val (.int p4), .val (.int p5), .val (.int p6), .val (.ref b1), .val (.int (Int32.ofNat n1)), .val (.int (Int32.ofNat n2)), .unset, .unset] [(.int (Int32.ofNat n1))])) _
    refine XS.iload X5.here hx rfl (hb hby at_49) rfl ?_
    exact k
  by_cases hc51 : (Int32.ofNat n1) < (Int32.ofNat n2)
  · refine own_step (B := T5.setTop (mkF m 61 #[.val (.int p1), .val (.int p2), .val (.int p3), .val (.int p4), .val (.int p5), .val (.int p6), .val (.ref b1), .val (.int (Int32.ofNat n1)), .val (.int (Int32.ofNat n2)), .unset, .unset] [(.int (46 : Int32)), (.int (f n1))])) (fun t k => ?_) ?_
    · show Steps p.tables e below (T5.setTop (mkF m 51 #[.val (.int p1), .val (.int p2), .val (.int p3), .val (.int p4), .val (.int p5), .val (.int p6), .val (.ref b1), .val (.int (Int32.ofNat n1)), .val (.int (Int32.ofNat n2)), .unset, .unset] [(.int (Int32.ofNat n2)), (.int (Int32.ofNat n1))])) _
      refine XS.icmpNo X5.here hx rfl (hb hby at_51) rfl (tlt hc51).2.1 ?_
      show Steps p.tables e below (T5.setTop (mkF m 54 #[.val (.int p1), .val (.int p2), .val (.int p3), .val (.int p4), .val (.int p5), .val (.int p6), .val (.ref b1), .val (.int (Int32.ofNat n1)), .val (.int (Int32.ofNat n2)), .unset, .unset] [])) _
      refine XS.aload X5.here hx rfl (hb hby at_54) rfl rfl ?_
      show Steps p.tables e below (T5.setTop (mkF m 56 #[.val (.int p1), .val (.int p2), .val (.int p3), .val (.int p4), .val (.int p5), .val (.int p6), .val (.ref b1), .val (.int (Int32.ofNat n1)), .val (.int (Int32.ofNat n2)), .unset, .unset] [(.ref b1)])) _
      refine XS.iload X5.here hx rfl (hb hby at_56) rfl ?_
      show Steps p.tables e below (T5.setTop (mkF m 58 #[.val (.int p1), .val (.int p2), .val (.int p3), .val (.int p4), .val (.int p5), .val (.int p6), .val (.ref b1), .val (.int (Int32.ofNat n1)), .val (.int (Int32.ofNat n2)), .unset, .unset] [(.int (Int32.ofNat n1)), (.ref b1)])) _
      refine X5.caload hx (j := (Int32.ofNat n1)) (v := (.int (f n1))) (by rw [e5]; exact Ar.1) (State.isArrayOf_alike hZ.alike Ar.2.1) Ar.2.2 (own_in hs (by have := (own_lt (by omega) (by omega)).mp hc51; omega) (by decide)) (by rw [own_nat (by omega)]; exact hf n1 (by have := (own_lt (by omega) (by omega)).mp hc51; omega)) (g := (mkF m 58 #[.val (.int p1), .val (.int p2), .val (.int p3), .val (.int p4), .val (.int p5), .val (.int p6), .val (.ref b1), .val (.int (Int32.ofNat n1)), .val (.int (Int32.ofNat n2)), .unset, .unset] [(.int (Int32.ofNat n1)), (.ref b1)])) rfl rfl (hb hby at_58) _ ?_
      show Steps p.tables e below (T5.setTop (mkF m 59 #[.val (.int p1), .val (.int p2), .val (.int p3), .val (.int p4), .val (.int p5), .val (.int p6), .val (.ref b1), .val (.int (Int32.ofNat n1)), .val (.int (Int32.ofNat n2)), .unset, .unset] [(.int (f n1))])) _
      refine XS.bipush X5.here hx rfl (hb hby at_59) ?_
      exact k
    by_cases hc61 : (f n1) = (46 : Int32)
    · refine own_step (B := T5.setTop (mkF m 139 #[.val (.int p1), .val (.int p2), .val (.int p3), .val (.int p4), .val (.int p5), .val (.int p6), .val (.ref b1), .val (.int (Int32.ofNat n1)), .val (.int (Int32.ofNat n2)), .val (.int (0 : Int32)), .unset] [(.int (Int32.ofNat n2)), (.int (Int32.ofNat n1)), (.ref b1)])) (fun t k => ?_) ?_
      · show Steps p.tables e below (T5.setTop (mkF m 61 #[.val (.int p1), .val (.int p2), .val (.int p3), .val (.int p4), .val (.int p5), .val (.int p6), .val (.ref b1), .val (.int (Int32.ofNat n1)), .val (.int (Int32.ofNat n2)), .unset, .unset] [(.int (46 : Int32)), (.int (f n1))])) _
        refine XS.icmpYes X5.here hx rfl (pc0 := 61) (pc' := 130) rfl (hb hby at_61) rfl (teq hc61).1 (by decide) (by decide) ?_
        show Steps p.tables e below (T5.setTop (mkF m 130 #[.val (.int p1), .val (.int p2), .val (.int p3), .val (.int p4), .val (.int p5), .val (.int p6), .val (.ref b1), .val (.int (Int32.ofNat n1)), .val (.int (Int32.ofNat n2)), .unset, .unset] [])) _
        refine XS.iconst X5.here hx rfl (hb hby at_130) ?_
        show Steps p.tables e below (T5.setTop (mkF m 131 #[.val (.int p1), .val (.int p2), .val (.int p3), .val (.int p4), .val (.int p5), .val (.int p6), .val (.ref b1), .val (.int (Int32.ofNat n1)), .val (.int (Int32.ofNat n2)), .unset, .unset] [(.int (0 : Int32))])) _
        refine XS.istore X5.here hx rfl (hb hby at_131) rfl (l' := #[.val (.int p1), .val (.int p2), .val (.int p3), .val (.int p4), .val (.int p5), .val (.int p6), .val (.ref b1), .val (.int (Int32.ofNat n1)), .val (.int (Int32.ofNat n2)), .val (.int (0 : Int32)), .unset]) rfl ?_
        show Steps p.tables e below (T5.setTop (mkF m 133 #[.val (.int p1), .val (.int p2), .val (.int p3), .val (.int p4), .val (.int p5), .val (.int p6), .val (.ref b1), .val (.int (Int32.ofNat n1)), .val (.int (Int32.ofNat n2)), .val (.int (0 : Int32)), .unset] [])) _
        refine XS.aload X5.here hx rfl (hb hby at_133) rfl rfl ?_
        show Steps p.tables e below (T5.setTop (mkF m 135 #[.val (.int p1), .val (.int p2), .val (.int p3), .val (.int p4), .val (.int p5), .val (.int p6), .val (.ref b1), .val (.int (Int32.ofNat n1)), .val (.int (Int32.ofNat n2)), .val (.int (0 : Int32)), .unset] [(.ref b1)])) _
        refine XS.iload X5.here hx rfl (hb hby at_135) rfl ?_
        show Steps p.tables e below (T5.setTop (mkF m 137 #[.val (.int p1), .val (.int p2), .val (.int p3), .val (.int p4), .val (.int p5), .val (.int p6), .val (.ref b1), .val (.int (Int32.ofNat n1)), .val (.int (Int32.ofNat n2)), .val (.int (0 : Int32)), .unset] [(.int (Int32.ofNat n1)), (.ref b1)])) _
        refine XS.iload X5.here hx rfl (hb hby at_137) rfl ?_
        exact k
      obtain ⟨_, _, ⟨T6, L6, k6, n6⟩, -, X6, ⟨Lc6, hQ6, l6, y6, z6⟩, st6⟩ := Jvm.LawKit.callS X5 hx (y := (⟨"tidemark/Checkpoint", "isPlainName", "([CII)Z"⟩ : MethodName)) hown (mvT hZ (hw _ (List.mem_of_getElem? (i := 9) rfl))) (mvT hZ (hw _ (List.mem_of_getElem? (i := 10) rfl))) (mvT hZ (hw _ (List.mem_of_getElem? (i := 11) rfl))) (mvT hZ (hw _ (List.mem_of_getElem? (i := 12) rfl))) (by decide) (backOf (W := 0) (rm3 l Z a0 hw [] b1 (Int32.ofNat n1) (Int32.ofNat n2) pa clP cl f n1 n2 h5 n0 (Nat.le_trans (Nat.le_trans (Nat.le_trans (Nat.le_trans (Nat.le_trans Z0 E1.1) (Keep.of_wr W2).1) (Keep.of_wr W3).1) (Keep.of_wr W4).1) (Keep.of_wr W5).1) (S_P.ext oo.2) (ArP.ext oo.2) hsP hP Ar hs hf hf0 h1 h2 rfl rfl) hZ (hw _ (List.mem_of_getElem? (i := 12) rfl)) (hw _ (List.mem_of_getElem? (i := 11) rfl)) (by decide) (by decide)) (g := (mkF m 139 #[.val (.int p1), .val (.int p2), .val (.int p3), .val (.int p4), .val (.int p5), .val (.int p6), .val (.ref b1), .val (.int (Int32.ofNat n1)), .val (.int (Int32.ofNat n2)), .val (.int (0 : Int32)), .unset] [(.int (Int32.ofNat n2)), (.int (Int32.ofNat n1)), (.ref b1)])) rfl (by rw [hml]; rfl) (argsL := [(.ref b1), (.int (Int32.ofNat n1)), (.int (Int32.ofNat n2))]) (rest := []) (lenOf pd_4 rfl) rfl (by show 2 * 0 + _ ≤ _; exact Nat.le_of_eq rfl) (hb hby at_139) (fun _ _ => ⟨rfl, e5, (by decide : 1 + 0 ≤ _), (by decide : 4 + 0 ≤ _)⟩)
      dsimp only [Pt.U, Pt.locs, Pt.cells, Pt.slots] at X6 l6 y6 z6 st6 hQ6
      subst l6 y6 z6
      obtain ⟨rfl, N6q, e6⟩ := hQ6
      have N6 := Fr.app N5 N6q
      refine own_step st6 ?_
      show own_Go p e below s _ _ _ (T6.setTop (mkF m 142 #[.val (.int p1), .val (.int p2), .val (.int p3), .val (.int p4), .val (.int p5), .val (.int p6), .val (.ref b1), .val (.int (Int32.ofNat n1)), .val (.int (Int32.ofNat n2)), .val (.int (0 : Int32)), .unset] [(.int (own_b (n1 < n2 ∧ ¬ f n1 = 46 ∧ ¬ f n1 = 45 ∧ own_all f n1 (n2 - n1))))]))
      have hfin : own_b (n1 < n2 ∧ ¬ f n1 = 46 ∧ ¬ f n1 = 45 ∧ own_all f n1 (n2 - n1)) = (0 : Int32) := own_bf (fun q => q.2.1 hc61)
      refine own_step (B := T6.setTop (mkF m 156 #[.val (.int p1), .val (.int p2), .val (.int p3), .val (.int p4), .val (.int p5), .val (.int p6), .val (.ref b1), .val (.int (Int32.ofNat n1)), .val (.int (Int32.ofNat n2)), .val (.int (0 : Int32)), .val (.int (own_b (n1 < n2 ∧ ¬ f n1 = 46 ∧ ¬ f n1 = 45 ∧ own_all f n1 (n2 - n1))))] [(.int (1 : Int32))])) (fun t k => ?_) ?_
      · show Steps p.tables e below (T6.setTop (mkF m 142 #[.val (.int p1), .val (.int p2), .val (.int p3), .val (.int p4), .val (.int p5), .val (.int p6), .val (.ref b1), .val (.int (Int32.ofNat n1)), .val (.int (Int32.ofNat n2)), .val (.int (0 : Int32)), .unset] [(.int (own_b (n1 < n2 ∧ ¬ f n1 = 46 ∧ ¬ f n1 = 45 ∧ own_all f n1 (n2 - n1))))])) _
        refine XS.istore X6.here hx rfl (hb hby at_142) rfl (l' := #[.val (.int p1), .val (.int p2), .val (.int p3), .val (.int p4), .val (.int p5), .val (.int p6), .val (.ref b1), .val (.int (Int32.ofNat n1)), .val (.int (Int32.ofNat n2)), .val (.int (0 : Int32)), .val (.int (own_b (n1 < n2 ∧ ¬ f n1 = 46 ∧ ¬ f n1 = 45 ∧ own_all f n1 (n2 - n1))))]) rfl ?_
        show Steps p.tables e below (T6.setTop (mkF m 144 #[.val (.int p1), .val (.int p2), .val (.int p3), .val (.int p4), .val (.int p5), .val (.int p6), .val (.ref b1), .val (.int (Int32.ofNat n1)), .val (.int (Int32.ofNat n2)), .val (.int (0 : Int32)), .val (.int (own_b (n1 < n2 ∧ ¬ f n1 = 46 ∧ ¬ f n1 = 45 ∧ own_all f n1 (n2 - n1))))] [])) _
        refine XS.iload X6.here hx rfl (hb hby at_144) rfl ?_
        show Steps p.tables e below (T6.setTop (mkF m 146 #[.val (.int p1), .val (.int p2), .val (.int p3), .val (.int p4), .val (.int p5), .val (.int p6), .val (.ref b1), .val (.int (Int32.ofNat n1)), .val (.int (Int32.ofNat n2)), .val (.int (0 : Int32)), .val (.int (own_b (n1 < n2 ∧ ¬ f n1 = 46 ∧ ¬ f n1 = 45 ∧ own_all f n1 (n2 - n1))))] [(.int (own_b (n1 < n2 ∧ ¬ f n1 = 46 ∧ ¬ f n1 = 45 ∧ own_all f n1 (n2 - n1))))])) _
        refine XS.iload X6.here hx rfl (hb hby at_146) rfl ?_
        show Steps p.tables e below (T6.setTop (mkF m 148 #[.val (.int p1), .val (.int p2), .val (.int p3), .val (.int p4), .val (.int p5), .val (.int p6), .val (.ref b1), .val (.int (Int32.ofNat n1)), .val (.int (Int32.ofNat n2)), .val (.int (0 : Int32)), .val (.int (own_b (n1 < n2 ∧ ¬ f n1 = 46 ∧ ¬ f n1 = 45 ∧ own_all f n1 (n2 - n1))))] [(.int (0 : Int32)), (.int (own_b (n1 < n2 ∧ ¬ f n1 = 46 ∧ ¬ f n1 = 45 ∧ own_all f n1 (n2 - n1))))])) _
        refine XS.icmpNo X6.here hx rfl (hb hby at_148) rfl (teq hfin).2 ?_
        show Steps p.tables e below (T6.setTop (mkF m 151 #[.val (.int p1), .val (.int p2), .val (.int p3), .val (.int p4), .val (.int p5), .val (.int p6), .val (.ref b1), .val (.int (Int32.ofNat n1)), .val (.int (Int32.ofNat n2)), .val (.int (0 : Int32)), .val (.int (own_b (n1 < n2 ∧ ¬ f n1 = 46 ∧ ¬ f n1 = 45 ∧ own_all f n1 (n2 - n1))))] [])) _
        refine XS.iconst X6.here hx rfl (hb hby at_151) ?_
        show Steps p.tables e below (T6.setTop (mkF m 152 #[.val (.int p1), .val (.int p2), .val (.int p3), .val (.int p4), .val (.int p5), .val (.int p6), .val (.ref b1), .val (.int (Int32.ofNat n1)), .val (.int (Int32.ofNat n2)), .val (.int (0 : Int32)), .val (.int (own_b (n1 < n2 ∧ ¬ f n1 = 46 ∧ ¬ f n1 = 45 ∧ own_all f n1 (n2 - n1))))] [(.int (1 : Int32))])) _
        refine XS.goto X6.here hx rfl (pc0 := 152) (pc' := 156) rfl (hb hby at_152) (by decide) (by decide) ?_
        exact k
      exact own_retN X6 hx Bd.notSynchronized (t := .boolean) Bd.returns (by simp) (hb hby at_156) ⟨rfl, N6⟩ (by decide) (by decide)
    · refine own_step (B := T5.setTop (mkF m 71 #[.val (.int p1), .val (.int p2), .val (.int p3), .val (.int p4), .val (.int p5), .val (.int p6), .val (.ref b1), .val (.int (Int32.ofNat n1)), .val (.int (Int32.ofNat n2)), .unset, .unset] [(.int (45 : Int32)), (.int (f n1))])) (fun t k => ?_) ?_
      · show Steps p.tables e below (T5.setTop (mkF m 61 #[.val (.int p1), .val (.int p2), .val (.int p3), .val (.int p4), .val (.int p5), .val (.int p6), .val (.ref b1), .val (.int (Int32.ofNat n1)), .val (.int (Int32.ofNat n2)), .unset, .unset] [(.int (46 : Int32)), (.int (f n1))])) _
        refine XS.icmpNo X5.here hx rfl (hb hby at_61) rfl (feq hc61).1 ?_
        show Steps p.tables e below (T5.setTop (mkF m 64 #[.val (.int p1), .val (.int p2), .val (.int p3), .val (.int p4), .val (.int p5), .val (.int p6), .val (.ref b1), .val (.int (Int32.ofNat n1)), .val (.int (Int32.ofNat n2)), .unset, .unset] [])) _
        refine XS.aload X5.here hx rfl (hb hby at_64) rfl rfl ?_
        show Steps p.tables e below (T5.setTop (mkF m 66 #[.val (.int p1), .val (.int p2), .val (.int p3), .val (.int p4), .val (.int p5), .val (.int p6), .val (.ref b1), .val (.int (Int32.ofNat n1)), .val (.int (Int32.ofNat n2)), .unset, .unset] [(.ref b1)])) _
        refine XS.iload X5.here hx rfl (hb hby at_66) rfl ?_
        show Steps p.tables e below (T5.setTop (mkF m 68 #[.val (.int p1), .val (.int p2), .val (.int p3), .val (.int p4), .val (.int p5), .val (.int p6), .val (.ref b1), .val (.int (Int32.ofNat n1)), .val (.int (Int32.ofNat n2)), .unset, .unset] [(.int (Int32.ofNat n1)), (.ref b1)])) _
        refine X5.caload hx (j := (Int32.ofNat n1)) (v := (.int (f n1))) (by rw [e5]; exact Ar.1) (State.isArrayOf_alike hZ.alike Ar.2.1) Ar.2.2 (own_in hs (by have := (own_lt (by omega) (by omega)).mp hc51; omega) (by decide)) (by rw [own_nat (by omega)]; exact hf n1 (by have := (own_lt (by omega) (by omega)).mp hc51; omega)) (g := (mkF m 68 #[.val (.int p1), .val (.int p2), .val (.int p3), .val (.int p4), .val (.int p5), .val (.int p6), .val (.ref b1), .val (.int (Int32.ofNat n1)), .val (.int (Int32.ofNat n2)), .unset, .unset] [(.int (Int32.ofNat n1)), (.ref b1)])) rfl rfl (hb hby at_68) _ ?_
        show Steps p.tables e below (T5.setTop (mkF m 69 #[.val (.int p1), .val (.int p2), .val (.int p3), .val (.int p4), .val (.int p5), .val (.int p6), .val (.ref b1), .val (.int (Int32.ofNat n1)), .val (.int (Int32.ofNat n2)), .unset, .unset] [(.int (f n1))])) _
        refine XS.bipush X5.here hx rfl (hb hby at_69) ?_
        exact k
      by_cases hc71 : (f n1) = (45 : Int32)
      · refine own_step (B := T5.setTop (mkF m 139 #[.val (.int p1), .val (.int p2), .val (.int p3), .val (.int p4), .val (.int p5), .val (.int p6), .val (.ref b1), .val (.int (Int32.ofNat n1)), .val (.int (Int32.ofNat n2)), .val (.int (0 : Int32)), .unset] [(.int (Int32.ofNat n2)), (.int (Int32.ofNat n1)), (.ref b1)])) (fun t k => ?_) ?_
        · show Steps p.tables e below (T5.setTop (mkF m 71 #[.val (.int p1), .val (.int p2), .val (.int p3), .val (.int p4), .val (.int p5), .val (.int p6), .val (.ref b1), .val (.int (Int32.ofNat n1)), .val (.int (Int32.ofNat n2)), .unset, .unset] [(.int (45 : Int32)), (.int (f n1))])) _
          refine XS.icmpYes X5.here hx rfl (pc0 := 71) (pc' := 130) rfl (hb hby at_71) rfl (teq hc71).1 (by decide) (by decide) ?_
          show Steps p.tables e below (T5.setTop (mkF m 130 #[.val (.int p1), .val (.int p2), .val (.int p3), .val (.int p4), .val (.int p5), .val (.int p6), .val (.ref b1), .val (.int (Int32.ofNat n1)), .val (.int (Int32.ofNat n2)), .unset, .unset] [])) _
          refine XS.iconst X5.here hx rfl (hb hby at_130) ?_
          show Steps p.tables e below (T5.setTop (mkF m 131 #[.val (.int p1), .val (.int p2), .val (.int p3), .val (.int p4), .val (.int p5), .val (.int p6), .val (.ref b1), .val (.int (Int32.ofNat n1)), .val (.int (Int32.ofNat n2)), .unset, .unset] [(.int (0 : Int32))])) _
          refine XS.istore X5.here hx rfl (hb hby at_131) rfl (l' := #[.val (.int p1), .val (.int p2), .val (.int p3), .val (.int p4), .val (.int p5), .val (.int p6), .val (.ref b1), .val (.int (Int32.ofNat n1)), .val (.int (Int32.ofNat n2)), .val (.int (0 : Int32)), .unset]) rfl ?_
          show Steps p.tables e below (T5.setTop (mkF m 133 #[.val (.int p1), .val (.int p2), .val (.int p3), .val (.int p4), .val (.int p5), .val (.int p6), .val (.ref b1), .val (.int (Int32.ofNat n1)), .val (.int (Int32.ofNat n2)), .val (.int (0 : Int32)), .unset] [])) _
          refine XS.aload X5.here hx rfl (hb hby at_133) rfl rfl ?_
          show Steps p.tables e below (T5.setTop (mkF m 135 #[.val (.int p1), .val (.int p2), .val (.int p3), .val (.int p4), .val (.int p5), .val (.int p6), .val (.ref b1), .val (.int (Int32.ofNat n1)), .val (.int (Int32.ofNat n2)), .val (.int (0 : Int32)), .unset] [(.ref b1)])) _
          refine XS.iload X5.here hx rfl (hb hby at_135) rfl ?_
          show Steps p.tables e below (T5.setTop (mkF m 137 #[.val (.int p1), .val (.int p2), .val (.int p3), .val (.int p4), .val (.int p5), .val (.int p6), .val (.ref b1), .val (.int (Int32.ofNat n1)), .val (.int (Int32.ofNat n2)), .val (.int (0 : Int32)), .unset] [(.int (Int32.ofNat n1)), (.ref b1)])) _
          refine XS.iload X5.here hx rfl (hb hby at_137) rfl ?_
          exact k
        obtain ⟨_, _, ⟨T7, L7, k7, n7⟩, -, X7, ⟨Lc7, hQ7, l7, y7, z7⟩, st7⟩ := Jvm.LawKit.callS X5 hx (y := (⟨"tidemark/Checkpoint", "isPlainName", "([CII)Z"⟩ : MethodName)) hown (mvT hZ (hw _ (List.mem_of_getElem? (i := 9) rfl))) (mvT hZ (hw _ (List.mem_of_getElem? (i := 10) rfl))) (mvT hZ (hw _ (List.mem_of_getElem? (i := 11) rfl))) (mvT hZ (hw _ (List.mem_of_getElem? (i := 12) rfl))) (by decide) (backOf (W := 0) (rm3 l Z a0 hw [] b1 (Int32.ofNat n1) (Int32.ofNat n2) pa clP cl f n1 n2 h5 n0 (Nat.le_trans (Nat.le_trans (Nat.le_trans (Nat.le_trans (Nat.le_trans Z0 E1.1) (Keep.of_wr W2).1) (Keep.of_wr W3).1) (Keep.of_wr W4).1) (Keep.of_wr W5).1) (S_P.ext oo.2) (ArP.ext oo.2) hsP hP Ar hs hf hf0 h1 h2 rfl rfl) hZ (hw _ (List.mem_of_getElem? (i := 12) rfl)) (hw _ (List.mem_of_getElem? (i := 11) rfl)) (by decide) (by decide)) (g := (mkF m 139 #[.val (.int p1), .val (.int p2), .val (.int p3), .val (.int p4), .val (.int p5), .val (.int p6), .val (.ref b1), .val (.int (Int32.ofNat n1)), .val (.int (Int32.ofNat n2)), .val (.int (0 : Int32)), .unset] [(.int (Int32.ofNat n2)), (.int (Int32.ofNat n1)), (.ref b1)])) rfl (by rw [hml]; rfl) (argsL := [(.ref b1), (.int (Int32.ofNat n1)), (.int (Int32.ofNat n2))]) (rest := []) (lenOf pd_4 rfl) rfl (by show 2 * 0 + _ ≤ _; exact Nat.le_of_eq rfl) (hb hby at_139) (fun _ _ => ⟨rfl, e5, (by decide : 1 + 0 ≤ _), (by decide : 4 + 0 ≤ _)⟩)
        dsimp only [Pt.U, Pt.locs, Pt.cells, Pt.slots] at X7 l7 y7 z7 st7 hQ7
        subst l7 y7 z7
        obtain ⟨rfl, N7q, e7⟩ := hQ7
        have N7 := Fr.app N5 N7q
        refine own_step st7 ?_
        show own_Go p e below s _ _ _ (T7.setTop (mkF m 142 #[.val (.int p1), .val (.int p2), .val (.int p3), .val (.int p4), .val (.int p5), .val (.int p6), .val (.ref b1), .val (.int (Int32.ofNat n1)), .val (.int (Int32.ofNat n2)), .val (.int (0 : Int32)), .unset] [(.int (own_b (n1 < n2 ∧ ¬ f n1 = 46 ∧ ¬ f n1 = 45 ∧ own_all f n1 (n2 - n1))))]))
        have hfin : own_b (n1 < n2 ∧ ¬ f n1 = 46 ∧ ¬ f n1 = 45 ∧ own_all f n1 (n2 - n1)) = (0 : Int32) := own_bf (fun q => q.2.2.1 hc71)
        refine own_step (B := T7.setTop (mkF m 156 #[.val (.int p1), .val (.int p2), .val (.int p3), .val (.int p4), .val (.int p5), .val (.int p6), .val (.ref b1), .val (.int (Int32.ofNat n1)), .val (.int (Int32.ofNat n2)), .val (.int (0 : Int32)), .val (.int (own_b (n1 < n2 ∧ ¬ f n1 = 46 ∧ ¬ f n1 = 45 ∧ own_all f n1 (n2 - n1))))] [(.int (1 : Int32))])) (fun t k => ?_) ?_
        · show Steps p.tables e below (T7.setTop (mkF m 142 #[.val (.int p1), .val (.int p2), .val (.int p3), .val (.int p4), .val (.int p5), .val (.int p6), .val (.ref b1), .val (.int (Int32.ofNat n1)), .val (.int (Int32.ofNat n2)), .val (.int (0 : Int32)), .unset] [(.int (own_b (n1 < n2 ∧ ¬ f n1 = 46 ∧ ¬ f n1 = 45 ∧ own_all f n1 (n2 - n1))))])) _
          refine XS.istore X7.here hx rfl (hb hby at_142) rfl (l' := #[.val (.int p1), .val (.int p2), .val (.int p3), .val (.int p4), .val (.int p5), .val (.int p6), .val (.ref b1), .val (.int (Int32.ofNat n1)), .val (.int (Int32.ofNat n2)), .val (.int (0 : Int32)), .val (.int (own_b (n1 < n2 ∧ ¬ f n1 = 46 ∧ ¬ f n1 = 45 ∧ own_all f n1 (n2 - n1))))]) rfl ?_
          show Steps p.tables e below (T7.setTop (mkF m 144 #[.val (.int p1), .val (.int p2), .val (.int p3), .val (.int p4), .val (.int p5), .val (.int p6), .val (.ref b1), .val (.int (Int32.ofNat n1)), .val (.int (Int32.ofNat n2)), .val (.int (0 : Int32)), .val (.int (own_b (n1 < n2 ∧ ¬ f n1 = 46 ∧ ¬ f n1 = 45 ∧ own_all f n1 (n2 - n1))))] [])) _
          refine XS.iload X7.here hx rfl (hb hby at_144) rfl ?_
          show Steps p.tables e below (T7.setTop (mkF m 146 #[.val (.int p1), .val (.int p2), .val (.int p3), .val (.int p4), .val (.int p5), .val (.int p6), .val (.ref b1), .val (.int (Int32.ofNat n1)), .val (.int (Int32.ofNat n2)), .val (.int (0 : Int32)), .val (.int (own_b (n1 < n2 ∧ ¬ f n1 = 46 ∧ ¬ f n1 = 45 ∧ own_all f n1 (n2 - n1))))] [(.int (own_b (n1 < n2 ∧ ¬ f n1 = 46 ∧ ¬ f n1 = 45 ∧ own_all f n1 (n2 - n1))))])) _
          refine XS.iload X7.here hx rfl (hb hby at_146) rfl ?_
          show Steps p.tables e below (T7.setTop (mkF m 148 #[.val (.int p1), .val (.int p2), .val (.int p3), .val (.int p4), .val (.int p5), .val (.int p6), .val (.ref b1), .val (.int (Int32.ofNat n1)), .val (.int (Int32.ofNat n2)), .val (.int (0 : Int32)), .val (.int (own_b (n1 < n2 ∧ ¬ f n1 = 46 ∧ ¬ f n1 = 45 ∧ own_all f n1 (n2 - n1))))] [(.int (0 : Int32)), (.int (own_b (n1 < n2 ∧ ¬ f n1 = 46 ∧ ¬ f n1 = 45 ∧ own_all f n1 (n2 - n1))))])) _
          refine XS.icmpNo X7.here hx rfl (hb hby at_148) rfl (teq hfin).2 ?_
          show Steps p.tables e below (T7.setTop (mkF m 151 #[.val (.int p1), .val (.int p2), .val (.int p3), .val (.int p4), .val (.int p5), .val (.int p6), .val (.ref b1), .val (.int (Int32.ofNat n1)), .val (.int (Int32.ofNat n2)), .val (.int (0 : Int32)), .val (.int (own_b (n1 < n2 ∧ ¬ f n1 = 46 ∧ ¬ f n1 = 45 ∧ own_all f n1 (n2 - n1))))] [])) _
          refine XS.iconst X7.here hx rfl (hb hby at_151) ?_
          show Steps p.tables e below (T7.setTop (mkF m 152 #[.val (.int p1), .val (.int p2), .val (.int p3), .val (.int p4), .val (.int p5), .val (.int p6), .val (.ref b1), .val (.int (Int32.ofNat n1)), .val (.int (Int32.ofNat n2)), .val (.int (0 : Int32)), .val (.int (own_b (n1 < n2 ∧ ¬ f n1 = 46 ∧ ¬ f n1 = 45 ∧ own_all f n1 (n2 - n1))))] [(.int (1 : Int32))])) _
          refine XS.goto X7.here hx rfl (pc0 := 152) (pc' := 156) rfl (hb hby at_152) (by decide) (by decide) ?_
          exact k
        exact own_retN X7 hx Bd.notSynchronized (t := .boolean) Bd.returns (by simp) (hb hby at_156) ⟨rfl, N7⟩ (by decide) (by decide)
      · refine own_step (B := T5.setTop (mkF m 81 #[.val (.int p1), .val (.int p2), .val (.int p3), .val (.int p4), .val (.int p5), .val (.int p6), .val (.ref b1), .val (.int (Int32.ofNat n1)), .val (.int (Int32.ofNat n2)), .unset, .unset] [(.int (Int32.ofNat n2)), (.int (Int32.ofNat n1)), (.int (0 : Int32)), (.ref b1)])) (fun t k => ?_) ?_
        · show Steps p.tables e below (T5.setTop (mkF m 71 #[.val (.int p1), .val (.int p2), .val (.int p3), .val (.int p4), .val (.int p5), .val (.int p6), .val (.ref b1), .val (.int (Int32.ofNat n1)), .val (.int (Int32.ofNat n2)), .unset, .unset] [(.int (45 : Int32)), (.int (f n1))])) _
          refine XS.icmpNo X5.here hx rfl (hb hby at_71) rfl (feq hc71).1 ?_
          show Steps p.tables e below (T5.setTop (mkF m 74 #[.val (.int p1), .val (.int p2), .val (.int p3), .val (.int p4), .val (.int p5), .val (.int p6), .val (.ref b1), .val (.int (Int32.ofNat n1)), .val (.int (Int32.ofNat n2)), .unset, .unset] [])) _
          refine XS.aload X5.here hx rfl (hb hby at_74) rfl rfl ?_
          show Steps p.tables e below (T5.setTop (mkF m 76 #[.val (.int p1), .val (.int p2), .val (.int p3), .val (.int p4), .val (.int p5), .val (.int p6), .val (.ref b1), .val (.int (Int32.ofNat n1)), .val (.int (Int32.ofNat n2)), .unset, .unset] [(.ref b1)])) _
          refine XS.iconst X5.here hx rfl (hb hby at_76) ?_
          show Steps p.tables e below (T5.setTop (mkF m 77 #[.val (.int p1), .val (.int p2), .val (.int p3), .val (.int p4), .val (.int p5), .val (.int p6), .val (.ref b1), .val (.int (Int32.ofNat n1)), .val (.int (Int32.ofNat n2)), .unset, .unset] [(.int (0 : Int32)), (.ref b1)])) _
          refine XS.iload X5.here hx rfl (hb hby at_77) rfl ?_
          show Steps p.tables e below (T5.setTop (mkF m 79 #[.val (.int p1), .val (.int p2), .val (.int p3), .val (.int p4), .val (.int p5), .val (.int p6), .val (.ref b1), .val (.int (Int32.ofNat n1)), .val (.int (Int32.ofNat n2)), .unset, .unset] [(.int (Int32.ofNat n1)), (.int (0 : Int32)), (.ref b1)])) _
          refine XS.iload X5.here hx rfl (hb hby at_79) rfl ?_
          exact k
        obtain ⟨_, _, ⟨T8, L8, k8, n8⟩, -, X8, ⟨Lc8, hQ8, l8, y8, z8⟩, st8⟩ := Jvm.LawKit.callS X5 hx (y := (⟨"tidemark/CheckpointIsPlainNamePinLaw", "okAt", "([CIII)Z"⟩ : MethodName)) hown (mvT hZ (hw _ (List.mem_of_getElem? (i := 2) rfl))) (mvT hZ (hw _ (List.mem_of_getElem? (i := 3) rfl))) (mvT hZ (hw _ (List.mem_of_getElem? (i := 4) rfl))) (mvT hZ (hw _ (List.mem_of_getElem? (i := 5) rfl))) (by decide) (backOf (W := 0) (rm1 l Z a0 hw [] b1 (0 : Int32) (Int32.ofNat n1) (Int32.ofNat n2) cl (f 0) h5 n0 (Nat.le_trans (Nat.le_trans (Nat.le_trans (Nat.le_trans (Nat.le_trans Z0 E1.1) (Keep.of_wr W2).1) (Keep.of_wr W3).1) (Keep.of_wr W4).1) (Keep.of_wr W5).1) Ar (own_in (n := 0) hs (by decide) (by decide)) (hf 0 (by decide))) hZ (hw _ (List.mem_of_getElem? (i := 5) rfl)) (hw _ (List.mem_of_getElem? (i := 4) rfl)) (by decide) (by decide)) (g := (mkF m 81 #[.val (.int p1), .val (.int p2), .val (.int p3), .val (.int p4), .val (.int p5), .val (.int p6), .val (.ref b1), .val (.int (Int32.ofNat n1)), .val (.int (Int32.ofNat n2)), .unset, .unset] [(.int (Int32.ofNat n2)), (.int (Int32.ofNat n1)), (.int (0 : Int32)), (.ref b1)])) rfl (by rw [hml]; rfl) (argsL := [(.ref b1), (.int (0 : Int32)), (.int (Int32.ofNat n1)), (.int (Int32.ofNat n2))]) (rest := []) (lenOf pd_3 rfl) rfl (by show 2 * 0 + _ ≤ _; exact Nat.le_of_eq rfl) (hb hby at_81) (fun _ _ => ⟨rfl, e5, (by decide : 1 + 0 ≤ _), (by decide : 4 + 0 ≤ _)⟩)
        dsimp only [Pt.U, Pt.locs, Pt.cells, Pt.slots] at X8 l8 y8 z8 st8 hQ8
        subst l8 y8 z8
        obtain ⟨rfl, N8q, e8⟩ := hQ8
        have N8 := Fr.app N5 N8q
        refine own_step st8 ?_
        show own_Go p e below s _ _ _ (T8.setTop (mkF m 84 #[.val (.int p1), .val (.int p2), .val (.int p3), .val (.int p4), .val (.int p5), .val (.int p6), .val (.ref b1), .val (.int (Int32.ofNat n1)), .val (.int (Int32.ofNat n2)), .unset, .unset] [(.int (own_b (own_ok 0 n1 n2 (f 0))))]))
        by_cases hc84 : (own_b (own_ok 0 n1 n2 (f 0))) = (0 : Int32)
        · refine own_step (B := T8.setTop (mkF m 139 #[.val (.int p1), .val (.int p2), .val (.int p3), .val (.int p4), .val (.int p5), .val (.int p6), .val (.ref b1), .val (.int (Int32.ofNat n1)), .val (.int (Int32.ofNat n2)), .val (.int (0 : Int32)), .unset] [(.int (Int32.ofNat n2)), (.int (Int32.ofNat n1)), (.ref b1)])) (fun t k => ?_) ?_
          · show Steps p.tables e below (T8.setTop (mkF m 84 #[.val (.int p1), .val (.int p2), .val (.int p3), .val (.int p4), .val (.int p5), .val (.int p6), .val (.ref b1), .val (.int (Int32.ofNat n1)), .val (.int (Int32.ofNat n2)), .unset, .unset] [(.int (own_b (own_ok 0 n1 n2 (f 0))))])) _
            refine XS.ifYes X8.here hx rfl (pc0 := 84) (pc' := 130) rfl (hb hby at_84) rfl ((if0 _ _).trans (teq hc84).1) (by decide) (by decide) ?_
            show Steps p.tables e below (T8.setTop (mkF m 130 #[.val (.int p1), .val (.int p2), .val (.int p3), .val (.int p4), .val (.int p5), .val (.int p6), .val (.ref b1), .val (.int (Int32.ofNat n1)), .val (.int (Int32.ofNat n2)), .unset, .unset] [])) _
            refine XS.iconst X8.here hx rfl (hb hby at_130) ?_
            show Steps p.tables e below (T8.setTop (mkF m 131 #[.val (.int p1), .val (.int p2), .val (.int p3), .val (.int p4), .val (.int p5), .val (.int p6), .val (.ref b1), .val (.int (Int32.ofNat n1)), .val (.int (Int32.ofNat n2)), .unset, .unset] [(.int (0 : Int32))])) _
            refine XS.istore X8.here hx rfl (hb hby at_131) rfl (l' := #[.val (.int p1), .val (.int p2), .val (.int p3), .val (.int p4), .val (.int p5), .val (.int p6), .val (.ref b1), .val (.int (Int32.ofNat n1)), .val (.int (Int32.ofNat n2)), .val (.int (0 : Int32)), .unset]) rfl ?_
            show Steps p.tables e below (T8.setTop (mkF m 133 #[.val (.int p1), .val (.int p2), .val (.int p3), .val (.int p4), .val (.int p5), .val (.int p6), .val (.ref b1), .val (.int (Int32.ofNat n1)), .val (.int (Int32.ofNat n2)), .val (.int (0 : Int32)), .unset] [])) _
            refine XS.aload X8.here hx rfl (hb hby at_133) rfl rfl ?_
            show Steps p.tables e below (T8.setTop (mkF m 135 #[.val (.int p1), .val (.int p2), .val (.int p3), .val (.int p4), .val (.int p5), .val (.int p6), .val (.ref b1), .val (.int (Int32.ofNat n1)), .val (.int (Int32.ofNat n2)), .val (.int (0 : Int32)), .unset] [(.ref b1)])) _
            refine XS.iload X8.here hx rfl (hb hby at_135) rfl ?_
            show Steps p.tables e below (T8.setTop (mkF m 137 #[.val (.int p1), .val (.int p2), .val (.int p3), .val (.int p4), .val (.int p5), .val (.int p6), .val (.ref b1), .val (.int (Int32.ofNat n1)), .val (.int (Int32.ofNat n2)), .val (.int (0 : Int32)), .unset] [(.int (Int32.ofNat n1)), (.ref b1)])) _
            refine XS.iload X8.here hx rfl (hb hby at_137) rfl ?_
            exact k
          obtain ⟨_, _, ⟨T9, L9, k9, n9⟩, -, X9, ⟨Lc9, hQ9, l9, y9, z9⟩, st9⟩ := Jvm.LawKit.callS X8 hx (y := (⟨"tidemark/Checkpoint", "isPlainName", "([CII)Z"⟩ : MethodName)) hown (mvT hZ (hw _ (List.mem_of_getElem? (i := 9) rfl))) (mvT hZ (hw _ (List.mem_of_getElem? (i := 10) rfl))) (mvT hZ (hw _ (List.mem_of_getElem? (i := 11) rfl))) (mvT hZ (hw _ (List.mem_of_getElem? (i := 12) rfl))) (by decide) (backOf (W := 0) (rm3 l Z a0 hw [] b1 (Int32.ofNat n1) (Int32.ofNat n2) pa clP cl f n1 n2 h5 n0 (Nat.le_trans (Nat.le_trans (Nat.le_trans (Nat.le_trans (Nat.le_trans Z0 E1.1) (Keep.of_wr W2).1) (Keep.of_wr W3).1) (Keep.of_wr W4).1) (Keep.of_wr W5).1) (S_P.ext oo.2) (ArP.ext oo.2) hsP hP Ar hs hf hf0 h1 h2 rfl rfl) hZ (hw _ (List.mem_of_getElem? (i := 12) rfl)) (hw _ (List.mem_of_getElem? (i := 11) rfl)) (by decide) (by decide)) (g := (mkF m 139 #[.val (.int p1), .val (.int p2), .val (.int p3), .val (.int p4), .val (.int p5), .val (.int p6), .val (.ref b1), .val (.int (Int32.ofNat n1)), .val (.int (Int32.ofNat n2)), .val (.int (0 : Int32)), .unset] [(.int (Int32.ofNat n2)), (.int (Int32.ofNat n1)), (.ref b1)])) rfl (by rw [hml]; rfl) (argsL := [(.ref b1), (.int (Int32.ofNat n1)), (.int (Int32.ofNat n2))]) (rest := []) (lenOf pd_4 rfl) rfl (by show 2 * 0 + _ ≤ _; exact Nat.le_of_eq rfl) (hb hby at_139) (fun _ _ => ⟨rfl, e8, (by decide : 1 + 0 ≤ _), (by decide : 4 + 0 ≤ _)⟩)
          dsimp only [Pt.U, Pt.locs, Pt.cells, Pt.slots] at X9 l9 y9 z9 st9 hQ9
          subst l9 y9 z9
          obtain ⟨rfl, N9q, e9⟩ := hQ9
          have N9 := Fr.app N8 N9q
          refine own_step st9 ?_
          show own_Go p e below s _ _ _ (T9.setTop (mkF m 142 #[.val (.int p1), .val (.int p2), .val (.int p3), .val (.int p4), .val (.int p5), .val (.int p6), .val (.ref b1), .val (.int (Int32.ofNat n1)), .val (.int (Int32.ofNat n2)), .val (.int (0 : Int32)), .unset] [(.int (own_b (n1 < n2 ∧ ¬ f n1 = 46 ∧ ¬ f n1 = 45 ∧ own_all f n1 (n2 - n1))))]))
          have hfin : own_b (n1 < n2 ∧ ¬ f n1 = 46 ∧ ¬ f n1 = 45 ∧ own_all f n1 (n2 - n1)) = (0 : Int32) := own_bf (fun q => own_b0.mp hc84 ((own_eqv f h1 h2).mp q.2.2.2).1)
          refine own_step (B := T9.setTop (mkF m 156 #[.val (.int p1), .val (.int p2), .val (.int p3), .val (.int p4), .val (.int p5), .val (.int p6), .val (.ref b1), .val (.int (Int32.ofNat n1)), .val (.int (Int32.ofNat n2)), .val (.int (0 : Int32)), .val (.int (own_b (n1 < n2 ∧ ¬ f n1 = 46 ∧ ¬ f n1 = 45 ∧ own_all f n1 (n2 - n1))))] [(.int (1 : Int32))])) (fun t k => ?_) ?_
          · show Steps p.tables e below (T9.setTop (mkF m 142 #[.val (.int p1), .val (.int p2), .val (.int p3), .val (.int p4), .val (.int p5), .val (.int p6), .val (.ref b1), .val (.int (Int32.ofNat n1)), .val (.int (Int32.ofNat n2)), .val (.int (0 : Int32)), .unset] [(.int (own_b (n1 < n2 ∧ ¬ f n1 = 46 ∧ ¬ f n1 = 45 ∧ own_all f n1 (n2 - n1))))])) _
            refine XS.istore X9.here hx rfl (hb hby at_142) rfl (l' := #[.val (.int p1), .val (.int p2), .val (.int p3), .val (.int p4), .val (.int p5), .val (.int p6), .val (.ref b1), .val (.int (Int32.ofNat n1)), .val (.int (Int32.ofNat n2)), .val (.int (0 : Int32)), .val (.int (own_b (n1 < n2 ∧ ¬ f n1 = 46 ∧ ¬ f n1 = 45 ∧ own_all f n1 (n2 - n1))))]) rfl ?_
            show Steps p.tables e below (T9.setTop (mkF m 144 #[.val (.int p1), .val (.int p2), .val (.int p3), .val (.int p4), .val (.int p5), .val (.int p6), .val (.ref b1), .val (.int (Int32.ofNat n1)), .val (.int (Int32.ofNat n2)), .val (.int (0 : Int32)), .val (.int (own_b (n1 < n2 ∧ ¬ f n1 = 46 ∧ ¬ f n1 = 45 ∧ own_all f n1 (n2 - n1))))] [])) _
            refine XS.iload X9.here hx rfl (hb hby at_144) rfl ?_
            show Steps p.tables e below (T9.setTop (mkF m 146 #[.val (.int p1), .val (.int p2), .val (.int p3), .val (.int p4), .val (.int p5), .val (.int p6), .val (.ref b1), .val (.int (Int32.ofNat n1)), .val (.int (Int32.ofNat n2)), .val (.int (0 : Int32)), .val (.int (own_b (n1 < n2 ∧ ¬ f n1 = 46 ∧ ¬ f n1 = 45 ∧ own_all f n1 (n2 - n1))))] [(.int (own_b (n1 < n2 ∧ ¬ f n1 = 46 ∧ ¬ f n1 = 45 ∧ own_all f n1 (n2 - n1))))])) _
            refine XS.iload X9.here hx rfl (hb hby at_146) rfl ?_
            show Steps p.tables e below (T9.setTop (mkF m 148 #[.val (.int p1), .val (.int p2), .val (.int p3), .val (.int p4), .val (.int p5), .val (.int p6), .val (.ref b1), .val (.int (Int32.ofNat n1)), .val (.int (Int32.ofNat n2)), .val (.int (0 : Int32)), .val (.int (own_b (n1 < n2 ∧ ¬ f n1 = 46 ∧ ¬ f n1 = 45 ∧ own_all f n1 (n2 - n1))))] [(.int (0 : Int32)), (.int (own_b (n1 < n2 ∧ ¬ f n1 = 46 ∧ ¬ f n1 = 45 ∧ own_all f n1 (n2 - n1))))])) _
            refine XS.icmpNo X9.here hx rfl (hb hby at_148) rfl (teq hfin).2 ?_
            show Steps p.tables e below (T9.setTop (mkF m 151 #[.val (.int p1), .val (.int p2), .val (.int p3), .val (.int p4), .val (.int p5), .val (.int p6), .val (.ref b1), .val (.int (Int32.ofNat n1)), .val (.int (Int32.ofNat n2)), .val (.int (0 : Int32)), .val (.int (own_b (n1 < n2 ∧ ¬ f n1 = 46 ∧ ¬ f n1 = 45 ∧ own_all f n1 (n2 - n1))))] [])) _
            refine XS.iconst X9.here hx rfl (hb hby at_151) ?_
            show Steps p.tables e below (T9.setTop (mkF m 152 #[.val (.int p1), .val (.int p2), .val (.int p3), .val (.int p4), .val (.int p5), .val (.int p6), .val (.ref b1), .val (.int (Int32.ofNat n1)), .val (.int (Int32.ofNat n2)), .val (.int (0 : Int32)), .val (.int (own_b (n1 < n2 ∧ ¬ f n1 = 46 ∧ ¬ f n1 = 45 ∧ own_all f n1 (n2 - n1))))] [(.int (1 : Int32))])) _
            refine XS.goto X9.here hx rfl (pc0 := 152) (pc' := 156) rfl (hb hby at_152) (by decide) (by decide) ?_
            exact k
          exact own_retN X9 hx Bd.notSynchronized (t := .boolean) Bd.returns (by simp) (hb hby at_156) ⟨rfl, N9⟩ (by decide) (by decide)
        · refine own_step (B := T8.setTop (mkF m 94 #[.val (.int p1), .val (.int p2), .val (.int p3), .val (.int p4), .val (.int p5), .val (.int p6), .val (.ref b1), .val (.int (Int32.ofNat n1)), .val (.int (Int32.ofNat n2)), .unset, .unset] [(.int (Int32.ofNat n2)), (.int (Int32.ofNat n1)), (.int (1 : Int32)), (.ref b1)])) (fun t k => ?_) ?_
          · show Steps p.tables e below (T8.setTop (mkF m 84 #[.val (.int p1), .val (.int p2), .val (.int p3), .val (.int p4), .val (.int p5), .val (.int p6), .val (.ref b1), .val (.int (Int32.ofNat n1)), .val (.int (Int32.ofNat n2)), .unset, .unset] [(.int (own_b (own_ok 0 n1 n2 (f 0))))])) _
            refine XS.ifNo X8.here hx rfl (hb hby at_84) rfl ((if0 _ _).trans (feq hc84).1) ?_
            show Steps p.tables e below (T8.setTop (mkF m 87 #[.val (.int p1), .val (.int p2), .val (.int p3), .val (.int p4), .val (.int p5), .val (.int p6), .val (.ref b1), .val (.int (Int32.ofNat n1)), .val (.int (Int32.ofNat n2)), .unset, .unset] [])) _
            refine XS.aload X8.here hx rfl (hb hby at_87) rfl rfl ?_
            show Steps p.tables e below (T8.setTop (mkF m 89 #[.val (.int p1), .val (.int p2), .val (.int p3), .val (.int p4), .val (.int p5), .val (.int p6), .val (.ref b1), .val (.int (Int32.ofNat n1)), .val (.int (Int32.ofNat n2)), .unset, .unset] [(.ref b1)])) _
            refine XS.iconst X8.here hx rfl (hb hby at_89) ?_
            show Steps p.tables e below (T8.setTop (mkF m 90 #[.val (.int p1), .val (.int p2), .val (.int p3), .val (.int p4), .val (.int p5), .val (.int p6), .val (.ref b1), .val (.int (Int32.ofNat n1)), .val (.int (Int32.ofNat n2)), .unset, .unset] [(.int (1 : Int32)), (.ref b1)])) _
            refine XS.iload X8.here hx rfl (hb hby at_90) rfl ?_
            show Steps p.tables e below (T8.setTop (mkF m 92 #[.val (.int p1), .val (.int p2), .val (.int p3), .val (.int p4), .val (.int p5), .val (.int p6), .val (.ref b1), .val (.int (Int32.ofNat n1)), .val (.int (Int32.ofNat n2)), .unset, .unset] [(.int (Int32.ofNat n1)), (.int (1 : Int32)), (.ref b1)])) _
            refine XS.iload X8.here hx rfl (hb hby at_92) rfl ?_
            exact k
          obtain ⟨_, _, ⟨T10, L10, k10, n10⟩, -, X10, ⟨Lc10, hQ10, l10, y10, z10⟩, st10⟩ := Jvm.LawKit.callS X8 hx (y := (⟨"tidemark/CheckpointIsPlainNamePinLaw", "okAt", "([CIII)Z"⟩ : MethodName)) hown (mvT hZ (hw _ (List.mem_of_getElem? (i := 2) rfl))) (mvT hZ (hw _ (List.mem_of_getElem? (i := 3) rfl))) (mvT hZ (hw _ (List.mem_of_getElem? (i := 4) rfl))) (mvT hZ (hw _ (List.mem_of_getElem? (i := 5) rfl))) (by decide) (backOf (W := 0) (rm1 l Z a0 hw [] b1 (1 : Int32) (Int32.ofNat n1) (Int32.ofNat n2) cl (f 1) h5 n0 (Nat.le_trans (Nat.le_trans (Nat.le_trans (Nat.le_trans (Nat.le_trans Z0 E1.1) (Keep.of_wr W2).1) (Keep.of_wr W3).1) (Keep.of_wr W4).1) (Keep.of_wr W5).1) Ar (own_in (n := 1) hs (by decide) (by decide)) (hf 1 (by decide))) hZ (hw _ (List.mem_of_getElem? (i := 5) rfl)) (hw _ (List.mem_of_getElem? (i := 4) rfl)) (by decide) (by decide)) (g := (mkF m 94 #[.val (.int p1), .val (.int p2), .val (.int p3), .val (.int p4), .val (.int p5), .val (.int p6), .val (.ref b1), .val (.int (Int32.ofNat n1)), .val (.int (Int32.ofNat n2)), .unset, .unset] [(.int (Int32.ofNat n2)), (.int (Int32.ofNat n1)), (.int (1 : Int32)), (.ref b1)])) rfl (by rw [hml]; rfl) (argsL := [(.ref b1), (.int (1 : Int32)), (.int (Int32.ofNat n1)), (.int (Int32.ofNat n2))]) (rest := []) (lenOf pd_3 rfl) rfl (by show 2 * 0 + _ ≤ _; exact Nat.le_of_eq rfl) (hb hby at_94) (fun _ _ => ⟨rfl, e8, (by decide : 1 + 0 ≤ _), (by decide : 4 + 0 ≤ _)⟩)
          dsimp only [Pt.U, Pt.locs, Pt.cells, Pt.slots] at X10 l10 y10 z10 st10 hQ10
          subst l10 y10 z10
          obtain ⟨rfl, N10q, e10⟩ := hQ10
          have N10 := Fr.app N8 N10q
          refine own_step st10 ?_
          show own_Go p e below s _ _ _ (T10.setTop (mkF m 97 #[.val (.int p1), .val (.int p2), .val (.int p3), .val (.int p4), .val (.int p5), .val (.int p6), .val (.ref b1), .val (.int (Int32.ofNat n1)), .val (.int (Int32.ofNat n2)), .unset, .unset] [(.int (own_b (own_ok 1 n1 n2 (f 1))))]))
          by_cases hc97 : (own_b (own_ok 1 n1 n2 (f 1))) = (0 : Int32)
          · refine own_step (B := T10.setTop (mkF m 139 #[.val (.int p1), .val (.int p2), .val (.int p3), .val (.int p4), .val (.int p5), .val (.int p6), .val (.ref b1), .val (.int (Int32.ofNat n1)), .val (.int (Int32.ofNat n2)), .val (.int (0 : Int32)), .unset] [(.int (Int32.ofNat n2)), (.int (Int32.ofNat n1)), (.ref b1)])) (fun t k => ?_) ?_
            · show Steps p.tables e below (T10.setTop (mkF m 97 #[.val (.int p1), .val (.int p2), .val (.int p3), .val (.int p4), .val (.int p5), .val (.int p6), .val (.ref b1), .val (.int (Int32.ofNat n1)), .val (.int (Int32.ofNat n2)), .unset, .unset] [(.int (own_b (own_ok 1 n1 n2 (f 1))))])) _
              refine XS.ifYes X10.here hx rfl (pc0 := 97) (pc' := 130) rfl (hb hby at_97) rfl ((if0 _ _).trans (teq hc97).1) (by decide) (by decide) ?_
              show Steps p.tables e below (T10.setTop (mkF m 130 #[.val (.int p1), .val (.int p2), .val (.int p3), .val (.int p4), .val (.int p5), .val (.int p6), .val (.ref b1), .val (.int (Int32.ofNat n1)), .val (.int (Int32.ofNat n2)), .unset, .unset] [])) _
              refine XS.iconst X10.here hx rfl (hb hby at_130) ?_
              show Steps p.tables e below (T10.setTop (mkF m 131 #[.val (.int p1), .val (.int p2), .val (.int p3), .val (.int p4), .val (.int p5), .val (.int p6), .val (.ref b1), .val (.int (Int32.ofNat n1)), .val (.int (Int32.ofNat n2)), .unset, .unset] [(.int (0 : Int32))])) _
              refine XS.istore X10.here hx rfl (hb hby at_131) rfl (l' := #[.val (.int p1), .val (.int p2), .val (.int p3), .val (.int p4), .val (.int p5), .val (.int p6), .val (.ref b1), .val (.int (Int32.ofNat n1)), .val (.int (Int32.ofNat n2)), .val (.int (0 : Int32)), .unset]) rfl ?_
              show Steps p.tables e below (T10.setTop (mkF m 133 #[.val (.int p1), .val (.int p2), .val (.int p3), .val (.int p4), .val (.int p5), .val (.int p6), .val (.ref b1), .val (.int (Int32.ofNat n1)), .val (.int (Int32.ofNat n2)), .val (.int (0 : Int32)), .unset] [])) _
              refine XS.aload X10.here hx rfl (hb hby at_133) rfl rfl ?_
              show Steps p.tables e below (T10.setTop (mkF m 135 #[.val (.int p1), .val (.int p2), .val (.int p3), .val (.int p4), .val (.int p5), .val (.int p6), .val (.ref b1), .val (.int (Int32.ofNat n1)), .val (.int (Int32.ofNat n2)), .val (.int (0 : Int32)), .unset] [(.ref b1)])) _
              refine XS.iload X10.here hx rfl (hb hby at_135) rfl ?_
              show Steps p.tables e below (T10.setTop (mkF m 137 #[.val (.int p1), .val (.int p2), .val (.int p3), .val (.int p4), .val (.int p5), .val (.int p6), .val (.ref b1), .val (.int (Int32.ofNat n1)), .val (.int (Int32.ofNat n2)), .val (.int (0 : Int32)), .unset] [(.int (Int32.ofNat n1)), (.ref b1)])) _
              refine XS.iload X10.here hx rfl (hb hby at_137) rfl ?_
              exact k
            obtain ⟨_, _, ⟨T11, L11, k11, n11⟩, -, X11, ⟨Lc11, hQ11, l11, y11, z11⟩, st11⟩ := Jvm.LawKit.callS X10 hx (y := (⟨"tidemark/Checkpoint", "isPlainName", "([CII)Z"⟩ : MethodName)) hown (mvT hZ (hw _ (List.mem_of_getElem? (i := 9) rfl))) (mvT hZ (hw _ (List.mem_of_getElem? (i := 10) rfl))) (mvT hZ (hw _ (List.mem_of_getElem? (i := 11) rfl))) (mvT hZ (hw _ (List.mem_of_getElem? (i := 12) rfl))) (by decide) (backOf (W := 0) (rm3 l Z a0 hw [] b1 (Int32.ofNat n1) (Int32.ofNat n2) pa clP cl f n1 n2 h5 n0 (Nat.le_trans (Nat.le_trans (Nat.le_trans (Nat.le_trans (Nat.le_trans Z0 E1.1) (Keep.of_wr W2).1) (Keep.of_wr W3).1) (Keep.of_wr W4).1) (Keep.of_wr W5).1) (S_P.ext oo.2) (ArP.ext oo.2) hsP hP Ar hs hf hf0 h1 h2 rfl rfl) hZ (hw _ (List.mem_of_getElem? (i := 12) rfl)) (hw _ (List.mem_of_getElem? (i := 11) rfl)) (by decide) (by decide)) (g := (mkF m 139 #[.val (.int p1), .val (.int p2), .val (.int p3), .val (.int p4), .val (.int p5), .val (.int p6), .val (.ref b1), .val (.int (Int32.ofNat n1)), .val (.int (Int32.ofNat n2)), .val (.int (0 : Int32)), .unset] [(.int (Int32.ofNat n2)), (.int (Int32.ofNat n1)), (.ref b1)])) rfl (by rw [hml]; rfl) (argsL := [(.ref b1), (.int (Int32.ofNat n1)), (.int (Int32.ofNat n2))]) (rest := []) (lenOf pd_4 rfl) rfl (by show 2 * 0 + _ ≤ _; exact Nat.le_of_eq rfl) (hb hby at_139) (fun _ _ => ⟨rfl, e10, (by decide : 1 + 0 ≤ _), (by decide : 4 + 0 ≤ _)⟩)
            dsimp only [Pt.U, Pt.locs, Pt.cells, Pt.slots] at X11 l11 y11 z11 st11 hQ11
            subst l11 y11 z11
            obtain ⟨rfl, N11q, e11⟩ := hQ11
            have N11 := Fr.app N10 N11q
            refine own_step st11 ?_
            show own_Go p e below s _ _ _ (T11.setTop (mkF m 142 #[.val (.int p1), .val (.int p2), .val (.int p3), .val (.int p4), .val (.int p5), .val (.int p6), .val (.ref b1), .val (.int (Int32.ofNat n1)), .val (.int (Int32.ofNat n2)), .val (.int (0 : Int32)), .unset] [(.int (own_b (n1 < n2 ∧ ¬ f n1 = 46 ∧ ¬ f n1 = 45 ∧ own_all f n1 (n2 - n1))))]))
            have hfin : own_b (n1 < n2 ∧ ¬ f n1 = 46 ∧ ¬ f n1 = 45 ∧ own_all f n1 (n2 - n1)) = (0 : Int32) := own_bf (fun q => own_b0.mp hc97 ((own_eqv f h1 h2).mp q.2.2.2).2.1)
            refine own_step (B := T11.setTop (mkF m 156 #[.val (.int p1), .val (.int p2), .val (.int p3), .val (.int p4), .val (.int p5), .val (.int p6), .val (.ref b1), .val (.int (Int32.ofNat n1)), .val (.int (Int32.ofNat n2)), .val (.int (0 : Int32)), .val (.int (own_b (n1 < n2 ∧ ¬ f n1 = 46 ∧ ¬ f n1 = 45 ∧ own_all f n1 (n2 - n1))))] [(.int (1 : Int32))])) (fun t k => ?_) ?_
            · show Steps p.tables e below (T11.setTop (mkF m 142 #[.val (.int p1), .val (.int p2), .val (.int p3), .val (.int p4), .val (.int p5), .val (.int p6), .val (.ref b1), .val (.int (Int32.ofNat n1)), .val (.int (Int32.ofNat n2)), .val (.int (0 : Int32)), .unset] [(.int (own_b (n1 < n2 ∧ ¬ f n1 = 46 ∧ ¬ f n1 = 45 ∧ own_all f n1 (n2 - n1))))])) _
              refine XS.istore X11.here hx rfl (hb hby at_142) rfl (l' := #[.val (.int p1), .val (.int p2), .val (.int p3), .val (.int p4), .val (.int p5), .val (.int p6), .val (.ref b1), .val (.int (Int32.ofNat n1)), .val (.int (Int32.ofNat n2)), .val (.int (0 : Int32)), .val (.int (own_b (n1 < n2 ∧ ¬ f n1 = 46 ∧ ¬ f n1 = 45 ∧ own_all f n1 (n2 - n1))))]) rfl ?_
              show Steps p.tables e below (T11.setTop (mkF m 144 #[.val (.int p1), .val (.int p2), .val (.int p3), .val (.int p4), .val (.int p5), .val (.int p6), .val (.ref b1), .val (.int (Int32.ofNat n1)), .val (.int (Int32.ofNat n2)), .val (.int (0 : Int32)), .val (.int (own_b (n1 < n2 ∧ ¬ f n1 = 46 ∧ ¬ f n1 = 45 ∧ own_all f n1 (n2 - n1))))] [])) _
              refine XS.iload X11.here hx rfl (hb hby at_144) rfl ?_
              show Steps p.tables e below (T11.setTop (mkF m 146 #[.val (.int p1), .val (.int p2), .val (.int p3), .val (.int p4), .val (.int p5), .val (.int p6), .val (.ref b1), .val (.int (Int32.ofNat n1)), .val (.int (Int32.ofNat n2)), .val (.int (0 : Int32)), .val (.int (own_b (n1 < n2 ∧ ¬ f n1 = 46 ∧ ¬ f n1 = 45 ∧ own_all f n1 (n2 - n1))))] [(.int (own_b (n1 < n2 ∧ ¬ f n1 = 46 ∧ ¬ f n1 = 45 ∧ own_all f n1 (n2 - n1))))])) _
              refine XS.iload X11.here hx rfl (hb hby at_146) rfl ?_
              show Steps p.tables e below (T11.setTop (mkF m 148 #[.val (.int p1), .val (.int p2), .val (.int p3), .val (.int p4), .val (.int p5), .val (.int p6), .val (.ref b1), .val (.int (Int32.ofNat n1)), .val (.int (Int32.ofNat n2)), .val (.int (0 : Int32)), .val (.int (own_b (n1 < n2 ∧ ¬ f n1 = 46 ∧ ¬ f n1 = 45 ∧ own_all f n1 (n2 - n1))))] [(.int (0 : Int32)), (.int (own_b (n1 < n2 ∧ ¬ f n1 = 46 ∧ ¬ f n1 = 45 ∧ own_all f n1 (n2 - n1))))])) _
              refine XS.icmpNo X11.here hx rfl (hb hby at_148) rfl (teq hfin).2 ?_
              show Steps p.tables e below (T11.setTop (mkF m 151 #[.val (.int p1), .val (.int p2), .val (.int p3), .val (.int p4), .val (.int p5), .val (.int p6), .val (.ref b1), .val (.int (Int32.ofNat n1)), .val (.int (Int32.ofNat n2)), .val (.int (0 : Int32)), .val (.int (own_b (n1 < n2 ∧ ¬ f n1 = 46 ∧ ¬ f n1 = 45 ∧ own_all f n1 (n2 - n1))))] [])) _
              refine XS.iconst X11.here hx rfl (hb hby at_151) ?_
              show Steps p.tables e below (T11.setTop (mkF m 152 #[.val (.int p1), .val (.int p2), .val (.int p3), .val (.int p4), .val (.int p5), .val (.int p6), .val (.ref b1), .val (.int (Int32.ofNat n1)), .val (.int (Int32.ofNat n2)), .val (.int (0 : Int32)), .val (.int (own_b (n1 < n2 ∧ ¬ f n1 = 46 ∧ ¬ f n1 = 45 ∧ own_all f n1 (n2 - n1))))] [(.int (1 : Int32))])) _
              refine XS.goto X11.here hx rfl (pc0 := 152) (pc' := 156) rfl (hb hby at_152) (by decide) (by decide) ?_
              exact k
            exact own_retN X11 hx Bd.notSynchronized (t := .boolean) Bd.returns (by simp) (hb hby at_156) ⟨rfl, N11⟩ (by decide) (by decide)
          · refine own_step (B := T10.setTop (mkF m 107 #[.val (.int p1), .val (.int p2), .val (.int p3), .val (.int p4), .val (.int p5), .val (.int p6), .val (.ref b1), .val (.int (Int32.ofNat n1)), .val (.int (Int32.ofNat n2)), .unset, .unset] [(.int (Int32.ofNat n2)), (.int (Int32.ofNat n1)), (.int (2 : Int32)), (.ref b1)])) (fun t k => ?_) ?_
            · show Steps p.tables e below (T10.setTop (mkF m 97 #[.val (.int p1), .val (.int p2), .val (.int p3), .val (.int p4), .val (.int p5), .val (.int p6), .val (.ref b1), .val (.int (Int32.ofNat n1)), .val (.int (Int32.ofNat n2)), .unset, .unset] [(.int (own_b (own_ok 1 n1 n2 (f 1))))])) _
              refine XS.ifNo X10.here hx rfl (hb hby at_97) rfl ((if0 _ _).trans (feq hc97).1) ?_
              show Steps p.tables e below (T10.setTop (mkF m 100 #[.val (.int p1), .val (.int p2), .val (.int p3), .val (.int p4), .val (.int p5), .val (.int p6), .val (.ref b1), .val (.int (Int32.ofNat n1)), .val (.int (Int32.ofNat n2)), .unset, .unset] [])) _
              refine XS.aload X10.here hx rfl (hb hby at_100) rfl rfl ?_
              show Steps p.tables e below (T10.setTop (mkF m 102 #[.val (.int p1), .val (.int p2), .val (.int p3), .val (.int p4), .val (.int p5), .val (.int p6), .val (.ref b1), .val (.int (Int32.ofNat n1)), .val (.int (Int32.ofNat n2)), .unset, .unset] [(.ref b1)])) _
              refine XS.iconst X10.here hx rfl (hb hby at_102) ?_
              show Steps p.tables e below (T10.setTop (mkF m 103 #[.val (.int p1), .val (.int p2), .val (.int p3), .val (.int p4), .val (.int p5), .val (.int p6), .val (.ref b1), .val (.int (Int32.ofNat n1)), .val (.int (Int32.ofNat n2)), .unset, .unset] [(.int (2 : Int32)), (.ref b1)])) _
              refine XS.iload X10.here hx rfl (hb hby at_103) rfl ?_
              show Steps p.tables e below (T10.setTop (mkF m 105 #[.val (.int p1), .val (.int p2), .val (.int p3), .val (.int p4), .val (.int p5), .val (.int p6), .val (.ref b1), .val (.int (Int32.ofNat n1)), .val (.int (Int32.ofNat n2)), .unset, .unset] [(.int (Int32.ofNat n1)), (.int (2 : Int32)), (.ref b1)])) _
              refine XS.iload X10.here hx rfl (hb hby at_105) rfl ?_
              exact k
            obtain ⟨_, _, ⟨T12, L12, k12, n12⟩, -, X12, ⟨Lc12, hQ12, l12, y12, z12⟩, st12⟩ := Jvm.LawKit.callS X10 hx (y := (⟨"tidemark/CheckpointIsPlainNamePinLaw", "okAt", "([CIII)Z"⟩ : MethodName)) hown (mvT hZ (hw _ (List.mem_of_getElem? (i := 2) rfl))) (mvT hZ (hw _ (List.mem_of_getElem? (i := 3) rfl))) (mvT hZ (hw _ (List.mem_of_getElem? (i := 4) rfl))) (mvT hZ (hw _ (List.mem_of_getElem? (i := 5) rfl))) (by decide) (backOf (W := 0) (rm1 l Z a0 hw [] b1 (2 : Int32) (Int32.ofNat n1) (Int32.ofNat n2) cl (f 2) h5 n0 (Nat.le_trans (Nat.le_trans (Nat.le_trans (Nat.le_trans (Nat.le_trans Z0 E1.1) (Keep.of_wr W2).1) (Keep.of_wr W3).1) (Keep.of_wr W4).1) (Keep.of_wr W5).1) Ar (own_in (n := 2) hs (by decide) (by decide)) (hf 2 (by decide))) hZ (hw _ (List.mem_of_getElem? (i := 5) rfl)) (hw _ (List.mem_of_getElem? (i := 4) rfl)) (by decide) (by decide)) (g := (mkF m 107 #[.val (.int p1), .val (.int p2), .val (.int p3), .val (.int p4), .val (.int p5), .val (.int p6), .val (.ref b1), .val (.int (Int32.ofNat n1)), .val (.int (Int32.ofNat n2)), .unset, .unset] [(.int (Int32.ofNat n2)), (.int (Int32.ofNat n1)), (.int (2 : Int32)), (.ref b1)])) rfl (by rw [hml]; rfl) (argsL := [(.ref b1), (.int (2 : Int32)), (.int (Int32.ofNat n1)), (.int (Int32.ofNat n2))]) (rest := []) (lenOf pd_3 rfl) rfl (by show 2 * 0 + _ ≤ _; exact Nat.le_of_eq rfl) (hb hby at_107) (fun _ _ => ⟨rfl, e10, (by decide : 1 + 0 ≤ _), (by decide : 4 + 0 ≤ _)⟩)
            dsimp only [Pt.U, Pt.locs, Pt.cells, Pt.slots] at X12 l12 y12 z12 st12 hQ12
            subst l12 y12 z12
            obtain ⟨rfl, N12q, e12⟩ := hQ12
            have N12 := Fr.app N10 N12q
            refine own_step st12 ?_
            show own_Go p e below s _ _ _ (T12.setTop (mkF m 110 #[.val (.int p1), .val (.int p2), .val (.int p3), .val (.int p4), .val (.int p5), .val (.int p6), .val (.ref b1), .val (.int (Int32.ofNat n1)), .val (.int (Int32.ofNat n2)), .unset, .unset] [(.int (own_b (own_ok 2 n1 n2 (f 2))))]))
            by_cases hc110 : (own_b (own_ok 2 n1 n2 (f 2))) = (0 : Int32)
            · refine own_step (B := T12.setTop (mkF m 139 #[.val (.int p1), .val (.int p2), .val (.int p3), .val (.int p4), .val (.int p5), .val (.int p6), .val (.ref b1), .val (.int (Int32.ofNat n1)), .val (.int (Int32.ofNat n2)), .val (.int (0 : Int32)), .unset] [(.int (Int32.ofNat n2)), (.int (Int32.ofNat n1)), (.ref b1)])) (fun t k => ?_) ?_
              · show Steps p.tables e below (T12.setTop (mkF m 110 #[.val (.int p1), .val (.int p2), .val (.int p3), .val (.int p4), .val (.int p5), .val (.int p6), .val (.ref b1), .val (.int (Int32.ofNat n1)), .val (.int (Int32.ofNat n2)), .unset, .unset] [(.int (own_b (own_ok 2 n1 n2 (f 2))))])) _
                refine XS.ifYes X12.here hx rfl (pc0 := 110) (pc' := 130) rfl (hb hby at_110) rfl ((if0 _ _).trans (teq hc110).1) (by decide) (by decide) ?_
                show Steps p.tables e below (T12.setTop (mkF m 130 #[.val (.int p1), .val (.int p2), .val (.int p3), .val (.int p4), .val (.int p5), .val (.int p6), .val (.ref b1), .val (.int (Int32.ofNat n1)), .val (.int (Int32.ofNat n2)), .unset, .unset] [])) _
                refine XS.iconst X12.here hx rfl (hb hby at_130) ?_
                show Steps p.tables e below (T12.setTop (mkF m 131 #[.val (.int p1), .val (.int p2), .val (.int p3), .val (.int p4), .val (.int p5), .val (.int p6), .val (.ref b1), .val (.int (Int32.ofNat n1)), .val (.int (Int32.ofNat n2)), .unset, .unset] [(.int (0 : Int32))])) _
                refine XS.istore X12.here hx rfl (hb hby at_131) rfl (l' := #[.val (.int p1), .val (.int p2), .val (.int p3), .val (.int p4), .val (.int p5), .val (.int p6), .val (.ref b1), .val (.int (Int32.ofNat n1)), .val (.int (Int32.ofNat n2)), .val (.int (0 : Int32)), .unset]) rfl ?_
                show Steps p.tables e below (T12.setTop (mkF m 133 #[.val (.int p1), .val (.int p2), .val (.int p3), .val (.int p4), .val (.int p5), .val (.int p6), .val (.ref b1), .val (.int (Int32.ofNat n1)), .val (.int (Int32.ofNat n2)), .val (.int (0 : Int32)), .unset] [])) _
                refine XS.aload X12.here hx rfl (hb hby at_133) rfl rfl ?_
                show Steps p.tables e below (T12.setTop (mkF m 135 #[.val (.int p1), .val (.int p2), .val (.int p3), .val (.int p4), .val (.int p5), .val (.int p6), .val (.ref b1), .val (.int (Int32.ofNat n1)), .val (.int (Int32.ofNat n2)), .val (.int (0 : Int32)), .unset] [(.ref b1)])) _
                refine XS.iload X12.here hx rfl (hb hby at_135) rfl ?_
                show Steps p.tables e below (T12.setTop (mkF m 137 #[.val (.int p1), .val (.int p2), .val (.int p3), .val (.int p4), .val (.int p5), .val (.int p6), .val (.ref b1), .val (.int (Int32.ofNat n1)), .val (.int (Int32.ofNat n2)), .val (.int (0 : Int32)), .unset] [(.int (Int32.ofNat n1)), (.ref b1)])) _
                refine XS.iload X12.here hx rfl (hb hby at_137) rfl ?_
                exact k
              obtain ⟨_, _, ⟨T13, L13, k13, n13⟩, -, X13, ⟨Lc13, hQ13, l13, y13, z13⟩, st13⟩ := Jvm.LawKit.callS X12 hx (y := (⟨"tidemark/Checkpoint", "isPlainName", "([CII)Z"⟩ : MethodName)) hown (mvT hZ (hw _ (List.mem_of_getElem? (i := 9) rfl))) (mvT hZ (hw _ (List.mem_of_getElem? (i := 10) rfl))) (mvT hZ (hw _ (List.mem_of_getElem? (i := 11) rfl))) (mvT hZ (hw _ (List.mem_of_getElem? (i := 12) rfl))) (by decide) (backOf (W := 0) (rm3 l Z a0 hw [] b1 (Int32.ofNat n1) (Int32.ofNat n2) pa clP cl f n1 n2 h5 n0 (Nat.le_trans (Nat.le_trans (Nat.le_trans (Nat.le_trans (Nat.le_trans Z0 E1.1) (Keep.of_wr W2).1) (Keep.of_wr W3).1) (Keep.of_wr W4).1) (Keep.of_wr W5).1) (S_P.ext oo.2) (ArP.ext oo.2) hsP hP Ar hs hf hf0 h1 h2 rfl rfl) hZ (hw _ (List.mem_of_getElem? (i := 12) rfl)) (hw _ (List.mem_of_getElem? (i := 11) rfl)) (by decide) (by decide)) (g := (mkF m 139 #[.val (.int p1), .val (.int p2), .val (.int p3), .val (.int p4), .val (.int p5), .val (.int p6), .val (.ref b1), .val (.int (Int32.ofNat n1)), .val (.int (Int32.ofNat n2)), .val (.int (0 : Int32)), .unset] [(.int (Int32.ofNat n2)), (.int (Int32.ofNat n1)), (.ref b1)])) rfl (by rw [hml]; rfl) (argsL := [(.ref b1), (.int (Int32.ofNat n1)), (.int (Int32.ofNat n2))]) (rest := []) (lenOf pd_4 rfl) rfl (by show 2 * 0 + _ ≤ _; exact Nat.le_of_eq rfl) (hb hby at_139) (fun _ _ => ⟨rfl, e12, (by decide : 1 + 0 ≤ _), (by decide : 4 + 0 ≤ _)⟩)
              dsimp only [Pt.U, Pt.locs, Pt.cells, Pt.slots] at X13 l13 y13 z13 st13 hQ13
              subst l13 y13 z13
              obtain ⟨rfl, N13q, e13⟩ := hQ13
              have N13 := Fr.app N12 N13q
              refine own_step st13 ?_
              show own_Go p e below s _ _ _ (T13.setTop (mkF m 142 #[.val (.int p1), .val (.int p2), .val (.int p3), .val (.int p4), .val (.int p5), .val (.int p6), .val (.ref b1), .val (.int (Int32.ofNat n1)), .val (.int (Int32.ofNat n2)), .val (.int (0 : Int32)), .unset] [(.int (own_b (n1 < n2 ∧ ¬ f n1 = 46 ∧ ¬ f n1 = 45 ∧ own_all f n1 (n2 - n1))))]))
              have hfin : own_b (n1 < n2 ∧ ¬ f n1 = 46 ∧ ¬ f n1 = 45 ∧ own_all f n1 (n2 - n1)) = (0 : Int32) := own_bf (fun q => own_b0.mp hc110 ((own_eqv f h1 h2).mp q.2.2.2).2.2.1)
              refine own_step (B := T13.setTop (mkF m 156 #[.val (.int p1), .val (.int p2), .val (.int p3), .val (.int p4), .val (.int p5), .val (.int p6), .val (.ref b1), .val (.int (Int32.ofNat n1)), .val (.int (Int32.ofNat n2)), .val (.int (0 : Int32)), .val (.int (own_b (n1 < n2 ∧ ¬ f n1 = 46 ∧ ¬ f n1 = 45 ∧ own_all f n1 (n2 - n1))))] [(.int (1 : Int32))])) (fun t k => ?_) ?_
              · show Steps p.tables e below (T13.setTop (mkF m 142 #[.val (.int p1), .val (.int p2), .val (.int p3), .val (.int p4), .val (.int p5), .val (.int p6), .val (.ref b1), .val (.int (Int32.ofNat n1)), .val (.int (Int32.ofNat n2)), .val (.int (0 : Int32)), .unset] [(.int (own_b (n1 < n2 ∧ ¬ f n1 = 46 ∧ ¬ f n1 = 45 ∧ own_all f n1 (n2 - n1))))])) _
                refine XS.istore X13.here hx rfl (hb hby at_142) rfl (l' := #[.val (.int p1), .val (.int p2), .val (.int p3), .val (.int p4), .val (.int p5), .val (.int p6), .val (.ref b1), .val (.int (Int32.ofNat n1)), .val (.int (Int32.ofNat n2)), .val (.int (0 : Int32)), .val (.int (own_b (n1 < n2 ∧ ¬ f n1 = 46 ∧ ¬ f n1 = 45 ∧ own_all f n1 (n2 - n1))))]) rfl ?_
                show Steps p.tables e below (T13.setTop (mkF m 144 #[.val (.int p1), .val (.int p2), .val (.int p3), .val (.int p4), .val (.int p5), .val (.int p6), .val (.ref b1), .val (.int (Int32.ofNat n1)), .val (.int (Int32.ofNat n2)), .val (.int (0 : Int32)), .val (.int (own_b (n1 < n2 ∧ ¬ f n1 = 46 ∧ ¬ f n1 = 45 ∧ own_all f n1 (n2 - n1))))] [])) _
                refine XS.iload X13.here hx rfl (hb hby at_144) rfl ?_
                show Steps p.tables e below (T13.setTop (mkF m 146 #[.val (.int p1), .val (.int p2), .val (.int p3), .val (.int p4), .val (.int p5), .val (.int p6), .val (.ref b1), .val (.int (Int32.ofNat n1)), .val (.int (Int32.ofNat n2)), .val (.int (0 : Int32)), .val (.int (own_b (n1 < n2 ∧ ¬ f n1 = 46 ∧ ¬ f n1 = 45 ∧ own_all f n1 (n2 - n1))))] [(.int (own_b (n1 < n2 ∧ ¬ f n1 = 46 ∧ ¬ f n1 = 45 ∧ own_all f n1 (n2 - n1))))])) _
                refine XS.iload X13.here hx rfl (hb hby at_146) rfl ?_
                show Steps p.tables e below (T13.setTop (mkF m 148 #[.val (.int p1), .val (.int p2), .val (.int p3), .val (.int p4), .val (.int p5), .val (.int p6), .val (.ref b1), .val (.int (Int32.ofNat n1)), .val (.int (Int32.ofNat n2)), .val (.int (0 : Int32)), .val (.int (own_b (n1 < n2 ∧ ¬ f n1 = 46 ∧ ¬ f n1 = 45 ∧ own_all f n1 (n2 - n1))))] [(.int (0 : Int32)), (.int (own_b (n1 < n2 ∧ ¬ f n1 = 46 ∧ ¬ f n1 = 45 ∧ own_all f n1 (n2 - n1))))])) _
                refine XS.icmpNo X13.here hx rfl (hb hby at_148) rfl (teq hfin).2 ?_
                show Steps p.tables e below (T13.setTop (mkF m 151 #[.val (.int p1), .val (.int p2), .val (.int p3), .val (.int p4), .val (.int p5), .val (.int p6), .val (.ref b1), .val (.int (Int32.ofNat n1)), .val (.int (Int32.ofNat n2)), .val (.int (0 : Int32)), .val (.int (own_b (n1 < n2 ∧ ¬ f n1 = 46 ∧ ¬ f n1 = 45 ∧ own_all f n1 (n2 - n1))))] [])) _
                refine XS.iconst X13.here hx rfl (hb hby at_151) ?_
                show Steps p.tables e below (T13.setTop (mkF m 152 #[.val (.int p1), .val (.int p2), .val (.int p3), .val (.int p4), .val (.int p5), .val (.int p6), .val (.ref b1), .val (.int (Int32.ofNat n1)), .val (.int (Int32.ofNat n2)), .val (.int (0 : Int32)), .val (.int (own_b (n1 < n2 ∧ ¬ f n1 = 46 ∧ ¬ f n1 = 45 ∧ own_all f n1 (n2 - n1))))] [(.int (1 : Int32))])) _
                refine XS.goto X13.here hx rfl (pc0 := 152) (pc' := 156) rfl (hb hby at_152) (by decide) (by decide) ?_
                exact k
              exact own_retN X13 hx Bd.notSynchronized (t := .boolean) Bd.returns (by simp) (hb hby at_156) ⟨rfl, N13⟩ (by decide) (by decide)
            · refine own_step (B := T12.setTop (mkF m 120 #[.val (.int p1), .val (.int p2), .val (.int p3), .val (.int p4), .val (.int p5), .val (.int p6), .val (.ref b1), .val (.int (Int32.ofNat n1)), .val (.int (Int32.ofNat n2)), .unset, .unset] [(.int (Int32.ofNat n2)), (.int (Int32.ofNat n1)), (.int (3 : Int32)), (.ref b1)])) (fun t k => ?_) ?_
              · show Steps p.tables e below (T12.setTop (mkF m 110 #[.val (.int p1), .val (.int p2), .val (.int p3), .val (.int p4), .val (.int p5), .val (.int p6), .val (.ref b1), .val (.int (Int32.ofNat n1)), .val (.int (Int32.ofNat n2)), .unset, .unset] [(.int (own_b (own_ok 2 n1 n2 (f 2))))])) _
                refine XS.ifNo X12.here hx rfl (hb hby at_110) rfl ((if0 _ _).trans (feq hc110).1) ?_
                show Steps p.tables e below (T12.setTop (mkF m 113 #[.val (.int p1), .val (.int p2), .val (.int p3), .val (.int p4), .val (.int p5), .val (.int p6), .val (.ref b1), .val (.int (Int32.ofNat n1)), .val (.int (Int32.ofNat n2)), .unset, .unset] [])) _
                refine XS.aload X12.here hx rfl (hb hby at_113) rfl rfl ?_
                show Steps p.tables e below (T12.setTop (mkF m 115 #[.val (.int p1), .val (.int p2), .val (.int p3), .val (.int p4), .val (.int p5), .val (.int p6), .val (.ref b1), .val (.int (Int32.ofNat n1)), .val (.int (Int32.ofNat n2)), .unset, .unset] [(.ref b1)])) _
                refine XS.iconst X12.here hx rfl (hb hby at_115) ?_
                show Steps p.tables e below (T12.setTop (mkF m 116 #[.val (.int p1), .val (.int p2), .val (.int p3), .val (.int p4), .val (.int p5), .val (.int p6), .val (.ref b1), .val (.int (Int32.ofNat n1)), .val (.int (Int32.ofNat n2)), .unset, .unset] [(.int (3 : Int32)), (.ref b1)])) _
                refine XS.iload X12.here hx rfl (hb hby at_116) rfl ?_
                show Steps p.tables e below (T12.setTop (mkF m 118 #[.val (.int p1), .val (.int p2), .val (.int p3), .val (.int p4), .val (.int p5), .val (.int p6), .val (.ref b1), .val (.int (Int32.ofNat n1)), .val (.int (Int32.ofNat n2)), .unset, .unset] [(.int (Int32.ofNat n1)), (.int (3 : Int32)), (.ref b1)])) _
                refine XS.iload X12.here hx rfl (hb hby at_118) rfl ?_
                exact k
              obtain ⟨_, _, ⟨T14, L14, k14, n14⟩, -, X14, ⟨Lc14, hQ14, l14, y14, z14⟩, st14⟩ := Jvm.LawKit.callS X12 hx (y := (⟨"tidemark/CheckpointIsPlainNamePinLaw", "okAt", "([CIII)Z"⟩ : MethodName)) hown (mvT hZ (hw _ (List.mem_of_getElem? (i := 2) rfl))) (mvT hZ (hw _ (List.mem_of_getElem? (i := 3) rfl))) (mvT hZ (hw _ (List.mem_of_getElem? (i := 4) rfl))) (mvT hZ (hw _ (List.mem_of_getElem? (i := 5) rfl))) (by decide) (backOf (W := 0) (rm1 l Z a0 hw [] b1 (3 : Int32) (Int32.ofNat n1) (Int32.ofNat n2) cl (f 3) h5 n0 (Nat.le_trans (Nat.le_trans (Nat.le_trans (Nat.le_trans (Nat.le_trans Z0 E1.1) (Keep.of_wr W2).1) (Keep.of_wr W3).1) (Keep.of_wr W4).1) (Keep.of_wr W5).1) Ar (own_in (n := 3) hs (by decide) (by decide)) (hf 3 (by decide))) hZ (hw _ (List.mem_of_getElem? (i := 5) rfl)) (hw _ (List.mem_of_getElem? (i := 4) rfl)) (by decide) (by decide)) (g := (mkF m 120 #[.val (.int p1), .val (.int p2), .val (.int p3), .val (.int p4), .val (.int p5), .val (.int p6), .val (.ref b1), .val (.int (Int32.ofNat n1)), .val (.int (Int32.ofNat n2)), .unset, .unset] [(.int (Int32.ofNat n2)), (.int (Int32.ofNat n1)), (.int (3 : Int32)), (.ref b1)])) rfl (by rw [hml]; rfl) (argsL := [(.ref b1), (.int (3 : Int32)), (.int (Int32.ofNat n1)), (.int (Int32.ofNat n2))]) (rest := []) (lenOf pd_3 rfl) rfl (by show 2 * 0 + _ ≤ _; exact Nat.le_of_eq rfl) (hb hby at_120) (fun _ _ => ⟨rfl, e12, (by decide : 1 + 0 ≤ _), (by decide : 4 + 0 ≤ _)⟩)
              dsimp only [Pt.U, Pt.locs, Pt.cells, Pt.slots] at X14 l14 y14 z14 st14 hQ14
              subst l14 y14 z14
              obtain ⟨rfl, N14q, e14⟩ := hQ14
              have N14 := Fr.app N12 N14q
              refine own_step st14 ?_
              show own_Go p e below s _ _ _ (T14.setTop (mkF m 123 #[.val (.int p1), .val (.int p2), .val (.int p3), .val (.int p4), .val (.int p5), .val (.int p6), .val (.ref b1), .val (.int (Int32.ofNat n1)), .val (.int (Int32.ofNat n2)), .unset, .unset] [(.int (own_b (own_ok 3 n1 n2 (f 3))))]))
              by_cases hc123 : (own_b (own_ok 3 n1 n2 (f 3))) = (0 : Int32)
              · refine own_step (B := T14.setTop (mkF m 139 #[.val (.int p1), .val (.int p2), .val (.int p3), .val (.int p4), .val (.int p5), .val (.int p6), .val (.ref b1), .val (.int (Int32.ofNat n1)), .val (.int (Int32.ofNat n2)), .val (.int (0 : Int32)), .unset] [(.int (Int32.ofNat n2)), (.int (Int32.ofNat n1)), (.ref b1)])) (fun t k => ?_) ?_
                · show Steps p.tables e below (T14.setTop (mkF m 123 #[.val (.int p1), .val (.int p2), .val (.int p3), .val (.int p4), .val (.int p5), .val (.int p6), .val (.ref b1), .val (.int (Int32.ofNat n1)), .val (.int (Int32.ofNat n2)), .unset, .unset] [(.int (own_b (own_ok 3 n1 n2 (f 3))))])) _
                  refine XS.ifYes X14.here hx rfl (pc0 := 123) (pc' := 130) rfl (hb hby at_123) rfl ((if0 _ _).trans (teq hc123).1) (by decide) (by decide) ?_
                  show Steps p.tables e below (T14.setTop (mkF m 130 #[.val (.int p1), .val (.int p2), .val (.int p3), .val (.int p4), .val (.int p5), .val (.int p6), .val (.ref b1), .val (.int (Int32.ofNat n1)), .val (.int (Int32.ofNat n2)), .unset, .unset] [])) _
                  refine XS.iconst X14.here hx rfl (hb hby at_130) ?_
                  show Steps p.tables e below (T14.setTop (mkF m 131 #[.val (.int p1), .val (.int p2), .val (.int p3), .val (.int p4), .val (.int p5), .val (.int p6), .val (.ref b1), .val (.int (Int32.ofNat n1)), .val (.int (Int32.ofNat n2)), .unset, .unset] [(.int (0 : Int32))])) _
                  refine XS.istore X14.here hx rfl (hb hby at_131) rfl (l' := #[.val (.int p1), .val (.int p2), .val (.int p3), .val (.int p4), .val (.int p5), .val (.int p6), .val (.ref b1), .val (.int (Int32.ofNat n1)), .val (.int (Int32.ofNat n2)), .val (.int (0 : Int32)), .unset]) rfl ?_
                  show Steps p.tables e below (T14.setTop (mkF m 133 #[.val (.int p1), .val (.int p2), .val (.int p3), .val (.int p4), .val (.int p5), .val (.int p6), .val (.ref b1), .val (.int (Int32.ofNat n1)), .val (.int (Int32.ofNat n2)), .val (.int (0 : Int32)), .unset] [])) _
                  refine XS.aload X14.here hx rfl (hb hby at_133) rfl rfl ?_
                  show Steps p.tables e below (T14.setTop (mkF m 135 #[.val (.int p1), .val (.int p2), .val (.int p3), .val (.int p4), .val (.int p5), .val (.int p6), .val (.ref b1), .val (.int (Int32.ofNat n1)), .val (.int (Int32.ofNat n2)), .val (.int (0 : Int32)), .unset] [(.ref b1)])) _
                  refine XS.iload X14.here hx rfl (hb hby at_135) rfl ?_
                  show Steps p.tables e below (T14.setTop (mkF m 137 #[.val (.int p1), .val (.int p2), .val (.int p3), .val (.int p4), .val (.int p5), .val (.int p6), .val (.ref b1), .val (.int (Int32.ofNat n1)), .val (.int (Int32.ofNat n2)), .val (.int (0 : Int32)), .unset] [(.int (Int32.ofNat n1)), (.ref b1)])) _
                  refine XS.iload X14.here hx rfl (hb hby at_137) rfl ?_
                  exact k
                obtain ⟨_, _, ⟨T15, L15, k15, n15⟩, -, X15, ⟨Lc15, hQ15, l15, y15, z15⟩, st15⟩ := Jvm.LawKit.callS X14 hx (y := (⟨"tidemark/Checkpoint", "isPlainName", "([CII)Z"⟩ : MethodName)) hown (mvT hZ (hw _ (List.mem_of_getElem? (i := 9) rfl))) (mvT hZ (hw _ (List.mem_of_getElem? (i := 10) rfl))) (mvT hZ (hw _ (List.mem_of_getElem? (i := 11) rfl))) (mvT hZ (hw _ (List.mem_of_getElem? (i := 12) rfl))) (by decide) (backOf (W := 0) (rm3 l Z a0 hw [] b1 (Int32.ofNat n1) (Int32.ofNat n2) pa clP cl f n1 n2 h5 n0 (Nat.le_trans (Nat.le_trans (Nat.le_trans (Nat.le_trans (Nat.le_trans Z0 E1.1) (Keep.of_wr W2).1) (Keep.of_wr W3).1) (Keep.of_wr W4).1) (Keep.of_wr W5).1) (S_P.ext oo.2) (ArP.ext oo.2) hsP hP Ar hs hf hf0 h1 h2 rfl rfl) hZ (hw _ (List.mem_of_getElem? (i := 12) rfl)) (hw _ (List.mem_of_getElem? (i := 11) rfl)) (by decide) (by decide)) (g := (mkF m 139 #[.val (.int p1), .val (.int p2), .val (.int p3), .val (.int p4), .val (.int p5), .val (.int p6), .val (.ref b1), .val (.int (Int32.ofNat n1)), .val (.int (Int32.ofNat n2)), .val (.int (0 : Int32)), .unset] [(.int (Int32.ofNat n2)), (.int (Int32.ofNat n1)), (.ref b1)])) rfl (by rw [hml]; rfl) (argsL := [(.ref b1), (.int (Int32.ofNat n1)), (.int (Int32.ofNat n2))]) (rest := []) (lenOf pd_4 rfl) rfl (by show 2 * 0 + _ ≤ _; exact Nat.le_of_eq rfl) (hb hby at_139) (fun _ _ => ⟨rfl, e14, (by decide : 1 + 0 ≤ _), (by decide : 4 + 0 ≤ _)⟩)
                dsimp only [Pt.U, Pt.locs, Pt.cells, Pt.slots] at X15 l15 y15 z15 st15 hQ15
                subst l15 y15 z15
                obtain ⟨rfl, N15q, e15⟩ := hQ15
                have N15 := Fr.app N14 N15q
                refine own_step st15 ?_
                show own_Go p e below s _ _ _ (T15.setTop (mkF m 142 #[.val (.int p1), .val (.int p2), .val (.int p3), .val (.int p4), .val (.int p5), .val (.int p6), .val (.ref b1), .val (.int (Int32.ofNat n1)), .val (.int (Int32.ofNat n2)), .val (.int (0 : Int32)), .unset] [(.int (own_b (n1 < n2 ∧ ¬ f n1 = 46 ∧ ¬ f n1 = 45 ∧ own_all f n1 (n2 - n1))))]))
                have hfin : own_b (n1 < n2 ∧ ¬ f n1 = 46 ∧ ¬ f n1 = 45 ∧ own_all f n1 (n2 - n1)) = (0 : Int32) := own_bf (fun q => own_b0.mp hc123 ((own_eqv f h1 h2).mp q.2.2.2).2.2.2)
                refine own_step (B := T15.setTop (mkF m 156 #[.val (.int p1), .val (.int p2), .val (.int p3), .val (.int p4), .val (.int p5), .val (.int p6), .val (.ref b1), .val (.int (Int32.ofNat n1)), .val (.int (Int32.ofNat n2)), .val (.int (0 : Int32)), .val (.int (own_b (n1 < n2 ∧ ¬ f n1 = 46 ∧ ¬ f n1 = 45 ∧ own_all f n1 (n2 - n1))))] [(.int (1 : Int32))])) (fun t k => ?_) ?_
                · show Steps p.tables e below (T15.setTop (mkF m 142 #[.val (.int p1), .val (.int p2), .val (.int p3), .val (.int p4), .val (.int p5), .val (.int p6), .val (.ref b1), .val (.int (Int32.ofNat n1)), .val (.int (Int32.ofNat n2)), .val (.int (0 : Int32)), .unset] [(.int (own_b (n1 < n2 ∧ ¬ f n1 = 46 ∧ ¬ f n1 = 45 ∧ own_all f n1 (n2 - n1))))])) _
                  refine XS.istore X15.here hx rfl (hb hby at_142) rfl (l' := #[.val (.int p1), .val (.int p2), .val (.int p3), .val (.int p4), .val (.int p5), .val (.int p6), .val (.ref b1), .val (.int (Int32.ofNat n1)), .val (.int (Int32.ofNat n2)), .val (.int (0 : Int32)), .val (.int (own_b (n1 < n2 ∧ ¬ f n1 = 46 ∧ ¬ f n1 = 45 ∧ own_all f n1 (n2 - n1))))]) rfl ?_
                  show Steps p.tables e below (T15.setTop (mkF m 144 #[.val (.int p1), .val (.int p2), .val (.int p3), .val (.int p4), .val (.int p5), .val (.int p6), .val (.ref b1), .val (.int (Int32.ofNat n1)), .val (.int (Int32.ofNat n2)), .val (.int (0 : Int32)), .val (.int (own_b (n1 < n2 ∧ ¬ f n1 = 46 ∧ ¬ f n1 = 45 ∧ own_all f n1 (n2 - n1))))] [])) _
                  refine XS.iload X15.here hx rfl (hb hby at_144) rfl ?_
                  show Steps p.tables e below (T15.setTop (mkF m 146 #[.val (.int p1), .val (.int p2), .val (.int p3), .val (.int p4), .val (.int p5), .val (.int p6), .val (.ref b1), .val (.int (Int32.ofNat n1)), .val (.int (Int32.ofNat n2)), .val (.int (0 : Int32)), .val (.int (own_b (n1 < n2 ∧ ¬ f n1 = 46 ∧ ¬ f n1 = 45 ∧ own_all f n1 (n2 - n1))))] [(.int (own_b (n1 < n2 ∧ ¬ f n1 = 46 ∧ ¬ f n1 = 45 ∧ own_all f n1 (n2 - n1))))])) _
                  refine XS.iload X15.here hx rfl (hb hby at_146) rfl ?_
                  show Steps p.tables e below (T15.setTop (mkF m 148 #[.val (.int p1), .val (.int p2), .val (.int p3), .val (.int p4), .val (.int p5), .val (.int p6), .val (.ref b1), .val (.int (Int32.ofNat n1)), .val (.int (Int32.ofNat n2)), .val (.int (0 : Int32)), .val (.int (own_b (n1 < n2 ∧ ¬ f n1 = 46 ∧ ¬ f n1 = 45 ∧ own_all f n1 (n2 - n1))))] [(.int (0 : Int32)), (.int (own_b (n1 < n2 ∧ ¬ f n1 = 46 ∧ ¬ f n1 = 45 ∧ own_all f n1 (n2 - n1))))])) _
                  refine XS.icmpNo X15.here hx rfl (hb hby at_148) rfl (teq hfin).2 ?_
                  show Steps p.tables e below (T15.setTop (mkF m 151 #[.val (.int p1), .val (.int p2), .val (.int p3), .val (.int p4), .val (.int p5), .val (.int p6), .val (.ref b1), .val (.int (Int32.ofNat n1)), .val (.int (Int32.ofNat n2)), .val (.int (0 : Int32)), .val (.int (own_b (n1 < n2 ∧ ¬ f n1 = 46 ∧ ¬ f n1 = 45 ∧ own_all f n1 (n2 - n1))))] [])) _
                  refine XS.iconst X15.here hx rfl (hb hby at_151) ?_
                  show Steps p.tables e below (T15.setTop (mkF m 152 #[.val (.int p1), .val (.int p2), .val (.int p3), .val (.int p4), .val (.int p5), .val (.int p6), .val (.ref b1), .val (.int (Int32.ofNat n1)), .val (.int (Int32.ofNat n2)), .val (.int (0 : Int32)), .val (.int (own_b (n1 < n2 ∧ ¬ f n1 = 46 ∧ ¬ f n1 = 45 ∧ own_all f n1 (n2 - n1))))] [(.int (1 : Int32))])) _
                  refine XS.goto X15.here hx rfl (pc0 := 152) (pc' := 156) rfl (hb hby at_152) (by decide) (by decide) ?_
                  exact k
                exact own_retN X15 hx Bd.notSynchronized (t := .boolean) Bd.returns (by simp) (hb hby at_156) ⟨rfl, N15⟩ (by decide) (by decide)
              · refine own_step (B := T14.setTop (mkF m 139 #[.val (.int p1), .val (.int p2), .val (.int p3), .val (.int p4), .val (.int p5), .val (.int p6), .val (.ref b1), .val (.int (Int32.ofNat n1)), .val (.int (Int32.ofNat n2)), .val (.int (1 : Int32)), .unset] [(.int (Int32.ofNat n2)), (.int (Int32.ofNat n1)), (.ref b1)])) (fun t k => ?_) ?_
                · show Steps p.tables e below (T14.setTop (mkF m 123 #[.val (.int p1), .val (.int p2), .val (.int p3), .val (.int p4), .val (.int p5), .val (.int p6), .val (.ref b1), .val (.int (Int32.ofNat n1)), .val (.int (Int32.ofNat n2)), .unset, .unset] [(.int (own_b (own_ok 3 n1 n2 (f 3))))])) _
                  refine XS.ifNo X14.here hx rfl (hb hby at_123) rfl ((if0 _ _).trans (feq hc123).1) ?_
                  show Steps p.tables e below (T14.setTop (mkF m 126 #[.val (.int p1), .val (.int p2), .val (.int p3), .val (.int p4), .val (.int p5), .val (.int p6), .val (.ref b1), .val (.int (Int32.ofNat n1)), .val (.int (Int32.ofNat n2)), .unset, .unset] [])) _
                  refine XS.iconst X14.here hx rfl (hb hby at_126) ?_
                  show Steps p.tables e below (T14.setTop (mkF m 127 #[.val (.int p1), .val (.int p2), .val (.int p3), .val (.int p4), .val (.int p5), .val (.int p6), .val (.ref b1), .val (.int (Int32.ofNat n1)), .val (.int (Int32.ofNat n2)), .unset, .unset] [(.int (1 : Int32))])) _
                  refine XS.goto X14.here hx rfl (pc0 := 127) (pc' := 131) rfl (hb hby at_127) (by decide) (by decide) ?_
                  show Steps p.tables e below (T14.setTop (mkF m 131 #[.val (.int p1), .val (.int p2), .val (.int p3), .val (.int p4), .val (.int p5), .val (.int p6), .val (.ref b1), .val (.int (Int32.ofNat n1)), .val (.int (Int32.ofNat n2)), .unset, .unset] [(.int (1 : Int32))])) _
                  refine XS.istore X14.here hx rfl (hb hby at_131) rfl (l' := #[.val (.int p1), .val (.int p2), .val (.int p3), .val (.int p4), .val (.int p5), .val (.int p6), .val (.ref b1), .val (.int (Int32.ofNat n1)), .val (.int (Int32.ofNat n2)), .val (.int (1 : Int32)), .unset]) rfl ?_
                  show Steps p.tables e below (T14.setTop (mkF m 133 #[.val (.int p1), .val (.int p2), .val (.int p3), .val (.int p4), .val (.int p5), .val (.int p6), .val (.ref b1), .val (.int (Int32.ofNat n1)), .val (.int (Int32.ofNat n2)), .val (.int (1 : Int32)), .unset] [])) _
                  refine XS.aload X14.here hx rfl (hb hby at_133) rfl rfl ?_
                  show Steps p.tables e below (T14.setTop (mkF m 135 #[.val (.int p1), .val (.int p2), .val (.int p3), .val (.int p4), .val (.int p5), .val (.int p6), .val (.ref b1), .val (.int (Int32.ofNat n1)), .val (.int (Int32.ofNat n2)), .val (.int (1 : Int32)), .unset] [(.ref b1)])) _
                  refine XS.iload X14.here hx rfl (hb hby at_135) rfl ?_
                  show Steps p.tables e below (T14.setTop (mkF m 137 #[.val (.int p1), .val (.int p2), .val (.int p3), .val (.int p4), .val (.int p5), .val (.int p6), .val (.ref b1), .val (.int (Int32.ofNat n1)), .val (.int (Int32.ofNat n2)), .val (.int (1 : Int32)), .unset] [(.int (Int32.ofNat n1)), (.ref b1)])) _
                  refine XS.iload X14.here hx rfl (hb hby at_137) rfl ?_
                  exact k
                obtain ⟨_, _, ⟨T16, L16, k16, n16⟩, -, X16, ⟨Lc16, hQ16, l16, y16, z16⟩, st16⟩ := Jvm.LawKit.callS X14 hx (y := (⟨"tidemark/Checkpoint", "isPlainName", "([CII)Z"⟩ : MethodName)) hown (mvT hZ (hw _ (List.mem_of_getElem? (i := 9) rfl))) (mvT hZ (hw _ (List.mem_of_getElem? (i := 10) rfl))) (mvT hZ (hw _ (List.mem_of_getElem? (i := 11) rfl))) (mvT hZ (hw _ (List.mem_of_getElem? (i := 12) rfl))) (by decide) (backOf (W := 0) (rm3 l Z a0 hw [] b1 (Int32.ofNat n1) (Int32.ofNat n2) pa clP cl f n1 n2 h5 n0 (Nat.le_trans (Nat.le_trans (Nat.le_trans (Nat.le_trans (Nat.le_trans Z0 E1.1) (Keep.of_wr W2).1) (Keep.of_wr W3).1) (Keep.of_wr W4).1) (Keep.of_wr W5).1) (S_P.ext oo.2) (ArP.ext oo.2) hsP hP Ar hs hf hf0 h1 h2 rfl rfl) hZ (hw _ (List.mem_of_getElem? (i := 12) rfl)) (hw _ (List.mem_of_getElem? (i := 11) rfl)) (by decide) (by decide)) (g := (mkF m 139 #[.val (.int p1), .val (.int p2), .val (.int p3), .val (.int p4), .val (.int p5), .val (.int p6), .val (.ref b1), .val (.int (Int32.ofNat n1)), .val (.int (Int32.ofNat n2)), .val (.int (1 : Int32)), .unset] [(.int (Int32.ofNat n2)), (.int (Int32.ofNat n1)), (.ref b1)])) rfl (by rw [hml]; rfl) (argsL := [(.ref b1), (.int (Int32.ofNat n1)), (.int (Int32.ofNat n2))]) (rest := []) (lenOf pd_4 rfl) rfl (by show 2 * 0 + _ ≤ _; exact Nat.le_of_eq rfl) (hb hby at_139) (fun _ _ => ⟨rfl, e14, (by decide : 1 + 0 ≤ _), (by decide : 4 + 0 ≤ _)⟩)
                dsimp only [Pt.U, Pt.locs, Pt.cells, Pt.slots] at X16 l16 y16 z16 st16 hQ16
                subst l16 y16 z16
                obtain ⟨rfl, N16q, e16⟩ := hQ16
                have N16 := Fr.app N14 N16q
                refine own_step st16 ?_
                show own_Go p e below s _ _ _ (T16.setTop (mkF m 142 #[.val (.int p1), .val (.int p2), .val (.int p3), .val (.int p4), .val (.int p5), .val (.int p6), .val (.ref b1), .val (.int (Int32.ofNat n1)), .val (.int (Int32.ofNat n2)), .val (.int (1 : Int32)), .unset] [(.int (own_b (n1 < n2 ∧ ¬ f n1 = 46 ∧ ¬ f n1 = 45 ∧ own_all f n1 (n2 - n1))))]))
                have hfin : own_b (n1 < n2 ∧ ¬ f n1 = 46 ∧ ¬ f n1 = 45 ∧ own_all f n1 (n2 - n1)) = (1 : Int32) := own_bt ⟨(own_lt (by omega) (by omega)).mp hc51, hc61, hc71, (own_eqv f h1 h2).mpr ⟨Classical.byContradiction fun q => hc84 (own_b0.mpr q), Classical.byContradiction fun q => hc97 (own_b0.mpr q), Classical.byContradiction fun q => hc110 (own_b0.mpr q), Classical.byContradiction fun q => hc123 (own_b0.mpr q)⟩⟩
                refine own_step (B := T16.setTop (mkF m 156 #[.val (.int p1), .val (.int p2), .val (.int p3), .val (.int p4), .val (.int p5), .val (.int p6), .val (.ref b1), .val (.int (Int32.ofNat n1)), .val (.int (Int32.ofNat n2)), .val (.int (1 : Int32)), .val (.int (own_b (n1 < n2 ∧ ¬ f n1 = 46 ∧ ¬ f n1 = 45 ∧ own_all f n1 (n2 - n1))))] [(.int (1 : Int32))])) (fun t k => ?_) ?_
                · show Steps p.tables e below (T16.setTop (mkF m 142 #[.val (.int p1), .val (.int p2), .val (.int p3), .val (.int p4), .val (.int p5), .val (.int p6), .val (.ref b1), .val (.int (Int32.ofNat n1)), .val (.int (Int32.ofNat n2)), .val (.int (1 : Int32)), .unset] [(.int (own_b (n1 < n2 ∧ ¬ f n1 = 46 ∧ ¬ f n1 = 45 ∧ own_all f n1 (n2 - n1))))])) _
                  refine XS.istore X16.here hx rfl (hb hby at_142) rfl (l' := #[.val (.int p1), .val (.int p2), .val (.int p3), .val (.int p4), .val (.int p5), .val (.int p6), .val (.ref b1), .val (.int (Int32.ofNat n1)), .val (.int (Int32.ofNat n2)), .val (.int (1 : Int32)), .val (.int (own_b (n1 < n2 ∧ ¬ f n1 = 46 ∧ ¬ f n1 = 45 ∧ own_all f n1 (n2 - n1))))]) rfl ?_
                  show Steps p.tables e below (T16.setTop (mkF m 144 #[.val (.int p1), .val (.int p2), .val (.int p3), .val (.int p4), .val (.int p5), .val (.int p6), .val (.ref b1), .val (.int (Int32.ofNat n1)), .val (.int (Int32.ofNat n2)), .val (.int (1 : Int32)), .val (.int (own_b (n1 < n2 ∧ ¬ f n1 = 46 ∧ ¬ f n1 = 45 ∧ own_all f n1 (n2 - n1))))] [])) _
                  refine XS.iload X16.here hx rfl (hb hby at_144) rfl ?_
                  show Steps p.tables e below (T16.setTop (mkF m 146 #[.val (.int p1), .val (.int p2), .val (.int p3), .val (.int p4), .val (.int p5), .val (.int p6), .val (.ref b1), .val (.int (Int32.ofNat n1)), .val (.int (Int32.ofNat n2)), .val (.int (1 : Int32)), .val (.int (own_b (n1 < n2 ∧ ¬ f n1 = 46 ∧ ¬ f n1 = 45 ∧ own_all f n1 (n2 - n1))))] [(.int (own_b (n1 < n2 ∧ ¬ f n1 = 46 ∧ ¬ f n1 = 45 ∧ own_all f n1 (n2 - n1))))])) _
                  refine XS.iload X16.here hx rfl (hb hby at_146) rfl ?_
                  show Steps p.tables e below (T16.setTop (mkF m 148 #[.val (.int p1), .val (.int p2), .val (.int p3), .val (.int p4), .val (.int p5), .val (.int p6), .val (.ref b1), .val (.int (Int32.ofNat n1)), .val (.int (Int32.ofNat n2)), .val (.int (1 : Int32)), .val (.int (own_b (n1 < n2 ∧ ¬ f n1 = 46 ∧ ¬ f n1 = 45 ∧ own_all f n1 (n2 - n1))))] [(.int (1 : Int32)), (.int (own_b (n1 < n2 ∧ ¬ f n1 = 46 ∧ ¬ f n1 = 45 ∧ own_all f n1 (n2 - n1))))])) _
                  refine XS.icmpNo X16.here hx rfl (hb hby at_148) rfl (teq hfin).2 ?_
                  show Steps p.tables e below (T16.setTop (mkF m 151 #[.val (.int p1), .val (.int p2), .val (.int p3), .val (.int p4), .val (.int p5), .val (.int p6), .val (.ref b1), .val (.int (Int32.ofNat n1)), .val (.int (Int32.ofNat n2)), .val (.int (1 : Int32)), .val (.int (own_b (n1 < n2 ∧ ¬ f n1 = 46 ∧ ¬ f n1 = 45 ∧ own_all f n1 (n2 - n1))))] [])) _
                  refine XS.iconst X16.here hx rfl (hb hby at_151) ?_
                  show Steps p.tables e below (T16.setTop (mkF m 152 #[.val (.int p1), .val (.int p2), .val (.int p3), .val (.int p4), .val (.int p5), .val (.int p6), .val (.ref b1), .val (.int (Int32.ofNat n1)), .val (.int (Int32.ofNat n2)), .val (.int (1 : Int32)), .val (.int (own_b (n1 < n2 ∧ ¬ f n1 = 46 ∧ ¬ f n1 = 45 ∧ own_all f n1 (n2 - n1))))] [(.int (1 : Int32))])) _
                  refine XS.goto X16.here hx rfl (pc0 := 152) (pc' := 156) rfl (hb hby at_152) (by decide) (by decide) ?_
                  exact k
                exact own_retN X16 hx Bd.notSynchronized (t := .boolean) Bd.returns (by simp) (hb hby at_156) ⟨rfl, N16⟩ (by decide) (by decide)
  · refine own_step (B := T5.setTop (mkF m 139 #[.val (.int p1), .val (.int p2), .val (.int p3), .val (.int p4), .val (.int p5), .val (.int p6), .val (.ref b1), .val (.int (Int32.ofNat n1)), .val (.int (Int32.ofNat n2)), .val (.int (0 : Int32)), .unset] [(.int (Int32.ofNat n2)), (.int (Int32.ofNat n1)), (.ref b1)])) (fun t k => ?_) ?_
    · show Steps p.tables e below (T5.setTop (mkF m 51 #[.val (.int p1), .val (.int p2), .val (.int p3), .val (.int p4), .val (.int p5), .val (.int p6), .val (.ref b1), .val (.int (Int32.ofNat n1)), .val (.int (Int32.ofNat n2)), .unset, .unset] [(.int (Int32.ofNat n2)), (.int (Int32.ofNat n1))])) _
      refine XS.icmpYes X5.here hx rfl (pc0 := 51) (pc' := 130) rfl (hb hby at_51) rfl (flt hc51).2.1 (by decide) (by decide) ?_
      show Steps p.tables e below (T5.setTop (mkF m 130 #[.val (.int p1), .val (.int p2), .val (.int p3), .val (.int p4), .val (.int p5), .val (.int p6), .val (.ref b1), .val (.int (Int32.ofNat n1)), .val (.int (Int32.ofNat n2)), .unset, .unset] [])) _
      refine XS.iconst X5.here hx rfl (hb hby at_130) ?_
      show Steps p.tables e below (T5.setTop (mkF m 131 #[.val (.int p1), .val (.int p2), .val (.int p3), .val (.int p4), .val (.int p5), .val (.int p6), .val (.ref b1), .val (.int (Int32.ofNat n1)), .val (.int (Int32.ofNat n2)), .unset, .unset] [(.int (0 : Int32))])) _
      refine XS.istore X5.here hx rfl (hb hby at_131) rfl (l' := #[.val (.int p1), .val (.int p2), .val (.int p3), .val (.int p4), .val (.int p5), .val (.int p6), .val (.ref b1), .val (.int (Int32.ofNat n1)), .val (.int (Int32.ofNat n2)), .val (.int (0 : Int32)), .unset]) rfl ?_
      show Steps p.tables e below (T5.setTop (mkF m 133 #[.val (.int p1), .val (.int p2), .val (.int p3), .val (.int p4), .val (.int p5), .val (.int p6), .val (.ref b1), .val (.int (Int32.ofNat n1)), .val (.int (Int32.ofNat n2)), .val (.int (0 : Int32)), .unset] [])) _
      refine XS.aload X5.here hx rfl (hb hby at_133) rfl rfl ?_
      show Steps p.tables e below (T5.setTop (mkF m 135 #[.val (.int p1), .val (.int p2), .val (.int p3), .val (.int p4), .val (.int p5), .val (.int p6), .val (.ref b1), .val (.int (Int32.ofNat n1)), .val (.int (Int32.ofNat n2)), .val (.int (0 : Int32)), .unset] [(.ref b1)])) _
      refine XS.iload X5.here hx rfl (hb hby at_135) rfl ?_
      show Steps p.tables e below (T5.setTop (mkF m 137 #[.val (.int p1), .val (.int p2), .val (.int p3), .val (.int p4), .val (.int p5), .val (.int p6), .val (.ref b1), .val (.int (Int32.ofNat n1)), .val (.int (Int32.ofNat n2)), .val (.int (0 : Int32)), .unset] [(.int (Int32.ofNat n1)), (.ref b1)])) _
      refine XS.iload X5.here hx rfl (hb hby at_137) rfl ?_
      exact k
    obtain ⟨_, _, ⟨T17, L17, k17, n17⟩, -, X17, ⟨Lc17, hQ17, l17, y17, z17⟩, st17⟩ := Jvm.LawKit.callS X5 hx (y := (⟨"tidemark/Checkpoint", "isPlainName", "([CII)Z"⟩ : MethodName)) hown (mvT hZ (hw _ (List.mem_of_getElem? (i := 9) rfl))) (mvT hZ (hw _ (List.mem_of_getElem? (i := 10) rfl))) (mvT hZ (hw _ (List.mem_of_getElem? (i := 11) rfl))) (mvT hZ (hw _ (List.mem_of_getElem? (i := 12) rfl))) (by decide) (backOf (W := 0) (rm3 l Z a0 hw [] b1 (Int32.ofNat n1) (Int32.ofNat n2) pa clP cl f n1 n2 h5 n0 (Nat.le_trans (Nat.le_trans (Nat.le_trans (Nat.le_trans (Nat.le_trans Z0 E1.1) (Keep.of_wr W2).1) (Keep.of_wr W3).1) (Keep.of_wr W4).1) (Keep.of_wr W5).1) (S_P.ext oo.2) (ArP.ext oo.2) hsP hP Ar hs hf hf0 h1 h2 rfl rfl) hZ (hw _ (List.mem_of_getElem? (i := 12) rfl)) (hw _ (List.mem_of_getElem? (i := 11) rfl)) (by decide) (by decide)) (g := (mkF m 139 #[.val (.int p1), .val (.int p2), .val (.int p3), .val (.int p4), .val (.int p5), .val (.int p6), .val (.ref b1), .val (.int (Int32.ofNat n1)), .val (.int (Int32.ofNat n2)), .val (.int (0 : Int32)), .unset] [(.int (Int32.ofNat n2)), (.int (Int32.ofNat n1)), (.ref b1)])) rfl (by rw [hml]; rfl) (argsL := [(.ref b1), (.int (Int32.ofNat n1)), (.int (Int32.ofNat n2))]) (rest := []) (lenOf pd_4 rfl) rfl (by show 2 * 0 + _ ≤ _; exact Nat.le_of_eq rfl) (hb hby at_139) (fun _ _ => ⟨rfl, e5, (by decide : 1 + 0 ≤ _), (by decide : 4 + 0 ≤ _)⟩)
    dsimp only [Pt.U, Pt.locs, Pt.cells, Pt.slots] at X17 l17 y17 z17 st17 hQ17
    subst l17 y17 z17
    obtain ⟨rfl, N17q, e17⟩ := hQ17
    have N17 := Fr.app N5 N17q
    refine own_step st17 ?_
    show own_Go p e below s _ _ _ (T17.setTop (mkF m 142 #[.val (.int p1), .val (.int p2), .val (.int p3), .val (.int p4), .val (.int p5), .val (.int p6), .val (.ref b1), .val (.int (Int32.ofNat n1)), .val (.int (Int32.ofNat n2)), .val (.int (0 : Int32)), .unset] [(.int (own_b (n1 < n2 ∧ ¬ f n1 = 46 ∧ ¬ f n1 = 45 ∧ own_all f n1 (n2 - n1))))]))
    have hfin : own_b (n1 < n2 ∧ ¬ f n1 = 46 ∧ ¬ f n1 = 45 ∧ own_all f n1 (n2 - n1)) = (0 : Int32) := own_bf (fun q => hc51 ((own_lt (by omega) (by omega)).mpr q.1))
    refine own_step (B := T17.setTop (mkF m 156 #[.val (.int p1), .val (.int p2), .val (.int p3), .val (.int p4), .val (.int p5), .val (.int p6), .val (.ref b1), .val (.int (Int32.ofNat n1)), .val (.int (Int32.ofNat n2)), .val (.int (0 : Int32)), .val (.int (own_b (n1 < n2 ∧ ¬ f n1 = 46 ∧ ¬ f n1 = 45 ∧ own_all f n1 (n2 - n1))))] [(.int (1 : Int32))])) (fun t k => ?_) ?_
    · show Steps p.tables e below (T17.setTop (mkF m 142 #[.val (.int p1), .val (.int p2), .val (.int p3), .val (.int p4), .val (.int p5), .val (.int p6), .val (.ref b1), .val (.int (Int32.ofNat n1)), .val (.int (Int32.ofNat n2)), .val (.int (0 : Int32)), .unset] [(.int (own_b (n1 < n2 ∧ ¬ f n1 = 46 ∧ ¬ f n1 = 45 ∧ own_all f n1 (n2 - n1))))])) _
      refine XS.istore X17.here hx rfl (hb hby at_142) rfl (l' := #[.val (.int p1), .val (.int p2), .val (.int p3), .val (.int p4), .val (.int p5), .val (.int p6), .val (.ref b1), .val (.int (Int32.ofNat n1)), .val (.int (Int32.ofNat n2)), .val (.int (0 : Int32)), .val (.int (own_b (n1 < n2 ∧ ¬ f n1 = 46 ∧ ¬ f n1 = 45 ∧ own_all f n1 (n2 - n1))))]) rfl ?_
      show Steps p.tables e below (T17.setTop (mkF m 144 #[.val (.int p1), .val (.int p2), .val (.int p3), .val (.int p4), .val (.int p5), .val (.int p6), .val (.ref b1), .val (.int (Int32.ofNat n1)), .val (.int (Int32.ofNat n2)), .val (.int (0 : Int32)), .val (.int (own_b (n1 < n2 ∧ ¬ f n1 = 46 ∧ ¬ f n1 = 45 ∧ own_all f n1 (n2 - n1))))] [])) _
      refine XS.iload X17.here hx rfl (hb hby at_144) rfl ?_
      show Steps p.tables e below (T17.setTop (mkF m 146 #[.val (.int p1), .val (.int p2), .val (.int p3), .val (.int p4), .val (.int p5), .val (.int p6), .val (.ref b1), .val (.int (Int32.ofNat n1)), .val (.int (Int32.ofNat n2)), .val (.int (0 : Int32)), .val (.int (own_b (n1 < n2 ∧ ¬ f n1 = 46 ∧ ¬ f n1 = 45 ∧ own_all f n1 (n2 - n1))))] [(.int (own_b (n1 < n2 ∧ ¬ f n1 = 46 ∧ ¬ f n1 = 45 ∧ own_all f n1 (n2 - n1))))])) _
      refine XS.iload X17.here hx rfl (hb hby at_146) rfl ?_
      show Steps p.tables e below (T17.setTop (mkF m 148 #[.val (.int p1), .val (.int p2), .val (.int p3), .val (.int p4), .val (.int p5), .val (.int p6), .val (.ref b1), .val (.int (Int32.ofNat n1)), .val (.int (Int32.ofNat n2)), .val (.int (0 : Int32)), .val (.int (own_b (n1 < n2 ∧ ¬ f n1 = 46 ∧ ¬ f n1 = 45 ∧ own_all f n1 (n2 - n1))))] [(.int (0 : Int32)), (.int (own_b (n1 < n2 ∧ ¬ f n1 = 46 ∧ ¬ f n1 = 45 ∧ own_all f n1 (n2 - n1))))])) _
      refine XS.icmpNo X17.here hx rfl (hb hby at_148) rfl (teq hfin).2 ?_
      show Steps p.tables e below (T17.setTop (mkF m 151 #[.val (.int p1), .val (.int p2), .val (.int p3), .val (.int p4), .val (.int p5), .val (.int p6), .val (.ref b1), .val (.int (Int32.ofNat n1)), .val (.int (Int32.ofNat n2)), .val (.int (0 : Int32)), .val (.int (own_b (n1 < n2 ∧ ¬ f n1 = 46 ∧ ¬ f n1 = 45 ∧ own_all f n1 (n2 - n1))))] [])) _
      refine XS.iconst X17.here hx rfl (hb hby at_151) ?_
      show Steps p.tables e below (T17.setTop (mkF m 152 #[.val (.int p1), .val (.int p2), .val (.int p3), .val (.int p4), .val (.int p5), .val (.int p6), .val (.ref b1), .val (.int (Int32.ofNat n1)), .val (.int (Int32.ofNat n2)), .val (.int (0 : Int32)), .val (.int (own_b (n1 < n2 ∧ ¬ f n1 = 46 ∧ ¬ f n1 = 45 ∧ own_all f n1 (n2 - n1))))] [(.int (1 : Int32))])) _
      refine XS.goto X17.here hx rfl (pc0 := 152) (pc' := 156) rfl (hb hby at_152) (by decide) (by decide) ?_
      exact k
    exact own_retN X17 hx Bd.notSynchronized (t := .boolean) Bd.returns (by simp) (hb hby at_156) ⟨rfl, N17⟩ (by decide) (by decide)
theorem own_sidx {args : Array Value} {s : State} {C n d : String} {v : Value} (h : (Term.static C n d).eval args s none [] s = some v) : ∀ idx, (Term.static C n d).eval args s none idx s = some v := fun idx => by simpa [Term.eval] using h
theorem own_ix0 {args : Array Value} {s : State} {j : Nat} : (Term.index 0).eval args s none [j] s = some (.int (Int32.ofNat j)) := rfl
theorem own_or {args : Array Value} {s : State} {idx : List Nat} {a b : Cond} {P : Prop} [Decidable P] (h : (Cond.or a b).value args s none s idx = some true) (ha : a.value args s none s idx = some (decide P)) (hn : ¬ P) : b.value args s none s idx = some true := by
  simp only [Cond.value, ha, hn, decide_false] at h
  cases hb : b.value args s none s idx with
  | none => simp [hb] at h
  | some r => simp [hb] at h; rw [h]
theorem own_el {t : Term} {args : Array Value} {s : State} {pa : Addr} {cl : Cell} {ty : FieldType} {i : Term} {j : Nat} {idx : List Nat} {k : Int32} (ev : ∀ idx, t.eval args s none idx s = some (.ref pa)) (Ar : Arr s s.heap pa cl ty) (hj : j < 2 ^ 31) (hi : i.eval args s none idx s = some (.int (Int32.ofNat j))) (h : (Cond.eq (.elem t i) (.int k)).value args s none s idx = some true) : cl.slots[j]? = some (.int k) := by
  have hk : (Term.int k).eval args s none idx s = some (.int k) := rfl
  cases he : (Term.elem t i).eval args s none idx s with
  | none => simp [Cond.value, he] at h
  | some v =>
    obtain ⟨-, h4⟩ := elem_in he (ev idx) hi Ar.1
    rw [own_nat hj] at h4
    rw [h4]
    cases v <;> simp [Cond.value, he, hk] at h
    rw [h]
theorem own_ltv {args : Array Value} {s : State} {idx : List Nat} {a b : Term} {x y : Int32} (ha : a.eval args s none idx s = some (.int x)) (hb : b.eval args s none idx s = some (.int y)) : (Cond.lt a b).value args s none s idx = some (decide (x < y)) := by simp [Cond.value, ha, hb]
theorem own_lev {args : Array Value} {s : State} {idx : List Nat} {a b : Term} {x y : Int32} (ha : a.eval args s none idx s = some (.int x)) (hb : b.eval args s none idx s = some (.int y)) : (Cond.le a b).value args s none s idx = some (decide (x ≤ y)) := by simp [Cond.value, ha, hb]
theorem own_Pn {j : Nat} (hj : j < 128) : own_P (Int32.ofNat j) ↔ ((48 ≤ j ∧ j ≤ 57) ∨ (65 ≤ j ∧ j ≤ 90) ∨ (97 ≤ j ∧ j ≤ 122) ∨ j = 46 ∨ j = 95 ∨ j = 45) := by
  have h : ∀ j : Fin 128, (own_P (Int32.ofNat j.val) ↔ ((48 ≤ j.val ∧ j.val ≤ 57) ∨ (65 ≤ j.val ∧ j.val ≤ 90) ∨ (97 ≤ j.val ∧ j.val ≤ 122) ∨ j.val = 46 ∨ j.val = 95 ∨ j.val = 45)) := by decide +kernel
  exact h ⟨j, hj⟩
theorem own_len {t : Term} {args : Array Value} {s : State} {ca : Addr} {cl : Cell} {ty : FieldType} {n : Int32} (ev : t.eval args s none [] s = some (.ref ca)) (Ar : Arr s s.heap ca cl ty) (h : (Cond.eq (.length t) (.int n)).before args s = true) : cl.slots.size = n.toNatClampNeg ∧ cl.slots.size < 2 ^ 31 := by
  have h1 := Jvm.Free.NT.SwA.eq_int h
  have ha := Jvm.Free.IntBox.arrayAt_of Ar.1 Ar.2.1 Ar.2.2
  by_cases q : cl.slots.size < 2 ^ 31
  · have := (len_f ev ha q).symm.trans h1
    cases this
    refine ⟨?_, q⟩
    simp only [Int32.toNatClampNeg, len_toInt q]; rfl
  · simp [Term.eval, ev, ha, q] at h1
set_option maxRecDepth 65536 in
set_option maxHeartbeats 40000000 in
theorem comes_1 {Post : Tables → Env → Array Value → State → Outcome → State → Prop} (hpost : ∀ tb e args s v u, (limb_1_1.after args s (.returned v) u = true ∧ limb_1_2.after args s (.returned v) u = true ∧ True) → FrameEnd s (.returned v) u (Jvm.fieldLocs frame_1_writes args s ++ Jvm.arrayLocs frame_1_arrays args s ++ Jvm.staticLocs frame_1_statics s) 16 128 → Post tb e args s (.returned v) u) :
    ArmFor flags0 classFile x code maxLocals ret World_1 tables_1 room_1 Calls_1 rest_1 Pre_1 Post := by
  intro l hfl _ _ p e ha hc hk s m args below hf hA hF happ hP
  obtain ⟨hcalls, hrest, hpre⟩ := hP
  obtain ⟨-, -, -, hnamed, -, -, -, hat⟩ := (Spec.applies_iff hf).mp happ
  obtain ⟨hg, hn⟩ := and_e (Cond.before_iff.mp (show (Jvm.Cond.and given_1 narrow_1).before args s = true from hpre))
  obtain ⟨g1, g2⟩ := and_e hg
  obtain ⟨g3, g4⟩ := and_e g2
  obtain ⟨g5, g6⟩ := and_e g4
  obtain ⟨g7, g8⟩ := and_e g6
  obtain ⟨g9, g10⟩ := and_e g8
  obtain ⟨g11, g12⟩ := and_e g10
  obtain ⟨w0, w1, w2, w3, w4, w5, rfl⟩ : ∃ w0 w1 w2 w3 w4 w5 : Value, args = #[w0, w1, w2, w3, w4, w5] := by
    have hs : args.size = 6 := by simpa [Cond.value, given_1] using g1
    obtain ⟨L⟩ := args
    match L, hs with
    | [w0, w1, w2, w3, w4, w5], _ => exact ⟨w0, w1, w2, w3, w4, w5, rfl⟩
  have hw := fun d (hd : d ∈ tables_1) => atoms_spec (ws := Jvm.Cond.code x code maxLocals ret :: tables_1) hat d (List.mem_cons_of_mem _ hd)
  have hfit : Fit s := fun {y c} hc i hi => by
    obtain ⟨ha, rfl⟩ := Array.getElem?_eq_some_iff.mp hc
    have q := List.all_eq_true.mp ((Array.all_eq_true_iff_forall_mem.mp hF) _ (Array.getElem_mem ha)) i (List.mem_range.mpr hi)
    simpa [Array.getElem?_eq_getElem hi] using q
  obtain ⟨i0, ei0⟩ := is_v g3
  obtain rfl : w0 = (.int i0) := Option.some.inj ei0
  obtain ⟨i1, ei1⟩ := is_v g5
  obtain rfl : w1 = (.int i1) := Option.some.inj ei1
  obtain ⟨i2, ei2⟩ := is_v g7
  obtain rfl : w2 = (.int i2) := Option.some.inj ei2
  obtain ⟨i3, ei3⟩ := is_v g9
  obtain rfl : w3 = (.int i3) := Option.some.inj ei3
  obtain ⟨i4, ei4⟩ := is_v g11
  obtain rfl : w4 = (.int i4) := Option.some.inj ei4
  obtain ⟨i5, ei5⟩ := is_v g12
  obtain rfl : w5 = (.int i5) := Option.some.inj ei5
  obtain ⟨mA, r0⟩ := and_e hn
  obtain ⟨mL, r1⟩ := and_e r0
  obtain ⟨w0, r2⟩ := and_e r1
  obtain ⟨w45, r3⟩ := and_e r2
  obtain ⟨w46, r4⟩ := and_e r3
  obtain ⟨w47, r5⟩ := and_e r4
  obtain ⟨w48, r6⟩ := and_e r5
  obtain ⟨w58, r7⟩ := and_e r6
  obtain ⟨w65, r8⟩ := and_e r7
  obtain ⟨w91, r9⟩ := and_e r8
  obtain ⟨w95, r10⟩ := and_e r9
  obtain ⟨w96, r11⟩ := and_e r10
  obtain ⟨w97, r12⟩ := and_e r11
  have w123 := r12
  obtain ⟨pa, evP⟩ := arr_v mA
  obtain ⟨clP, ArP⟩ := Arr.start evP mA
  have S_P := Sta.start evP (Or.inr ⟨(hw _ (List.mem_of_getElem? (i := 11) rfl)), (hw _ (List.mem_of_getElem? (i := 14) rfl))⟩)
  have evA := own_sidx evP
  have haP := Jvm.Free.IntBox.arrayAt_of ArP.1 ArP.2.1 ArP.2.2
  have hsP : clP.slots.size = 128 := (own_len evP ArP (Cond.before_iff.mpr mL)).1
  have hP : ∀ j : Nat, j < 128 → clP.slots[j]? = some (.int (own_b (own_P (Int32.ofNat j)))) := by
    intro j hj
    have big : j < 2 ^ 31 := by omega
    have L : ∀ n : Nat, n < 2 ^ 31 → (Int32.ofNat j < Int32.ofNat n ↔ j < n) := fun n hn => own_lt big hn
    have G : ∀ n : Nat, n < 2 ^ 31 → (Int32.ofNat n ≤ Int32.ofNat j ↔ n ≤ j) := fun n hn => by rw [Int32.le_iff_toInt_le, own_toInt hn, own_toInt big]; omega
    have pl : own_P (Int32.ofNat j) ↔ ((48 ≤ j ∧ j ≤ 57) ∨ (65 ≤ j ∧ j ≤ 90) ∨ (97 ≤ j ∧ j ≤ 122) ∨ j = 46 ∨ j = 95 ∨ j = 45) := own_Pn hj
    have one : ∀ {k : Int32}, (own_P (Int32.ofNat j) ↔ k = 1) → (k = 0 ∨ k = 1) → clP.slots[j]? = some (.int k) → clP.slots[j]? = some (.int (own_b (own_P (Int32.ofNat j)))) := fun {k} a b e => by
      rw [e]; rcases b with rfl | rfl
      · rw [own_bf (fun q => by have := a.mp q; revert this; decide)]
      · rw [own_bt (a.mpr rfl)]
    by_cases qw0 : 0 ≤ j ∧ j < 45
    · have e0 := Cond.all_elim (evA []) haP w0 j (by omega)
      have e2 := own_or e0 (own_lev rfl own_ix0) (show ¬ (Int32.ofNat 45 ≤ Int32.ofNat j) by rw [G 45 (by decide)]; omega)
      exact one (k := 0) (by rw [pl]; constructor <;> intro z <;> first | (exfalso; revert z; decide) | omega | rfl | (simp; omega)) (by decide) (own_el evA ArP big own_ix0 e2)
    by_cases qw45 : j = 45
    · exact one (k := 1) (by rw [pl]; constructor <;> intro z <;> first | (exfalso; revert z; decide) | omega | rfl | (simp; omega)) (by decide) (own_el (j := j) evA ArP big (i := .int (45 : Int32)) (by rw [qw45]; rfl) w45)
    by_cases qw46 : j = 46
    · exact one (k := 1) (by rw [pl]; constructor <;> intro z <;> first | (exfalso; revert z; decide) | omega | rfl | (simp; omega)) (by decide) (own_el (j := j) evA ArP big (i := .int (46 : Int32)) (by rw [qw46]; rfl) w46)
    by_cases qw47 : j = 47
    · exact one (k := 0) (by rw [pl]; constructor <;> intro z <;> first | (exfalso; revert z; decide) | omega | rfl | (simp; omega)) (by decide) (own_el (j := j) evA ArP big (i := .int (47 : Int32)) (by rw [qw47]; rfl) w47)
    by_cases qw48 : 48 ≤ j ∧ j < 58
    · have e0 := Cond.all_elim (evA []) haP w48 j (by omega)
      have e1 := own_or e0 (own_ltv own_ix0 rfl) (show ¬ (Int32.ofNat j < Int32.ofNat 48) by rw [L 48 (by decide)]; omega)
      have e2 := own_or e1 (own_lev rfl own_ix0) (show ¬ (Int32.ofNat 58 ≤ Int32.ofNat j) by rw [G 58 (by decide)]; omega)
      exact one (k := 1) (by rw [pl]; constructor <;> intro z <;> first | (exfalso; revert z; decide) | omega | rfl | (simp; omega)) (by decide) (own_el evA ArP big own_ix0 e2)
    by_cases qw58 : 58 ≤ j ∧ j < 65
    · have e0 := Cond.all_elim (evA []) haP w58 j (by omega)
      have e1 := own_or e0 (own_ltv own_ix0 rfl) (show ¬ (Int32.ofNat j < Int32.ofNat 58) by rw [L 58 (by decide)]; omega)
      have e2 := own_or e1 (own_lev rfl own_ix0) (show ¬ (Int32.ofNat 65 ≤ Int32.ofNat j) by rw [G 65 (by decide)]; omega)
      exact one (k := 0) (by rw [pl]; constructor <;> intro z <;> first | (exfalso; revert z; decide) | omega | rfl | (simp; omega)) (by decide) (own_el evA ArP big own_ix0 e2)
    by_cases qw65 : 65 ≤ j ∧ j < 91
    · have e0 := Cond.all_elim (evA []) haP w65 j (by omega)
      have e1 := own_or e0 (own_ltv own_ix0 rfl) (show ¬ (Int32.ofNat j < Int32.ofNat 65) by rw [L 65 (by decide)]; omega)
      have e2 := own_or e1 (own_lev rfl own_ix0) (show ¬ (Int32.ofNat 91 ≤ Int32.ofNat j) by rw [G 91 (by decide)]; omega)
      exact one (k := 1) (by rw [pl]; constructor <;> intro z <;> first | (exfalso; revert z; decide) | omega | rfl | (simp; omega)) (by decide) (own_el evA ArP big own_ix0 e2)
    by_cases qw91 : 91 ≤ j ∧ j < 95
    · have e0 := Cond.all_elim (evA []) haP w91 j (by omega)
      have e1 := own_or e0 (own_ltv own_ix0 rfl) (show ¬ (Int32.ofNat j < Int32.ofNat 91) by rw [L 91 (by decide)]; omega)
      have e2 := own_or e1 (own_lev rfl own_ix0) (show ¬ (Int32.ofNat 95 ≤ Int32.ofNat j) by rw [G 95 (by decide)]; omega)
      exact one (k := 0) (by rw [pl]; constructor <;> intro z <;> first | (exfalso; revert z; decide) | omega | rfl | (simp; omega)) (by decide) (own_el evA ArP big own_ix0 e2)
    by_cases qw95 : j = 95
    · exact one (k := 1) (by rw [pl]; constructor <;> intro z <;> first | (exfalso; revert z; decide) | omega | rfl | (simp; omega)) (by decide) (own_el (j := j) evA ArP big (i := .int (95 : Int32)) (by rw [qw95]; rfl) w95)
    by_cases qw96 : j = 96
    · exact one (k := 0) (by rw [pl]; constructor <;> intro z <;> first | (exfalso; revert z; decide) | omega | rfl | (simp; omega)) (by decide) (own_el (j := j) evA ArP big (i := .int (96 : Int32)) (by rw [qw96]; rfl) w96)
    by_cases qw97 : 97 ≤ j ∧ j < 123
    · have e0 := Cond.all_elim (evA []) haP w97 j (by omega)
      have e1 := own_or e0 (own_ltv own_ix0 rfl) (show ¬ (Int32.ofNat j < Int32.ofNat 97) by rw [L 97 (by decide)]; omega)
      have e2 := own_or e1 (own_lev rfl own_ix0) (show ¬ (Int32.ofNat 123 ≤ Int32.ofNat j) by rw [G 123 (by decide)]; omega)
      exact one (k := 1) (by rw [pl]; constructor <;> intro z <;> first | (exfalso; revert z; decide) | omega | rfl | (simp; omega)) (by decide) (own_el evA ArP big own_ix0 e2)
    by_cases qw123 : 123 ≤ j ∧ j < 128
    · have e0 := Cond.all_elim (evA []) haP w123 j (by omega)
      have e1 := own_or e0 (own_ltv own_ix0 rfl) (show ¬ (Int32.ofNat j < Int32.ofNat 123) by rw [L 123 (by decide)]; omega)
      exact one (k := 0) (by rw [pl]; constructor <;> intro z <;> first | (exfalso; revert z; decide) | omega | rfl | (simp; omega)) (by decide) (own_el evA ArP big own_ix0 e1)
    omega
  obtain ⟨n, o, h1, h2, h3, _, L, rfl, ⟨rfl, N⟩, hq⟩ := rm0 l s _ hw tables_1 i0 i1 i2 i3 i4 i5 pa clP s.heap s.heap.size (Nat.le_refl _) (Old.start s) S_P ArP hsP hP p e ha hc hk s m _ below hf ((Spec.applies_iff_loose hf).mp happ).1 ⟨rfl, State.Warmed39.refl s, rfl⟩ trivial
  refine ⟨n, _, h1, h2, h3, hpost _ _ _ _ _ _ ⟨Cond.after_iff.mpr rfl, Cond.after_iff.mpr (eq_i res_at (Term.int_eval (1)) rfl), trivial⟩ ⟨hq.1, hq.2.1, (hq.2.2.sift fun y hy => Or.inr (N y hy)).mono (by decide) (by decide)⟩⟩
theorem main_1_1 : Claimed_1_1 := comes_1 fun _ _ _ _ _ _ h hF => ⟨h.1, hF⟩
theorem main_1_2 : Claimed_1_2 := comes_1 fun _ _ _ _ _ _ h hF => ⟨h.2.1, hF⟩
end Jvm.Pilot.@@N@@
namespace Jvm.Pilot.@@N@@
open Jvm Jvm.ClassFile Sem Op Lib Jvm.Free Jvm.Stand Jvm.Pilot.@@N@@.Jvm.D
/-! MADE BY PROGRAM (witnessworld.py) out of the Statement's table words and the real class files: 13 classes; the members and pool entries that the words name. The judged class is class 1, her method 3. -/
namespace start1
open Jvm.ClassFile
def u (s : String) : CpInfo := .utf8 (stringToUtf16 s)
/-- a pool by its gaps: so many unusable entries, then the entry; so many at the end -/
def gap : Nat → List CpInfo → List CpInfo
  | 0, r => r
  | n + 1, r => .unusable :: gap n r
def poolList (es : List (Nat × CpInfo)) (last : Nat) : List CpInfo := es.foldr (fun e r => gap e.1 (e.2 :: r)) (gap last [])
def pool (es : List (Nat × CpInfo)) (last : Nat) : Array CpInfo := ⟨poolList es last⟩
def fileOf (pool : Array CpInfo) (this : Nat) (attrs : Array Attribute := #[]) (ms : Array MethodInfo := #[]) (fl : Nat := 33) (sup : Nat := 0) (ifs : Array Nat := #[]) (fds : Array FieldInfo := #[]) : ClassFile where
  minorVersion := 0
  majorVersion := 65
  constantPool := pool
  accessFlags := fl
  thisClass := this
  superClass := sup
  interfaces := ifs
  fields := fds
  methods := ms
  attributes := attrs
def plain (name : String) (sup : Option ClassId) : Class where
  name := name
  kind := .ordinary
  loader := none
  accessFlags := 33
  super := sup
  interfaces := #[]
  cf := none
  fields := #[]
  methods := #[]
  instanceTypes := #[]
  staticTypes := #[]
  resolved := #[]
  callSites := []
  init := .initialized
  statics := none
  mirror := none

def pool0 : Array CpInfo := pool [(5, u "<init>"), (0, u "()V"), (1, .class_ 10), (1, u "java/lang/Object")] 113

def k0m0 : Method := { name := "<init>", desc := "()V", sig := { parameters := [], returnType := none }, accessFlags := 1, code := none }
/-- java/lang/Object -/
def k0 : Class := { plain "java/lang/Object" none with
  accessFlags := 33
  interfaces := #[]
  cf := some (fileOf pool0 8 #[] #[{ accessFlags := 1, nameIndex := 5, descriptorIndex := 6, attributes := #[] }] 33 0 #[] #[])
  fields := #[]
  methods := #[k0m0]
  instanceTypes := #[]
  staticTypes := #[]
  resolved := Array.replicate 124 none
  statics := none }

def pool1 : Array CpInfo := pool [(2, .class_ 4), (1, u "java/lang/Object"), (0, u "<init>"), (0, u "()V"), (0, .methodref 8 9), (0, .class_ 10), (0, .nameAndType 11 12), (0, u "tidemark/CheckpointIsPlainNamePinLaw"), (0, u "plain"), (0, u "(C)Z"), (0, .integer 2147483647), (0, .methodref 8 15), (0, .nameAndType 16 17), (0, u "okAt"), (0, u "([CIII)Z"), (0, .methodref 19 20), (0, .class_ 21), (0, .nameAndType 22 23), (0, u "tidemark/Checkpoint"), (0, u "isPlainName"), (0, u "([CII)Z"), (3, u "law"), (0, u "(IIIIII)Z")] 4

def k1m0 : Method := { name := "<init>", desc := "()V", sig := { parameters := [], returnType := none }, accessFlags := 1, code := none }
def k1c1 : Code := { maxStack := 2, maxLocals := 1, code := method_2_code, exceptionTable := #[], attributes := #[] }
def k1m1 : Method := { name := "plain", desc := "(C)Z", sig := { parameters := [.char], returnType := some .boolean }, accessFlags := 10, code := some k1c1 }
def k1c2 : Code := { maxStack := 2, maxLocals := 4, code := method_3_code, exceptionTable := #[], attributes := #[] }
def k1m2 : Method := { name := "okAt", desc := "([CIII)Z", sig := { parameters := [(.array .char), .int, .int, .int], returnType := some .boolean }, accessFlags := 10, code := some k1c2 }
def k1c3 : Code := { maxStack := 4, maxLocals := 11, code := code, exceptionTable := #[], attributes := #[] }
def k1m3 : Method := { name := "law", desc := "(IIIIII)Z", sig := { parameters := [.int, .int, .int, .int, .int, .int], returnType := some .boolean }, accessFlags := 9, code := some k1c3 }
/-- tidemark/CheckpointIsPlainNamePinLaw -/
def k1 : Class := { plain "tidemark/CheckpointIsPlainNamePinLaw" (some 0) with
  accessFlags := 49
  interfaces := #[]
  cf := some (fileOf pool1 8 #[] #[{ accessFlags := 1, nameIndex := 5, descriptorIndex := 6, attributes := #[] }, { accessFlags := 10, nameIndex := 11, descriptorIndex := 12, attributes := #[] }, { accessFlags := 10, nameIndex := 16, descriptorIndex := 17, attributes := #[] }, { accessFlags := 9, nameIndex := 27, descriptorIndex := 28, attributes := #[] }] 49 2 #[] #[])
  fields := #[]
  methods := #[k1m0, k1m1, k1m2, k1m3]
  instanceTypes := #[]
  staticTypes := #[]
  resolved := Array.replicate 33 none
  statics := none }

def pool2 : Array CpInfo := pool [(2, .class_ 4), (1, u "tidemark/Checkpoint"), (3, .class_ 10), (1, u "java/lang/Object"), (3, u "id"), (0, u "Ljava/lang/String;"), (2, u "sequence"), (0, u "J"), (2, u "position"), (0, u "Ltidemark/Checkpoint$Position;"), (8, u "files"), (0, u "Ljava/util/List;"), (2, u "backend"), (0, u "Ltidemark/Backend;"), (2, u "readFrom"), (1, .class_ 44), (1, u "tidemark/Checkpoint$Position"), (50, .class_ 96), (0, u "tidemark/Checkpoint$StoredFile"), (44, u "isPlainName"), (0, u "([CII)Z"), (0, .fieldref 2 144), (0, .nameAndType 145 146), (0, u "PLAIN"), (0, u "[Z"), (61, .class_ 209), (0, u "tidemark/Checkpoint$StoreFile")] 40

def k2c0 : Code := { maxStack := 2, maxLocals := 5, code := prog_20_method_17_code, exceptionTable := #[], attributes := #[] }
def k2m0 : Method := { name := "isPlainName", desc := "([CII)Z", sig := { parameters := [(.array .char), .int, .int], returnType := some .boolean }, accessFlags := 8, code := some k2c0 }
/-- tidemark/Checkpoint -/
def k2 : Class := { plain "tidemark/Checkpoint" (some 0) with
  accessFlags := 49
  interfaces := #[]
  cf := some (fileOf pool2 2 #[.nestMembers #[208, 95, 42]] #[{ accessFlags := 8, nameIndex := 141, descriptorIndex := 142, attributes := #[] }] 49 8 #[] #[{ accessFlags := 26, nameIndex := 145, descriptorIndex := 146, attributes := #[] }, { accessFlags := 18, nameIndex := 14, descriptorIndex := 15, attributes := #[] }, { accessFlags := 18, nameIndex := 18, descriptorIndex := 19, attributes := #[] }, { accessFlags := 18, nameIndex := 22, descriptorIndex := 23, attributes := #[] }, { accessFlags := 18, nameIndex := 32, descriptorIndex := 33, attributes := #[] }, { accessFlags := 18, nameIndex := 36, descriptorIndex := 37, attributes := #[] }, { accessFlags := 18, nameIndex := 40, descriptorIndex := 33, attributes := #[] }])
  fields := #[{ name := "PLAIN", type := (.array .boolean), accessFlags := 26, slot := 0, constantValue := 0 }, { name := "id", type := (.object "java/lang/String"), accessFlags := 18, slot := 0, constantValue := 0 }, { name := "sequence", type := .long, accessFlags := 18, slot := 1, constantValue := 0 }, { name := "position", type := (.object "tidemark/Checkpoint$Position"), accessFlags := 18, slot := 2, constantValue := 0 }, { name := "files", type := (.object "java/util/List"), accessFlags := 18, slot := 3, constantValue := 0 }, { name := "backend", type := (.object "tidemark/Backend"), accessFlags := 18, slot := 4, constantValue := 0 }, { name := "readFrom", type := (.object "java/util/List"), accessFlags := 18, slot := 5, constantValue := 0 }]
  methods := #[k2m0]
  instanceTypes := #[(.object "java/lang/String"), .long, (.object "tidemark/Checkpoint$Position"), (.object "java/util/List"), (.object "tidemark/Backend"), (.object "java/util/List")]
  staticTypes := #[(.array .boolean)]
  resolved := Array.replicate 250 none
  statics := some 0 }

def pool3 : Array CpInfo := pool [(1, u "java/lang/Cloneable"), (0, .class_ 1), (0, u "java/lang/Object"), (0, .class_ 3)] 3

/-- java/lang/Cloneable -/
def k3 : Class := { plain "java/lang/Cloneable" (some 0) with
  accessFlags := 1537
  interfaces := #[]
  cf := some (fileOf pool3 2 #[] #[] 1537 4 #[] #[])
  fields := #[]
  methods := #[]
  instanceTypes := #[]
  staticTypes := #[]
  resolved := Array.replicate 8 none
  statics := none }

def pool4 : Array CpInfo := pool [(1, u "java/io/Serializable"), (0, .class_ 1), (0, u "java/lang/Object"), (0, .class_ 3)] 3

/-- java/io/Serializable -/
def k4 : Class := { plain "java/io/Serializable" (some 0) with
  accessFlags := 1537
  interfaces := #[]
  cf := some (fileOf pool4 2 #[] #[] 1537 4 #[] #[])
  fields := #[]
  methods := #[]
  instanceTypes := #[]
  staticTypes := #[]
  resolved := Array.replicate 8 none
  statics := none }

/-- the primitive boolean -/
def k5 : Class := { plain "boolean" none with kind := .primitive 'Z', accessFlags := 0x411 }
/-- [Z -/
def k6 : Class := { plain "[Z" (some 0) with kind := .array 5 .boolean, interfaces := #[3, 4], accessFlags := 1041 }

/-- the primitive byte -/
def k7 : Class := { plain "byte" none with kind := .primitive 'B', accessFlags := 0x411 }
/-- [B -/
def k8 : Class := { plain "[B" (some 0) with kind := .array 7 .byte, interfaces := #[3, 4], accessFlags := 1041 }

/-- the primitive char -/
def k9 : Class := { plain "char" none with kind := .primitive 'C', accessFlags := 0x411 }
/-- [C -/
def k10 : Class := { plain "[C" (some 0) with kind := .array 9 .char, interfaces := #[3, 4], accessFlags := 1041 }

/-- the primitive int -/
def k11 : Class := { plain "int" none with kind := .primitive 'I', accessFlags := 0x411 }
/-- [I -/
def k12 : Class := { plain "[I" (some 0) with kind := .array 11 .int, interfaces := #[3, 4], accessFlags := 1041 }

def heap : Heap := #[{ cls := 2, slots := #[.ref 1], vm := .statics 2 },
  { cls := 6, slots := #[.int 0, .int 0, .int 0, .int 0, .int 0, .int 0, .int 0, .int 0, .int 0, .int 0, .int 0, .int 0, .int 0, .int 0, .int 0, .int 0, .int 0, .int 0, .int 0, .int 0, .int 0, .int 0, .int 0, .int 0, .int 0, .int 0, .int 0, .int 0, .int 0, .int 0, .int 0, .int 0, .int 0, .int 0, .int 0, .int 0, .int 0, .int 0, .int 0, .int 0, .int 0, .int 0, .int 0, .int 0, .int 0, .int 1, .int 1, .int 0, .int 1, .int 1, .int 1, .int 1, .int 1, .int 1, .int 1, .int 1, .int 1, .int 1, .int 0, .int 0, .int 0, .int 0, .int 0, .int 0, .int 0, .int 1, .int 1, .int 1, .int 1, .int 1, .int 1, .int 1, .int 1, .int 1, .int 1, .int 1, .int 1, .int 1, .int 1, .int 1, .int 1, .int 1, .int 1, .int 1, .int 1, .int 1, .int 1, .int 1, .int 1, .int 1, .int 1, .int 0, .int 0, .int 0, .int 0, .int 1, .int 0, .int 1, .int 1, .int 1, .int 1, .int 1, .int 1, .int 1, .int 1, .int 1, .int 1, .int 1, .int 1, .int 1, .int 1, .int 1, .int 1, .int 1, .int 1, .int 1, .int 1, .int 1, .int 1, .int 1, .int 1, .int 1, .int 1, .int 0, .int 0, .int 0, .int 0, .int 0], vm := .none }]
def classes : Array Class := #[k0, k1, k2, k3, k4, k5, k6, k7, k8, k9, k10, k11, k12]
def interned : List (Array UInt16 × Addr) := []
def slotsUsed : Nat := 129
def theMethod : MethodId := ⟨1, 3⟩
def args0 : Array Value := #[.int 5, .int 5, .int 5, .int 5, .int 5, .int 5]
def aboutOver (below : List Frame) : State where
  vm := { classes := classes, interned := interned.toArray }
  heap := heap
  slotsUsed := slotsUsed
  threads := #[{ frames := .invoking theMethod args0 :: below }]
def below0 : List Frame := [.native { method := ⟨0, 0⟩, args := #[] }]
def about1 : State := aboutOver below0
def p0 : Program := .bare "" "" ""
def e0 : Env := launch0.env 0 0 0
theorem w_frames : about1.frames = Frame.invoking theMethod args0 :: below0 := rfl
set_option maxRecDepth 65536 in
theorem w_args : argsFit about1.vm theMethod args0 = true := by decide +kernel
set_option maxRecDepth 65536 in
theorem w_heap : heapFits about1 = true := by decide +kernel
set_option maxRecDepth 65536 in
theorem w_runnable : about1.curStatus? = some .runnable := by decide +kernel
set_option maxRecDepth 65536 in
theorem w_alone : about1.alone = true := by decide +kernel
set_option maxRecDepth 65536 in
theorem w_named : about1.methodNamed? x = some theMethod := by decide +kernel
set_option maxRecDepth 65536 in
theorem w_hears : about1.hears theMethod below0 = true := by decide +kernel
set_option maxRecDepth 65536 in
theorem w_ripe : about1.ripe theMethod args0 below0 = true := by decide +kernel
theorem w_running : about1.status = .running := rfl
set_option maxRecDepth 65536 in
theorem w_room : about1.hasRoom e0.platform room_1 = true :=
  launch0.hasRoom_least _ room_1 (by decide +kernel) (by decide +kernel) (by decide +kernel) (by decide +kernel) (by decide +kernel) (by decide +kernel)
theorem allAtoms_all (ts : List Jvm.Cond) (a : Array Jvm.Value) (st : Jvm.State) : (allAtoms ts).before a st = ts.all (fun c => c.before a st) := by
  induction ts with
  | nil => rfl
  | cons c t ih =>
    show (Jvm.Cond.and c (allAtoms t)).before a st = _
    rw [Jvm.Cond.before_and, ih, List.all_cons]
def words1 : List Jvm.Cond := Jvm.Cond.code x code maxLocals ret :: tables_1
/-- a 'code' word, met by the world's own term for the bytes: nothing is compared byte by byte -/
theorem code_word {y : MethodName} {bytes : ByteArray} {mx : Nat} {rt : Option FieldType} {a : Array Value} {s : State} {m : MethodId} {meth : Method} {c : Code} (h1 : s.methodNamed? y = some m) (h2 : s.vm.method? m = some meth) (h3 : meth.code = some c) (h4 : c.code = bytes)
    (h5 : (c.maxLocals == mx && c.exceptionTable.isEmpty && decide (c.maxStack ≤ mostOperands) && decide (meth.sig.returnType = rt) && !meth.locks && decide (parseMethodDescriptor y.desc = some meth.sig)) = true) : (Jvm.Cond.code y bytes mx rt).before a s = true := by
  simp only [Bool.and_eq_true, beq_iff_eq, Bool.not_eq_true', decide_eq_true_eq] at h5
  obtain ⟨⟨⟨⟨⟨g1, g2⟩, g3⟩, g4⟩, g5⟩, g6⟩ := h5
  simp [Cond.before, Cond.holds, Cond.value, h1, h2, h3, h4, g1, g2, g3, g4, g5, g6]
def isCode : Jvm.Cond → Bool
  | .code _ _ _ _ => true
  | _ => false
theorem all_split {L : List Jvm.Cond} {P : Jvm.Cond → Bool} (h1 : L.all (fun c => isCode c || P c) = true) (h2 : ∀ c ∈ L.filter isCode, P c = true) : L.all P = true := by
  refine List.all_eq_true.mpr fun c hc => ?_
  have h := List.all_eq_true.mp h1 c hc
  rcases Bool.eq_false_or_eq_true (isCode c) with hi | hi
  · exact h2 c (List.mem_filter.mpr ⟨hc, hi⟩)
  · simpa [hi] using h
set_option maxRecDepth 65536 in
theorem w_c0 : (Jvm.Cond.code x code maxLocals ret).before args0 about1 = true := code_word (m := ⟨1, 3⟩) (meth := k1m3) (c := k1c3) (by decide +kernel) rfl rfl rfl (by decide +kernel)
set_option maxRecDepth 65536 in
theorem w_c1 : (Jvm.Cond.code ({ cls := "tidemark/CheckpointIsPlainNamePinLaw", name := "okAt", desc := "([CIII)Z" } : Jvm.MethodName) method_3_code (4 : Nat) (Option.some Jvm.ClassFile.FieldType.boolean)).before args0 about1 = true := code_word (m := ⟨1, 2⟩) (meth := k1m2) (c := k1c2) (by decide +kernel) rfl rfl rfl (by decide +kernel)
set_option maxRecDepth 65536 in
theorem w_c2 : (Jvm.Cond.code ({ cls := "tidemark/CheckpointIsPlainNamePinLaw", name := "plain", desc := "(C)Z" } : Jvm.MethodName) method_2_code (1 : Nat) (Option.some Jvm.ClassFile.FieldType.boolean)).before args0 about1 = true := code_word (m := ⟨1, 1⟩) (meth := k1m1) (c := k1c1) (by decide +kernel) rfl rfl rfl (by decide +kernel)
set_option maxRecDepth 65536 in
theorem w_c3 : (Jvm.Cond.code ({ cls := "tidemark/Checkpoint", name := "isPlainName", desc := "([CII)Z" } : Jvm.MethodName) prog_20_method_17_code (5 : Nat) (Option.some Jvm.ClassFile.FieldType.boolean)).before args0 about1 = true := code_word (m := ⟨2, 0⟩) (meth := k2m0) (c := k2c0) (by decide +kernel) rfl rfl rfl (by decide +kernel)
def codes1 : List Jvm.Cond := [Jvm.Cond.code x code maxLocals ret, Jvm.Cond.code ({ cls := "tidemark/CheckpointIsPlainNamePinLaw", name := "okAt", desc := "([CIII)Z" } : Jvm.MethodName) method_3_code (4 : Nat) (Option.some Jvm.ClassFile.FieldType.boolean), Jvm.Cond.code ({ cls := "tidemark/CheckpointIsPlainNamePinLaw", name := "plain", desc := "(C)Z" } : Jvm.MethodName) method_2_code (1 : Nat) (Option.some Jvm.ClassFile.FieldType.boolean), Jvm.Cond.code ({ cls := "tidemark/Checkpoint", name := "isPlainName", desc := "([CII)Z" } : Jvm.MethodName) prog_20_method_17_code (5 : Nat) (Option.some Jvm.ClassFile.FieldType.boolean)]
set_option maxRecDepth 65536 in
theorem codes_eq : words1.filter isCode = codes1 := rfl
theorem w_codes : ∀ c ∈ words1.filter isCode, c.before args0 about1 = true := by
  rw [codes_eq]
  intro c hc
  simp only [codes1, List.mem_cons, List.not_mem_nil, or_false] at hc
  rcases hc with rfl | rfl | rfl | rfl
  · exact w_c0
  · exact w_c1
  · exact w_c2
  · exact w_c3
set_option maxRecDepth 65536 in
theorem w_t1 : words1.all (fun c => isCode c || c.before args0 about1) = true := by decide +kernel
theorem w_tables : (allAtoms (Jvm.Cond.code x code maxLocals ret :: tables_1)).before args0 about1 = true := by
  rw [allAtoms_all]
  show words1.all (fun c => c.before args0 about1) = true
  refine all_split ?_ w_codes
  rw [w_t1]
set_option maxRecDepth 65536 in
theorem w_case : (Jvm.Cond.and given_1 narrow_1).before args0 about1 = true := by decide +kernel
theorem w_applies : (headSpec (Jvm.Cond.code x code maxLocals ret :: tables_1) room_1).applies x e0.platform about1 = true :=
  (Spec.applies_iff w_frames).mpr ⟨w_running, w_runnable, w_alone, w_named, w_hears, w_ripe, w_room, w_tables⟩
theorem atStart : AtStart classFile x code maxLocals ret World_1 tables_1 room_1 Calls_1 rest_1 Pre_1 launch0 p0 e0 about1 theMethod args0 below0 :=
  ⟨lists_1, trivial, launch0.admits_env _ _ _, launch0.least_env, fairChoices_fair.cas, fairChoices_fair.clock, w_frames, w_args, w_heap, w_applies, trivial, trivial, w_case⟩
end start1
theorem witness_1 : WitnessClaimed_1 := ⟨start1.p0, start1.e0, start1.about1, start1.theMethod, start1.args0, start1.below0, start1.atStart⟩
end Jvm.Pilot.@@N@@
