import JvmDerived
import JvmDerived.Pilot.@@N@@Statement
import JvmDerived.Pilot.@@N@@Code
set_option linter.unusedVariables false
set_option linter.unusedSimpArgs false
namespace Jvm.RoadKit
open Sem ClassFile Op Lib Jvm.Stand Jvm.Free Jvm.LawKit
section New
variable {p : Program} {l : Launch} {e : Env} {R : Room} {s : State} {m : MethodId} {args : Array Value} {below : List Frame} {meth : Method} {c : Code} {T : State} {locs : List Loc} {cells slots : Nat}
theorem retI (X : Stand p l e R s m args below meth c T locs cells slots) (hx : p.tables.exec = Jvm.exec) {pc : Nat} {Ls : Array Slot} {z : Int32} {rest : List Value} (hret : meth.sig.returnType = some .int) (hd : decode c.code pc = .ok (.ireturn, 1)) {fs : List Frame}
    (hl : ∀ (f : JFrame) (acts : List Action), f.method = m → f.locked = none → f.entered = [] → (doReturn e (T.setTop f) acts (some (.int z))).1 = T.setFrames fs) : Steps p.tables e below (T.setTop (mkF m pc Ls (.int z :: rest))) (T.setFrames fs) := by
  have hm' : T.vm.method? m = some meth := X.method'
  have hn : narrow .int (.int z) = .int z := rfl
  show Steps p.tables e below (T.setTop { method := m, pc := pc, locals := Ls, stack := _ :: rest, locked := none }) _
  jvm_step X.here [X.here.top, hx, hd, hm', hret, hn]
  first | (intro acts; rw [hl _ acts rfl rfl rfl]) | rw [hl _ _ rfl rfl rfl]
  exact Steps.refl _
end New
end Jvm.RoadKit
namespace Jvm.Pilot.@@N@@
open Jvm Jvm.ClassFile Sem Op Lib Jvm.Free Jvm.Stand Jvm.LawKit Jvm.RoadKit Bundle Jvm.Pilot.@@N@@.Jvm.D
section OwnGo
variable {p : Program} {l : Launch} {e : Env} {R : Room} {s : State} {m : MethodId} {args : Array Value} {below : List Frame} {meth : Method} {c : Code} {T : State} {locs : List Loc} {cells slots : Nat}
/-- what a body owes from the state A on: the run comes to an end of the invocation with Q, within C cells and S slots -/
def own_Go (p : Program) (e : Env) (below : List Frame) (s : State) (Q : Option Value → Heap → List Loc → Prop) (C S : Nat) (A : State) : Prop :=
  ∃ s₂ o, Steps p.tables e below A s₂ ∧ s₂.status = .running ∧ Ended s₂ below o ∧ ∃ v L, o = .returned v ∧ Q v s₂.heap L ∧ FrameEnd s o s₂ L C S
variable {Q : Option Value → Heap → List Loc → Prop} {C S : Nat} {A B : State}
theorem own_step (h : ∀ t, Steps p.tables e below B t → Steps p.tables e below A t) (k : own_Go p e below s Q C S B) : own_Go p e below s Q C S A := by
  obtain ⟨s₂, o, h1, h2⟩ := k; exact ⟨s₂, o, h _ h1, h2⟩
theorem own_via (h : Steps p.tables e below A B) (k : own_Go p e below s Q C S B) : own_Go p e below s Q C S A := own_step (fun _ q => h.trans q) k
theorem own_retN (X : Stand p l e R s m args below meth c T locs cells slots) (hx : p.tables.exec = Jvm.exec) (hlocks : meth.locks = false) {pc : Nat} {Ls : Array Slot} {z : Int32} {t : FieldType} {rest : List Value} (hret : meth.sig.returnType = some t) (ht : t = .boolean ∨ t = .byte ∨ t = .char ∨ t = .short)
    (hd : decode c.code pc = .ok (.ireturn, 1)) (hq : Q (some (.int (nar t z))) T.heap locs) (hC : cells ≤ C) (hS : slots ≤ S) : own_Go p e below s Q C S (T.setTop (mkF m pc Ls (.int z :: rest))) := by
  obtain ⟨fs, hr, hrun, hended, hW, hsame⟩ := X.leave (v := some (.int (nar t z))) (fun h => by rw [hret] at h; cases h) hlocks
  exact ⟨_, _, retN X hx hret ht hd hr, hrun, hended, _, _, rfl, hq, ⟨_, rfl⟩, hW, hsame.mono hC hS⟩
theorem own_retI (X : Stand p l e R s m args below meth c T locs cells slots) (hx : p.tables.exec = Jvm.exec) (hlocks : meth.locks = false) {pc : Nat} {Ls : Array Slot} {z : Int32} {rest : List Value} (hret : meth.sig.returnType = some .int)
    (hd : decode c.code pc = .ok (.ireturn, 1)) (hq : Q (some (.int z)) T.heap locs) (hC : cells ≤ C) (hS : slots ≤ S) : own_Go p e below s Q C S (T.setTop (mkF m pc Ls (.int z :: rest))) := by
  obtain ⟨fs, hr, hrun, hended, hW, hsame⟩ := X.leave (v := some (.int z)) (fun h => by rw [hret] at h; cases h) hlocks
  exact ⟨_, _, retI X hx hret hd hr, hrun, hended, _, _, rfl, hq, ⟨_, rfl⟩, hW, hsame.mono hC hS⟩
theorem own_retJ (X : Stand p l e R s m args below meth c T locs cells slots) (hx : p.tables.exec = Jvm.exec) (hlocks : meth.locks = false) {pc : Nat} {Ls : Array Slot} {z : Int64} {rest : List Value} (hret : meth.sig.returnType = some .long)
    (hd : decode c.code pc = .ok (.lreturn, 1)) (hq : Q (some (.long z)) T.heap locs) (hC : cells ≤ C) (hS : slots ≤ S) : own_Go p e below s Q C S (T.setTop (mkF m pc Ls (.long z :: rest))) := by
  obtain ⟨fs, hr, hrun, hended, hW, hsame⟩ := X.leave (v := some (.long z)) (fun h => by rw [hret] at h; cases h) hlocks
  refine ⟨_, _, ?_, hrun, hended, _, _, rfl, hq, ⟨_, rfl⟩, hW, hsame.mono hC hS⟩
  have hm' : T.vm.method? m = some meth := X.method'
  show Steps p.tables e below (T.setTop { method := m, pc := pc, locals := Ls, stack := _ :: rest, locked := none }) _
  jvm_step X.here [X.here.top, hx, hd, hm', hret, narrow]
  first | (intro acts; rw [hr _ acts rfl rfl rfl]) | rw [hr _ _ rfl rfl rfl]
  exact Steps.refl _
theorem own_retV (X : Stand p l e R s m args below meth c T locs cells slots) (hx : p.tables.exec = Jvm.exec) (hlocks : meth.locks = false) {pc : Nat} {Ls : Array Slot} (hret : meth.sig.returnType = none)
    (hd : decode c.code pc = .ok (.return_, 1)) (hq : Q none T.heap locs) (hC : cells ≤ C) (hS : slots ≤ S) : own_Go p e below s Q C S (T.setTop (mkF m pc Ls [])) := by
  obtain ⟨fs, hr, hrun, hended, hW, hsame⟩ := X.leave (v := none) (fun _ => rfl) hlocks
  exact ⟨_, _, X.returnOut hx hret hd hr, hrun, hended, _, _, rfl, hq, ⟨_, rfl⟩, hW, hsame.mono hC hS⟩
theorem own_retR (X : Stand p l e R s m args below meth c T locs cells slots) (hx : p.tables.exec = Jvm.exec) (hlocks : meth.locks = false) {pc : Nat} {Ls : Array Slot} {v : Value} {t : FieldType} {rest : List Value} (hret : meth.sig.returnType = some t) (hv : v.isRef = true) (ht : t.isReference = true)
    (hd : decode c.code pc = .ok (.areturn, 1)) (hq : Q (some v) T.heap locs) (hC : cells ≤ C) (hS : slots ≤ S) : own_Go p e below s Q C S (T.setTop (mkF m pc Ls (v :: rest))) := by
  obtain ⟨fs, hr, hrun, hended, hW, hsame⟩ := X.leave (v := some v) (fun h => by rw [hret] at h; cases h) hlocks
  refine ⟨_, _, ?_, hrun, hended, _, _, rfl, hq, ⟨_, rfl⟩, hW, hsame.mono hC hS⟩
  have hm' : T.vm.method? m = some meth := X.method'
  show Steps p.tables e below (T.setTop { method := m, pc := pc, locals := Ls, stack := _ :: rest, locked := none }) _
  jvm_step X.here [X.here.top, hx, hd, hm', hret, hv, ht]
  first | (intro acts; rw [hr _ acts rfl rfl rfl]) | rw [hr _ _ rfl rfl rfl]
  exact Steps.refl _
theorem own_staKeep {Z : State} {h h' : Heap} {ws : List Addr} {C n d : String} {v : Value} (F : Sta Z h C n d v) (K : Keep h h' ws) (q : ∀ x ∈ ws, ∀ cell : Cell, h[x]? = some cell → cell.vm.isStatics = false) : Sta Z h' C n d v := by
  obtain ⟨cf, i, k, f, st, cell, h1, h2, h3, h4, h5, h6, h7⟩ := F
  exact ⟨cf, i, k, f, st, cell, h1, h2, h3, h4, K.2.1 st cell h5 (fun m => by have := q st m cell h5; rw [h6] at this; cases this), h6, h7⟩
/-- the same under the wide frame (a String constant may have been loaded) -/
def own_GoW (p : Program) (e : Env) (below : List Frame) (s : State) (Q : Option Value → Heap → List Loc → Prop) (C S : Nat) (A : State) : Prop :=
  ∃ s₂ o, Steps p.tables e below A s₂ ∧ s₂.status = .running ∧ Ended s₂ below o ∧ ∃ v L, o = .returned v ∧ Q v s₂.heap L ∧ ReturnedEndW s o s₂ L C S
theorem own_stepW (h : ∀ t, Steps p.tables e below B t → Steps p.tables e below A t) (k : own_GoW p e below s Q C S B) : own_GoW p e below s Q C S A := by
  obtain ⟨s₂, o, h1, h2⟩ := k; exact ⟨s₂, o, h _ h1, h2⟩
theorem own_viaW (h : Steps p.tables e below A B) (k : own_GoW p e below s Q C S B) : own_GoW p e below s Q C S A := own_stepW (fun _ q => h.trans q) k
theorem own_retNW {vm1 : Vm} {n : Nat} (X : Stand p l e R (s.setVm vm1) m args below meth c T locs cells slots) (hS : s.Since vm1 n) (hn : n ≤ T.heap.size) (hx : p.tables.exec = Jvm.exec) (hlocks : meth.locks = false) {pc : Nat} {Ls : Array Slot} {z : Int32} {t : FieldType} {rest : List Value} (hret : meth.sig.returnType = some t) (ht : t = .boolean ∨ t = .byte ∨ t = .char ∨ t = .short)
    (hd : decode c.code pc = .ok (.ireturn, 1)) (hq : Q (some (.int (nar t z))) T.heap locs) (hC : cells ≤ C) (hS' : slots ≤ S) : own_GoW p e below s Q C S (T.setTop (mkF m pc Ls (.int z :: rest))) := by
  obtain ⟨fs, hr, hrun, hended, h1, h2, h3, h4⟩ := X.leaveW hS hn (v := some (.int (nar t z))) (fun h => by rw [hret] at h; cases h) hlocks
  exact ⟨_, _, retN X hx hret ht hd hr, hrun, hended, _, _, rfl, hq, h1, h2, h3, h4.mono hC hS'⟩
theorem own_retVW {vm1 : Vm} {n : Nat} (X : Stand p l e R (s.setVm vm1) m args below meth c T locs cells slots) (hS : s.Since vm1 n) (hn : n ≤ T.heap.size) (hx : p.tables.exec = Jvm.exec) (hlocks : meth.locks = false) {pc : Nat} {Ls : Array Slot} (hret : meth.sig.returnType = none)
    (hd : decode c.code pc = .ok (.return_, 1)) (hq : Q none T.heap locs) (hC : cells ≤ C) (hS' : slots ≤ S) : own_GoW p e below s Q C S (T.setTop (mkF m pc Ls [])) := by
  obtain ⟨fs, hr, hrun, hended, h1, h2, h3, h4⟩ := X.leaveW hS hn (v := none) (fun _ => rfl) hlocks
  exact ⟨_, _, X.returnOut hx hret hd hr, hrun, hended, _, _, rfl, hq, h1, h2, h3, h4.mono hC hS'⟩
/-- .. and the tables at the end may be told of -/
def own_GoL (p : Program) (e : Env) (below : List Frame) (s : State) (QL : Option Value → Heap → Vm → List Loc → Prop) (C S : Nat) (A : State) : Prop :=
  ∃ s₂ o, Steps p.tables e below A s₂ ∧ s₂.status = .running ∧ Ended s₂ below o ∧ ∃ v L, o = .returned v ∧ QL v s₂.heap s₂.vm L ∧ ReturnedEndW s o s₂ L C S
variable {QL : Option Value → Heap → Vm → List Loc → Prop}
theorem own_stepL (h : ∀ t, Steps p.tables e below B t → Steps p.tables e below A t) (k : own_GoL p e below s QL C S B) : own_GoL p e below s QL C S A := by
  obtain ⟨s₂, o, h1, h2⟩ := k; exact ⟨s₂, o, h _ h1, h2⟩
theorem own_viaL (h : Steps p.tables e below A B) (k : own_GoL p e below s QL C S B) : own_GoL p e below s QL C S A := own_stepL (fun _ q => h.trans q) k
theorem own_retVL {vm1 : Vm} {n : Nat} (X : Stand p l e R (s.setVm vm1) m args below meth c T locs cells slots) (hS : s.Since vm1 n) (hn : n ≤ T.heap.size) (hx : p.tables.exec = Jvm.exec) (hlocks : meth.locks = false) {pc : Nat} {Ls : Array Slot} (hret : meth.sig.returnType = none)
    (hd : decode c.code pc = .ok (.return_, 1)) (hq : QL none T.heap T.vm locs) (hC : cells ≤ C) (hS' : slots ≤ S) : own_GoL p e below s QL C S (T.setTop (mkF m pc Ls [])) := by
  obtain ⟨fs, hr, hrun, hended, h1, h2, h3, h4⟩ := X.leaveW hS hn (v := none) (fun _ => rfl) hlocks
  exact ⟨_, _, X.returnOut hx hret hd hr, hrun, hended, _, _, rfl, hq, h1, h2, h3, h4.mono hC hS'⟩
/-- who pays a call of a body that asks that a String constant is booked -/
theorem own_backL {Z : State} {a0 : Array Value} {h : Heap} {y : MethodName} {bytes : ByteArray} {maxL : Nat} {ret : Option FieldType} {rm : Room} {len W : Nat} {as' : Array Value} {Q : Option Value → Heap → List Loc → Prop} {own : String} {idx : Nat} {sa : Addr}
    (hM : MetFree l y (head1 [Cond.code y bytes maxL ret] rm) (fun a U => a = as' ∧ Z.Warmed39 U.vm ∧ U.heap = h ∧ Lit U own idx sa) (fun _ _ _ _ _ => True) (fun _ U o U' => ∃ v L, o = .returned v ∧ Q v U'.heap L ∧ FrameEnd U o U' L rm.cells rm.slots))
    (hZ : Z.Warmed39 s.vm) (wc : (Cond.code y bytes maxL ret).before a0 Z = true) (wz : (Cond.initialized y.cls).before a0 Z = true) (hf : rm.frames + 1 ≤ R.frames) (hl : W + (maxL + 11) + rm.locals ≤ R.locals) (LL : Lit s own idx sa) :
    Back l R p e below s args y len W (fun A a => a = as' ∧ A.U.heap = h ∧ A.cells + rm.cells ≤ R.cells ∧ A.slots + rm.slots ≤ R.slots)
      (fun A _ v B => ∃ L, Q v B.U.heap L ∧ B.locs = A.locs ++ L ∧ B.cells = A.cells + rm.cells ∧ B.slots = A.slots + rm.slots) :=
  Back.of_free (bytes := bytes) (maxL := maxL) (ret := ret) (E := fun _ _ o t L k n => k = rm.cells ∧ n = rm.slots ∧ ∃ v, o = .returned v ∧ Q v t.heap L) hM hf hl
    (fun m meth c A a Y hp => have hU : Z.Warmed39 A.U.vm := wtrans hZ Y.warmed
      ⟨by show (Cond.and _ .tt).before a A.U = true; rw [Cond.before_and, mv hU wc]; rfl, mv hU wc, mv hU wz, hp.2.2.1, hp.2.2.2⟩)
    (fun m meth c A a g mk Y hp => ⟨hp.1, wtrans hZ Y.warmed, hp.2.1, State.resolvedAt?_warmed39 (s := s) Y.warmed.wide LL⟩) (fun _ _ _ _ _ _ _ _ _ => trivial)
    (fun _ _ _ _ ⟨v, L, h1, h2, h3⟩ => ⟨L, _, _, h3, rfl, rfl, v, h1, h2⟩)
    (fun m meth c A a g mk v t L k n Y hp _ _ ⟨e1, e2, v', e3, e4⟩ => by cases e3; subst e1 e2; exact ⟨L, e4, rfl, rfl, rfl⟩)
/-- who pays a call of a body that loads a String constant the first time -/
theorem own_backC {Z : State} {a0 : Array Value} {h : Heap} {y : MethodName} {bytes : ByteArray} {maxL : Nat} {ret : Option FieldType} {rm : Room} {len W : Nat} {as' : Array Value}
    (hM : MetFree l y (head1 [Cond.code y bytes maxL ret] rm) (fun a U => a = as' ∧ Z.Warmed39 U.vm ∧ U.heap = h ∧ IB Z U.vm []) (fun _ _ _ _ _ => True) (fun _ U o U' => ∃ v L, o = .returned v ∧ QL v U'.heap U'.vm L ∧ ReturnedEndW U o U' L rm.cells rm.slots))
    (hZ : Z.Warmed39 s.vm) (wc : (Cond.code y bytes maxL ret).before a0 Z = true) (wz : (Cond.initialized y.cls).before a0 Z = true) (hf : rm.frames + 1 ≤ R.frames) (hl : W + (maxL + 11) + rm.locals ≤ R.locals) (I : IB Z s.vm []) :
    BackS l R p e below s args y len W (fun A a => a = as' ∧ A.U.heap = h ∧ A.cells + rm.cells ≤ R.cells ∧ A.slots + rm.slots ≤ R.slots)
      (fun A _ v B => ∃ L, QL v B.U.heap B.U.vm L ∧ B.locs = A.locs ++ L ∧ B.cells = A.cells + rm.cells ∧ B.slots = A.slots + rm.slots) :=
  BackS.of_freeW (bytes := bytes) (maxL := maxL) (ret := ret) (E := fun _ _ o t L k n => k = rm.cells ∧ n = rm.slots ∧ ∃ v, o = .returned v ∧ QL v t.heap t.vm L) hM hf hl
    (fun m meth c A a Y hp => have hU : Z.Warmed39 A.U.vm := wtrans hZ Y.warmed
      ⟨by show (Cond.and _ .tt).before a A.U = true; rw [Cond.before_and, mv hU wc]; rfl, mv hU wc, mv hU wz, hp.2.2.1, hp.2.2.2⟩)
    (fun m meth c A a g mk Y hp => ⟨hp.1, wtrans hZ Y.warmed, hp.2.1, by
      have q := State.Since.same_table (Y.warmed.since s.heap.size) (Nat.le_refl _)
      obtain ⟨more, e1, e2⟩ := I
      exact ⟨more, q.trans e1, e2⟩⟩) (fun _ _ _ _ _ _ _ _ _ => trivial)
    (fun _ _ _ _ ⟨v, L, h1, h2, h3⟩ => ⟨L, _, _, h3, rfl, rfl, v, h1, h2⟩)
    (fun m meth c A a g mk v t L k n Y hp _ _ ⟨e1, e2, v', e3, e4⟩ => by cases e3; subst e1 e2; exact ⟨L, e4, rfl, rfl, rfl⟩)
end OwnGo

def own_b (p : Prop) [Decidable p] : Int32 := if p then 1 else 0
theorem own_bt {p : Prop} [Decidable p] (h : p) : own_b p = 1 := if_pos h
theorem own_bf {p : Prop} [Decidable p] (h : ¬ p) : own_b p = 0 := if_neg h
theorem own_bn (p : Prop) [Decidable p] : narrow .boolean (.int (own_b p)) = .int (own_b p) := by unfold own_b; split <;> rfl
theorem own_bfit (p : Prop) [Decidable p] : fits .boolean (.int (own_b p)) = true := by unfold own_b; split <;> rfl
theorem own_iff {p q : Prop} [Decidable p] [Decidable q] (h : p ↔ q) : own_b p = own_b q := by unfold own_b; simp only [h]
def own_nib (c : Int32) : Int32 := if ¬ c < 48 ∧ ¬ 57 < c then c - 48 else if ¬ c < 97 ∧ ¬ 102 < c then c - 97 + 10 else -1
def own_hx (n : Int32) : Int32 := if n < 10 then 48 + n else 87 + n
theorem own_toInt {n : Nat} (h : n < 2 ^ 31) : (Int32.ofNat n).toInt = n := Int32.toInt_ofNat_of_lt h
theorem own_nat {n : Nat} (h : n < 2 ^ 31) : (Int32.ofNat n).toNatClampNeg = n := by simp only [Int32.toNatClampNeg, own_toInt h]; rfl
theorem own_lt {a b : Nat} (ha : a < 2 ^ 31) (hb : b < 2 ^ 31) : Int32.ofNat a < Int32.ofNat b ↔ a < b := by rw [Int32.lt_iff_toInt_lt, own_toInt ha, own_toInt hb]; omega
theorem own_succ (i : Nat) : Int32.ofNat i + 1 = Int32.ofNat (i + 1) := by rw [Int32.ofNat_add]; rfl
theorem own_in {cl : Cell} {n sz : Nat} (hs : cl.slots.size = sz) (h : n < sz) (hz : sz ≤ 2 ^ 31) : ¬ (Int32.ofNat n < 0 ∨ cl.slots.size ≤ (Int32.ofNat n).toNatClampNeg) := by
  rw [own_nat (by omega), hs, Int32.lt_iff_toInt_lt, own_toInt (by omega)]
  have e0 : (0 : Int32).toInt = 0 := rfl
  omega
theorem own_idem (e : Int32) : nar .char (nar .char e) = nar .char e := by
  have h1 : ∀ u : UInt16, u.toUInt32.toInt32.toUInt32.toUInt16 = u := fun u => by show u.toUInt32.toUInt16 = u; simp
  show e.toUInt32.toUInt16.toUInt32.toInt32.toUInt32.toUInt16.toUInt32.toInt32 = e.toUInt32.toUInt16.toUInt32.toInt32
  rw [h1]
theorem own_k8 {p : Int32} (h1 : ¬ (p < (0 : Int32))) (h2 : p < (8 : Int32)) : p.toNatClampNeg < 8 := by
  rw [Int32.lt_iff_toInt_lt] at h1 h2
  have e0 : (0 : Int32).toInt = 0 := rfl
  have e8 : (8 : Int32).toInt = 8 := rfl
  simp only [Int32.toNatClampNeg]; omega
theorem own_addk {n k : Nat} {c : Int32} (hc : c = Int32.ofNat k) : Int32.ofNat n + c = Int32.ofNat (n + k) := by rw [hc, ← Int32.ofNat_add]
theorem own_addn {n k : Nat} {c : Int32} (hc : c = Int32.ofNat k) (h : n + k < 2 ^ 31) : (Int32.ofNat n + c).toNatClampNeg = n + k := by rw [own_addk hc, own_nat h]
theorem own_n0 {n : Nat} (h : n < 2 ^ 31) : ¬ (Int32.ofNat n < (0 : Int32)) := by rw [Int32.lt_iff_toInt_lt, own_toInt h]; have e0 : (0 : Int32).toInt = 0 := rfl; omega
theorem own_p0 {n k : Nat} {c : Int32} (hc : c = Int32.ofNat k) (h : n + k < 2 ^ 31) : ¬ (Int32.ofNat n + c < (0 : Int32)) := by rw [own_addk hc]; exact own_n0 h
theorem own_b12 {j : Int32} {i : Nat} (e : j.toNatClampNeg = i) (hi : i < 12) (h0 : ¬ (j < (0 : Int32))) : ¬ j < 0 ∧ j < 12 := by
  refine ⟨h0, ?_⟩
  rw [Int32.lt_iff_toInt_lt] at *
  have e0 : (0 : Int32).toInt = 0 := rfl
  have e8 : (12 : Int32).toInt = 12 := rfl
  simp only [Int32.toNatClampNeg] at e; omega
theorem own_dig1 {c : Int32} (h1 : ¬ c < 48) (h2 : ¬ 57 < c) : ¬ (c - 48 < 0) := by
  rw [Int32.lt_iff_toInt_lt] at *
  have e0 : (0 : Int32).toInt = 0 := rfl
  have e1 : (48 : Int32).toInt = 48 := rfl
  have e2 : (57 : Int32).toInt = 57 := rfl
  have e : (c - 48).toInt = c.toInt - 48 := by rw [Int32.toInt_sub, e1, Int.bmod_eq_of_le] <;> omega
  omega
theorem own_dig2 {c : Int32} (h1 : ¬ c < 97) (h2 : ¬ 102 < c) : ¬ (c - 97 + 10 < 0) := by
  rw [Int32.lt_iff_toInt_lt] at *
  have e0 : (0 : Int32).toInt = 0 := rfl
  have e1 : (97 : Int32).toInt = 97 := rfl
  have e2 : (102 : Int32).toInt = 102 := rfl
  have e3 : (10 : Int32).toInt = 10 := rfl
  have e : (c - 97).toInt = c.toInt - 97 := by rw [Int32.toInt_sub, e1, Int.bmod_eq_of_le] <;> omega
  have e' : (c - 97 + 10).toInt = c.toInt - 97 + 10 := by rw [Int32.toInt_add, e, e3, Int.bmod_eq_of_le] <;> omega
  omega
theorem own_e3 {p : Int32} {n : Nat} (h : p - Int32.ofNat n = 8) : p = Int32.ofNat (n + 8) := by
  have e : p = (p - Int32.ofNat n) + Int32.ofNat n := by
    rw [← Int32.toBitVec_inj, Int32.toBitVec_add, Int32.toBitVec_sub, BitVec.sub_add_cancel]
  rw [e, h, Int32.add_comm]; exact own_addk (k := 8) rfl
theorem own_cancel (a b : Int32) : (a + b) - a = b := by
  rw [← Int32.toBitVec_inj, Int32.toBitVec_sub, Int32.toBitVec_add, BitVec.add_comm, BitVec.add_sub_cancel]
theorem own_l28 (x : Int64) : (x <<< ((28 : Int32) &&& 0x3f).toInt64).toBitVec = x.toBitVec <<< 28 := rfl
theorem own_l24 (x : Int64) : (x <<< ((24 : Int32) &&& 0x3f).toInt64).toBitVec = x.toBitVec <<< 24 := rfl
theorem own_l20 (x : Int64) : (x <<< ((20 : Int32) &&& 0x3f).toInt64).toBitVec = x.toBitVec <<< 20 := rfl
theorem own_l16 (x : Int64) : (x <<< ((16 : Int32) &&& 0x3f).toInt64).toBitVec = x.toBitVec <<< 16 := rfl
theorem own_l12 (x : Int64) : (x <<< ((12 : Int32) &&& 0x3f).toInt64).toBitVec = x.toBitVec <<< 12 := rfl
theorem own_l8 (x : Int64) : (x <<< ((8 : Int32) &&& 0x3f).toInt64).toBitVec = x.toBitVec <<< 8 := rfl
theorem own_l4 (x : Int64) : (x <<< ((4 : Int32) &&& 0x3f).toInt64).toBitVec = x.toBitVec <<< 4 := rfl
def own_nx (a d : Int64) : Int64 := (a <<< ((4 : Int32) &&& 0x3f).toInt64) ||| d
theorem own_join (d0 d1 d2 d3 d4 d5 d6 d7 : Int64) : own_nx (own_nx (own_nx (own_nx (own_nx (own_nx (own_nx (own_nx 0 d0) d1) d2) d3) d4) d5) d6) d7 =
    ((((((((d0 <<< ((28 : Int32) &&& 0x3f).toInt64) ||| (d1 <<< ((24 : Int32) &&& 0x3f).toInt64)) ||| (d2 <<< ((20 : Int32) &&& 0x3f).toInt64)) ||| (d3 <<< ((16 : Int32) &&& 0x3f).toInt64)) ||| (d4 <<< ((12 : Int32) &&& 0x3f).toInt64)) ||| (d5 <<< ((8 : Int32) &&& 0x3f).toInt64)) ||| (d6 <<< ((4 : Int32) &&& 0x3f).toInt64)) ||| d7) := by
  rw [← Int64.toBitVec_inj]
  simp only [own_nx, Int64.toBitVec_or, own_l28, own_l24, own_l20, own_l16, own_l12, own_l8, own_l4, BitVec.shiftLeft_or_distrib, ← BitVec.shiftLeft_add, show (0 : Int64).toBitVec = 0#64 from rfl, BitVec.zero_shiftLeft, BitVec.zero_or]
def own_pc (f : Nat → Int32) : Nat → Nat → Int64 → Int64
  | _, 0, acc => acc
  | i, k + 1, acc => if own_nib (f i) < 0 then -1 else own_pc f (i + 1) k (own_nx acc (own_nib (f i)).toInt64)
def own_P8 (x0 x1 x2 x3 x4 x5 x6 x7 : Int32) : Int64 := if own_nib x0 < 0 then -1 else if own_nib x1 < 0 then -1 else if own_nib x2 < 0 then -1 else if own_nib x3 < 0 then -1 else if own_nib x4 < 0 then -1 else if own_nib x5 < 0 then -1 else if own_nib x6 < 0 then -1 else if own_nib x7 < 0 then -1 else
  own_nx (own_nx (own_nx (own_nx (own_nx (own_nx (own_nx (own_nx 0 (own_nib x0).toInt64) (own_nib x1).toInt64) (own_nib x2).toInt64) (own_nib x3).toInt64) (own_nib x4).toInt64) (own_nib x5).toInt64) (own_nib x6).toInt64) (own_nib x7).toInt64
theorem own_pc8 (f : Nat → Int32) (n : Nat) : own_pc f n 8 0 = own_P8 (f n) (f (n + 1)) (f (n + 2)) (f (n + 3)) (f (n + 4)) (f (n + 5)) (f (n + 6)) (f (n + 7)) := rfl
theorem own_m15 (x : Int32) : ∃ j : Nat, j < 16 ∧ (x &&& (15 : Int32)) = Int32.ofNat j := by
  have h : (x &&& (15 : Int32)).toBitVec.msb = false := by
    rw [Int32.toBitVec_and, BitVec.msb_and, show (15 : Int32).toBitVec.msb = false from rfl, Bool.and_false]
  have e := BitVec.toInt_eq_toNat_of_msb h
  have l : (x &&& (15 : Int32)).toBitVec.toNat < 16 := by
    rw [Int32.toBitVec_and, BitVec.toNat_and, show (15 : Int32).toBitVec.toNat = 2 ^ 4 - 1 from rfl, Nat.and_two_pow_sub_one_eq_mod]; omega
  refine ⟨(x &&& (15 : Int32)).toBitVec.toNat, l, ?_⟩
  rw [← Int32.toInt_inj, Int32.toInt_ofNat_of_lt (by omega)]; exact e
theorem own_m3 (x : Int32) : ∃ j : Nat, j < 4 ∧ (x &&& (3 : Int32)) = Int32.ofNat j := by
  have h : (x &&& (3 : Int32)).toBitVec.msb = false := by
    rw [Int32.toBitVec_and, BitVec.msb_and, show (3 : Int32).toBitVec.msb = false from rfl, Bool.and_false]
  have e := BitVec.toInt_eq_toNat_of_msb h
  have l : (x &&& (3 : Int32)).toBitVec.toNat < 4 := by
    rw [Int32.toBitVec_and, BitVec.toNat_and, show (3 : Int32).toBitVec.toNat = 2 ^ 2 - 1 from rfl, Nat.and_two_pow_sub_one_eq_mod]; omega
  refine ⟨(x &&& (3 : Int32)).toBitVec.toNat, l, ?_⟩
  rw [← Int32.toInt_inj, Int32.toInt_ofNat_of_lt (by omega)]; exact e
theorem own_text {cl : Cell} {n1 : Nat} {z0 z1 z2 z3 z4 z5 z6 z7 : Int32} (hs : cl.slots.size = 12) (h1 : n1 < 4)
    (Hs : Has cl (((((((([(.int (55 : Int32)), (.int (55 : Int32)), (.int (55 : Int32)), (.int (55 : Int32)), (.int (55 : Int32)), (.int (55 : Int32)), (.int (55 : Int32)), (.int (55 : Int32)), (.int (55 : Int32)), (.int (55 : Int32)), (.int (55 : Int32)), (.int (55 : Int32))].set (n1 + 0) (.int z0)).set (n1 + 1) (.int z1)).set (n1 + 2) (.int z2)).set (n1 + 3) (.int z3)).set (n1 + 4) (.int z4)).set (n1 + 5) (.int z5)).set (n1 + 6) (.int z6)).set (n1 + 7) (.int z7)) (.int (0 : Int32))) :
    ∃ f : Nat → Int32, (∀ j : Nat, j < 12 → cl.slots[j]? = some (.int (f j))) ∧ f n1 = z0 ∧ f (n1 + 1) = z1 ∧ f (n1 + 2) = z2 ∧ f (n1 + 3) = z3 ∧ f (n1 + 4) = z4 ∧ f (n1 + 5) = z5 ∧ f (n1 + 6) = z6 ∧ f (n1 + 7) = z7 := by
  have a : n1 = 0 ∨ n1 = 1 ∨ n1 = 2 ∨ n1 = 3 := by omega
  rcases a with rfl | rfl | rfl | rfl
  · refine ⟨fun j => [z0, z1, z2, z3, z4, z5, z6, z7, 55, 55, 55, 55].getD j 0, fun j hj => ?_, rfl, rfl, rfl, rfl, rfl, rfl, rfl, rfl⟩
    rw [Hs j (by omega)]
    match j, hj with | 0, _ => rfl | 1, _ => rfl | 2, _ => rfl | 3, _ => rfl | 4, _ => rfl | 5, _ => rfl | 6, _ => rfl | 7, _ => rfl | 8, _ => rfl | 9, _ => rfl | 10, _ => rfl | 11, _ => rfl
  · refine ⟨fun j => [55, z0, z1, z2, z3, z4, z5, z6, z7, 55, 55, 55].getD j 0, fun j hj => ?_, rfl, rfl, rfl, rfl, rfl, rfl, rfl, rfl⟩
    rw [Hs j (by omega)]
    match j, hj with | 0, _ => rfl | 1, _ => rfl | 2, _ => rfl | 3, _ => rfl | 4, _ => rfl | 5, _ => rfl | 6, _ => rfl | 7, _ => rfl | 8, _ => rfl | 9, _ => rfl | 10, _ => rfl | 11, _ => rfl
  · refine ⟨fun j => [55, 55, z0, z1, z2, z3, z4, z5, z6, z7, 55, 55].getD j 0, fun j hj => ?_, rfl, rfl, rfl, rfl, rfl, rfl, rfl, rfl⟩
    rw [Hs j (by omega)]
    match j, hj with | 0, _ => rfl | 1, _ => rfl | 2, _ => rfl | 3, _ => rfl | 4, _ => rfl | 5, _ => rfl | 6, _ => rfl | 7, _ => rfl | 8, _ => rfl | 9, _ => rfl | 10, _ => rfl | 11, _ => rfl
  · refine ⟨fun j => [55, 55, 55, z0, z1, z2, z3, z4, z5, z6, z7, 55].getD j 0, fun j hj => ?_, rfl, rfl, rfl, rfl, rfl, rfl, rfl, rfl⟩
    rw [Hs j (by omega)]
    match j, hj with | 0, _ => rfl | 1, _ => rfl | 2, _ => rfl | 3, _ => rfl | 4, _ => rfl | 5, _ => rfl | 6, _ => rfl | 7, _ => rfl | 8, _ => rfl | 9, _ => rfl | 10, _ => rfl | 11, _ => rfl
theorem own_ext {Z : State} {n0 : Nat} {h0 hc : Heap} (O : Old Z n0 h0) (K : Keep h0 hc []) : Ext Z.heap hc := ⟨Nat.le_trans O.2.1 K.1, fun a c q => K.2.1 a c (O.2.2 a c q) nin0⟩
theorem own_st6 {a b c d e : Value} {s6 s7 : Slot} (h : One s6) (v : Int32) : storeLocals #[.val a, .val b, .val c, .val d, .second, .val e, s6, s7] 6 (.int v) = some #[.val a, .val b, .val c, .val d, .second, .val e, .val (.int v), s7] := by
  rcases h with rfl | ⟨w, rfl, hw⟩
  · rfl
  · cases w <;> first | rfl | (simp [Value.category] at hw)
theorem own_st7 {a b c d e f : Value} {s7 : Slot} (h : One s7) (v : Int32) : storeLocals #[.val a, .val b, .val c, .val d, .second, .val e, .val f, s7] 7 (.int v) = some #[.val a, .val b, .val c, .val d, .second, .val e, .val f, .val (.int v)] := by
  rcases h with rfl | ⟨w, rfl, hw⟩
  · rfl
  · cases w <;> first | rfl | (simp [Value.category] at hw)

theorem d5_0 : decode jdk_42_method_154_code 0 = .ok (.getstatic 38, 3) := by decide +kernel
theorem d5_3 : decode jdk_42_method_154_code 3 = .ok (.ifCond .eq 14, 3) := by decide +kernel
theorem d5_6 : decode jdk_42_method_154_code 6 = .ok (.aload_n 0, 1) := by decide +kernel
theorem d5_7 : decode jdk_42_method_154_code 7 = .ok (.getfield 15, 3) := by decide +kernel
theorem d5_10 : decode jdk_42_method_154_code 10 = .ok (.ifCond .ne 7, 3) := by decide +kernel
theorem d5_13 : decode jdk_42_method_154_code 13 = .ok (.iconst 1, 1) := by decide +kernel
theorem d5_14 : decode jdk_42_method_154_code 14 = .ok (.goto 4, 3) := by decide +kernel
theorem d5_17 : decode jdk_42_method_154_code 17 = .ok (.iconst 0, 1) := by decide +kernel
theorem d5_18 : decode jdk_42_method_154_code 18 = .ok (.ireturn, 1) := by decide +kernel
theorem pn_0 : plainName "java/lang/String" = true := by first | (simp [plainName, overriddenIn]; done) | decide +kernel
theorem ef_5 (m : MethodId) (a1 : Addr) : entryFrame m #[(.ref a1)] 1 = mkF m 0 #[.val (.ref a1)] [] := by first | (simp [entryFrame, mkF, argsToLocals, Value.category]; done) | rfl
def Q5 (Z : State) (a1 : Addr) (cs : Int32) (h0 : Heap) (n0 : Nat) (v : Option Value) (h : Heap) (L : List Loc) : Prop := v = some (.int (1 : Int32)) ∧ Fr n0 L ∧ h = h0
set_option maxRecDepth 65536 in
set_option maxHeartbeats 40000000 in
theorem rm5 (l : Launch) (Z : State) (a0 : Array Value) (hw : ∀ d ∈ tables_1, d.before a0 Z = true) (ws : List Jvm.Cond) (a1 : Addr) (cs : Int32) (h0 : Heap) (n0 : Nat) (Z0 : n0 ≤ h0.size) (F_c : Fld Z h0 a1 "java/lang/String" "coder" "B" (.int (0 : Int32))) (S_C : Sta Z h0 "java/lang/String" "COMPACT_STRINGS" "Z" (.int cs)) (hcs : ¬ (cs = (0 : Int32))) :
    MetFree l (⟨"java/lang/String", "isLatin1", "()Z"⟩ : MethodName) (head1 (Jvm.Cond.code (⟨"java/lang/String", "isLatin1", "()Z"⟩ : MethodName) jdk_42_method_154_code 1 (some .boolean) :: ws) ({ frames := 0, cells := 0, slots := 0, locals := 0 } : Room)) (fun a U => a = #[(.ref a1)] ∧ Z.Warmed39 U.vm ∧ U.heap = h0) (fun _ _ _ _ _ => True) (fun _ U o U' => ∃ v L, o = .returned v ∧ Q5 Z a1 cs h0 n0 v U'.heap L ∧ FrameEnd U o U' L ({ frames := 0, cells := 0, slots := 0, locals := 0 } : Room).cells ({ frames := 0, cells := 0, slots := 0, locals := 0 } : Room).slots) := by
  refine MetFree.of_bodySF (plainFor_of_name pn_0) hisR ?_
  intro p e s m args below meth c s₁ Bd hml0 hP hK
  obtain ⟨rfl, hZ, hh⟩ := hP
  have hx := Bd.exec
  have hby := Bd.bytes
  have hml : c.maxLocals = 1 := hml0
  have hown : s.vm.findClass "java/lang/String" = some m.cls := findClass_of_methodNamed Bd.named
  have hnm := (name_of_methodNamed Bd.named Bd.method).1
  have X0 : Stand p l e ({ frames := 0, cells := 0, slots := 0, locals := 0 } : Room) s m #[(.ref a1)] below meth c s₁ [] 0 0 := Stand.of_body Bd
  have e0 : s₁.heap = h0 := by rw [← hh, Bd.state]; rfl
  have N0 := Fr.nil n0
  skip
  show own_Go p e below s (Q5 Z a1 cs h0 n0) ({ frames := 0, cells := 0, slots := 0, locals := 0 } : Room).cells ({ frames := 0, cells := 0, slots := 0, locals := 0 } : Room).slots _
  refine own_step (B := s₁.setTop (mkF m 0 #[.val (.ref a1)] [])) (fun t k => castTop (ef_5 m a1) k) ?_
  obtain ⟨T1, X1, e1, st1⟩ := getS2 X0 hx hZ hown (host := "") (Or.inl (hw _ (List.mem_of_getElem? (i := 34) rfl))) Via.refl e0 S_C (g := (mkF m 0 #[.val (.ref a1)] [])) rfl (hb hby d5_0)
  refine own_step st1 ?_
  show own_Go p e below s _ _ _ (T1.setTop (mkF m 3 #[.val (.ref a1)] [(.int cs)]))
  refine own_step (B := T1.setTop (mkF m 7 #[.val (.ref a1)] [(.ref a1)])) (fun t k => ?_) ?_
  · show Steps p.tables e below (T1.setTop (mkF m 3 #[.val (.ref a1)] [(.int cs)])) _
    refine XS.ifNo X1.here hx rfl (hb hby d5_3) rfl ((if0 _ _).trans (feq hcs).1) ?_
    refine XS.aloadN X1.here hx rfl (hb hby d5_6) rfl rfl ?_
    exact k
  obtain ⟨T2, X2, e2, st2⟩ := getF X1 hx hZ hown (host := "") (Or.inl (hw _ (List.mem_of_getElem? (i := 35) rfl))) Via.refl e1 F_c (g := (mkF m 7 #[.val (.ref a1)] [(.ref a1)])) rfl rfl (hb hby d5_7)
  refine own_step st2 ?_
  show own_Go p e below s _ _ _ (T2.setTop (mkF m 10 #[.val (.ref a1)] [(.int (0 : Int32))]))
  refine own_step (B := T2.setTop (mkF m 18 #[.val (.ref a1)] [(.int (1 : Int32))])) (fun t k => ?_) ?_
  · show Steps p.tables e below (T2.setTop (mkF m 10 #[.val (.ref a1)] [(.int (0 : Int32))])) _
    refine XS.ifNo X2.here hx rfl (hb hby d5_10) rfl ((if0 _ _).trans (teq (by decide : ((0 : Int32) = (0 : Int32)))).2) ?_
    refine XS.iconst X2.here hx rfl (hb hby d5_13) ?_
    refine XS.goto X2.here hx rfl (pc0 := 14) (pc' := 18) rfl (hb hby d5_14) (by decide) (by decide) ?_
    exact k
  exact own_retN X2 hx Bd.notSynchronized (t := .boolean) Bd.returns (by simp) (hb hby d5_18) ⟨rfl, N0, e2⟩ (by decide) (by decide)
theorem d8_0 : decode jdk_41_method_11_code 0 = .ok (.iload_n 0, 1) := by decide +kernel
theorem d8_1 : decode jdk_41_method_11_code 1 = .ok (.ifCond .lt 8, 3) := by decide +kernel
theorem d8_4 : decode jdk_41_method_11_code 4 = .ok (.iload_n 0, 1) := by decide +kernel
theorem d8_5 : decode jdk_41_method_11_code 5 = .ok (.iload_n 1, 1) := by decide +kernel
theorem d8_6 : decode jdk_41_method_11_code 6 = .ok (.if_icmp .lt 10, 3) := by decide +kernel
theorem d8_9 : decode jdk_41_method_11_code 9 = .ok (.aload_n 2, 1) := by decide +kernel
theorem d8_10 : decode jdk_41_method_11_code 10 = .ok (.iload_n 0, 1) := by decide +kernel
theorem d8_11 : decode jdk_41_method_11_code 11 = .ok (.iload_n 1, 1) := by decide +kernel
theorem d8_12 : decode jdk_41_method_11_code 12 = .ok (.invokestatic 95, 3) := by decide +kernel
theorem d8_15 : decode jdk_41_method_11_code 15 = .ok (.athrow, 1) := by decide +kernel
theorem d8_16 : decode jdk_41_method_11_code 16 = .ok (.iload_n 0, 1) := by decide +kernel
theorem d8_17 : decode jdk_41_method_11_code 17 = .ok (.ireturn, 1) := by decide +kernel
theorem pn_1 : plainName "jdk/internal/util/Preconditions" = true := by first | (simp [plainName, overriddenIn]; done) | decide +kernel
theorem ef_8 (m : MethodId) (p1 : Int32) (p2 : Int32) (a3 : Addr) : entryFrame m #[(.int p1), (.int p2), (.ref a3)] 3 = mkF m 0 #[.val (.int p1), .val (.int p2), .val (.ref a3)] [] := by first | (simp [entryFrame, mkF, argsToLocals, Value.category]; done) | rfl
def Q8 (Z : State) (p1 : Int32) (p2 : Int32) (a3 : Addr)  (h0 : Heap) (n0 : Nat) (v : Option Value) (h : Heap) (L : List Loc) : Prop := v = some (.int p1) ∧ Fr n0 L ∧ h = h0
set_option maxRecDepth 65536 in
set_option maxHeartbeats 40000000 in
theorem rm8 (l : Launch) (Z : State) (a0 : Array Value) (hw : ∀ d ∈ tables_1, d.before a0 Z = true) (ws : List Jvm.Cond) (p1 : Int32) (p2 : Int32) (a3 : Addr)  (h0 : Heap) (n0 : Nat) (Z0 : n0 ≤ h0.size) (h1 : ¬ (p1 < (0 : Int32))) (h2 : p1 < p2) :
    MetFree l (⟨"jdk/internal/util/Preconditions", "checkIndex", "(IILjava/util/function/BiFunction;)I"⟩ : MethodName) (head1 (Jvm.Cond.code (⟨"jdk/internal/util/Preconditions", "checkIndex", "(IILjava/util/function/BiFunction;)I"⟩ : MethodName) jdk_41_method_11_code 3 (some .int) :: ws) ({ frames := 0, cells := 0, slots := 0, locals := 0 } : Room)) (fun a U => a = #[(.int p1), (.int p2), (.ref a3)] ∧ Z.Warmed39 U.vm ∧ U.heap = h0) (fun _ _ _ _ _ => True) (fun _ U o U' => ∃ v L, o = .returned v ∧ Q8 Z p1 p2 a3  h0 n0 v U'.heap L ∧ FrameEnd U o U' L ({ frames := 0, cells := 0, slots := 0, locals := 0 } : Room).cells ({ frames := 0, cells := 0, slots := 0, locals := 0 } : Room).slots) := by
  refine MetFree.of_bodySF (plainFor_of_name pn_1) hisR ?_
  intro p e s m args below meth c s₁ Bd hml0 hP hK
  obtain ⟨rfl, hZ, hh⟩ := hP
  have hx := Bd.exec
  have hby := Bd.bytes
  have hml : c.maxLocals = 3 := hml0
  have hown : s.vm.findClass "jdk/internal/util/Preconditions" = some m.cls := findClass_of_methodNamed Bd.named
  have hnm := (name_of_methodNamed Bd.named Bd.method).1
  have X0 : Stand p l e ({ frames := 0, cells := 0, slots := 0, locals := 0 } : Room) s m #[(.int p1), (.int p2), (.ref a3)] below meth c s₁ [] 0 0 := Stand.of_body Bd
  have e0 : s₁.heap = h0 := by rw [← hh, Bd.state]; rfl
  have N0 := Fr.nil n0
  skip
  show own_Go p e below s (Q8 Z p1 p2 a3  h0 n0) ({ frames := 0, cells := 0, slots := 0, locals := 0 } : Room).cells ({ frames := 0, cells := 0, slots := 0, locals := 0 } : Room).slots _
  refine own_step (B := s₁.setTop (mkF m 0 #[.val (.int p1), .val (.int p2), .val (.ref a3)] [])) (fun t k => castTop (ef_8 m p1 p2 a3) k) ?_
  refine own_step (B := s₁.setTop (mkF m 17 #[.val (.int p1), .val (.int p2), .val (.ref a3)] [(.int p1)])) (fun t k => ?_) ?_
  · show Steps p.tables e below (s₁.setTop (mkF m 0 #[.val (.int p1), .val (.int p2), .val (.ref a3)] [])) _
    refine XS.iloadN X0.here hx rfl (hb hby d8_0) rfl ?_
    refine XS.ifNo X0.here hx rfl (hb hby d8_1) rfl ((if0 _ _).trans (flt h1).1) ?_
    refine XS.iloadN X0.here hx rfl (hb hby d8_4) rfl ?_
    refine XS.iloadN X0.here hx rfl (hb hby d8_5) rfl ?_
    refine XS.icmpYes X0.here hx rfl (pc0 := 6) (pc' := 16) rfl (hb hby d8_6) rfl (tlt h2).1 (by decide) (by decide) ?_
    refine XS.iloadN X0.here hx rfl (hb hby d8_16) rfl ?_
    exact k
  exact own_retI X0 hx Bd.notSynchronized Bd.returns (hb hby d8_17) ⟨rfl, N0, e0⟩ (by decide) (by decide)
theorem ef_8n (m : MethodId) (p1 : Int32) (p2 : Int32) : entryFrame m #[(.int p1), (.int p2), .null] 3 = mkF m 0 #[.val (.int p1), .val (.int p2), .val .null] [] := by first | (simp [entryFrame, mkF, argsToLocals, Value.category]; done) | rfl
def Q8n (Z : State) (p1 : Int32) (p2 : Int32)  (h0 : Heap) (n0 : Nat) (v : Option Value) (h : Heap) (L : List Loc) : Prop := v = some (.int p1) ∧ Fr n0 L ∧ h = h0
set_option maxRecDepth 65536 in
set_option maxHeartbeats 40000000 in
theorem rm8n (l : Launch) (Z : State) (a0 : Array Value) (hw : ∀ d ∈ tables_1, d.before a0 Z = true) (ws : List Jvm.Cond) (p1 : Int32) (p2 : Int32)  (h0 : Heap) (n0 : Nat) (Z0 : n0 ≤ h0.size) (h1 : ¬ (p1 < (0 : Int32))) (h2 : p1 < p2) :
    MetFree l (⟨"jdk/internal/util/Preconditions", "checkIndex", "(IILjava/util/function/BiFunction;)I"⟩ : MethodName) (head1 (Jvm.Cond.code (⟨"jdk/internal/util/Preconditions", "checkIndex", "(IILjava/util/function/BiFunction;)I"⟩ : MethodName) jdk_41_method_11_code 3 (some .int) :: ws) ({ frames := 0, cells := 0, slots := 0, locals := 0 } : Room)) (fun a U => a = #[(.int p1), (.int p2), .null] ∧ Z.Warmed39 U.vm ∧ U.heap = h0) (fun _ _ _ _ _ => True) (fun _ U o U' => ∃ v L, o = .returned v ∧ Q8n Z p1 p2  h0 n0 v U'.heap L ∧ FrameEnd U o U' L ({ frames := 0, cells := 0, slots := 0, locals := 0 } : Room).cells ({ frames := 0, cells := 0, slots := 0, locals := 0 } : Room).slots) := by
  refine MetFree.of_bodySF (plainFor_of_name pn_1) hisR ?_
  intro p e s m args below meth c s₁ Bd hml0 hP hK
  obtain ⟨rfl, hZ, hh⟩ := hP
  have hx := Bd.exec
  have hby := Bd.bytes
  have hml : c.maxLocals = 3 := hml0
  have hown : s.vm.findClass "jdk/internal/util/Preconditions" = some m.cls := findClass_of_methodNamed Bd.named
  have hnm := (name_of_methodNamed Bd.named Bd.method).1
  have X0 : Stand p l e ({ frames := 0, cells := 0, slots := 0, locals := 0 } : Room) s m #[(.int p1), (.int p2), .null] below meth c s₁ [] 0 0 := Stand.of_body Bd
  have e0 : s₁.heap = h0 := by rw [← hh, Bd.state]; rfl
  have N0 := Fr.nil n0
  skip
  show own_Go p e below s (Q8n Z p1 p2  h0 n0) ({ frames := 0, cells := 0, slots := 0, locals := 0 } : Room).cells ({ frames := 0, cells := 0, slots := 0, locals := 0 } : Room).slots _
  refine own_step (B := s₁.setTop (mkF m 0 #[.val (.int p1), .val (.int p2), .val .null] [])) (fun t k => castTop (ef_8n m p1 p2) k) ?_
  refine own_step (B := s₁.setTop (mkF m 17 #[.val (.int p1), .val (.int p2), .val .null] [(.int p1)])) (fun t k => ?_) ?_
  · show Steps p.tables e below (s₁.setTop (mkF m 0 #[.val (.int p1), .val (.int p2), .val .null] [])) _
    refine XS.iloadN X0.here hx rfl (hb hby d8_0) rfl ?_
    refine XS.ifNo X0.here hx rfl (hb hby d8_1) rfl ((if0 _ _).trans (flt h1).1) ?_
    refine XS.iloadN X0.here hx rfl (hb hby d8_4) rfl ?_
    refine XS.iloadN X0.here hx rfl (hb hby d8_5) rfl ?_
    refine XS.icmpYes X0.here hx rfl (pc0 := 6) (pc' := 16) rfl (hb hby d8_6) rfl (tlt h2).1 (by decide) (by decide) ?_
    refine XS.iloadN X0.here hx rfl (hb hby d8_16) rfl ?_
    exact k
  exact own_retI X0 hx Bd.notSynchronized Bd.returns (hb hby d8_17) ⟨rfl, N0, e0⟩ (by decide) (by decide)
theorem d7_0 : decode jdk_42_method_155_code 0 = .ok (.iload_n 0, 1) := by decide +kernel
theorem d7_1 : decode jdk_42_method_155_code 1 = .ok (.iload_n 1, 1) := by decide +kernel
theorem d7_2 : decode jdk_42_method_155_code 2 = .ok (.getstatic 1053, 3) := by decide +kernel
theorem d7_5 : decode jdk_42_method_155_code 5 = .ok (.invokestatic 1059, 3) := by decide +kernel
theorem d7_8 : decode jdk_42_method_155_code 8 = .ok (.pop, 1) := by decide +kernel
theorem d7_9 : decode jdk_42_method_155_code 9 = .ok (.return_, 1) := by decide +kernel
theorem pd_2 : parseMethodDescriptor "(IILjava/util/function/BiFunction;)I" = some ⟨[.int, .int, (.object "java/util/function/BiFunction")], some .int⟩ := by decide +kernel
theorem ef_7 (m : MethodId) (p1 : Int32) (p2 : Int32) : entryFrame m #[(.int p1), (.int p2)] 2 = mkF m 0 #[.val (.int p1), .val (.int p2)] [] := by first | (simp [entryFrame, mkF, argsToLocals, Value.category]; done) | rfl
def Q7 (Z : State) (p1 : Int32) (p2 : Int32) (vf : Value) (h0 : Heap) (n0 : Nat) (v : Option Value) (h : Heap) (L : List Loc) : Prop := v = none ∧ Fr n0 L ∧ h = h0
set_option maxRecDepth 65536 in
set_option maxHeartbeats 40000000 in
theorem rm7 (l : Launch) (Z : State) (a0 : Array Value) (hw : ∀ d ∈ tables_1, d.before a0 Z = true) (ws : List Jvm.Cond) (p1 : Int32) (p2 : Int32) (vf : Value) (h0 : Heap) (n0 : Nat) (Z0 : n0 ≤ h0.size) (h1 : ¬ (p1 < (0 : Int32))) (h2 : p1 < p2) (S_F : Sta Z h0 "jdk/internal/util/Preconditions" "SIOOBE_FORMATTER" "Ljava/util/function/BiFunction;" vf) (hvf : vf.isRef = true) :
    MetFree l (⟨"java/lang/String", "checkIndex", "(II)V"⟩ : MethodName) (head1 (Jvm.Cond.code (⟨"java/lang/String", "checkIndex", "(II)V"⟩ : MethodName) jdk_42_method_155_code 2 none :: ws) ({ frames := 1, cells := 0, slots := 0, locals := 14 } : Room)) (fun a U => a = #[(.int p1), (.int p2)] ∧ Z.Warmed39 U.vm ∧ U.heap = h0) (fun _ _ _ _ _ => True) (fun _ U o U' => ∃ v L, o = .returned v ∧ Q7 Z p1 p2 vf h0 n0 v U'.heap L ∧ FrameEnd U o U' L ({ frames := 1, cells := 0, slots := 0, locals := 14 } : Room).cells ({ frames := 1, cells := 0, slots := 0, locals := 14 } : Room).slots) := by
  refine MetFree.of_bodySF (plainFor_of_name pn_0) hisR ?_
  intro p e s m args below meth c s₁ Bd hml0 hP hK
  obtain ⟨rfl, hZ, hh⟩ := hP
  have hx := Bd.exec
  have hby := Bd.bytes
  have hml : c.maxLocals = 2 := hml0
  have hown : s.vm.findClass "java/lang/String" = some m.cls := findClass_of_methodNamed Bd.named
  have hnm := (name_of_methodNamed Bd.named Bd.method).1
  have X0 : Stand p l e ({ frames := 1, cells := 0, slots := 0, locals := 14 } : Room) s m #[(.int p1), (.int p2)] below meth c s₁ [] 0 0 := Stand.of_body Bd
  have e0 : s₁.heap = h0 := by rw [← hh, Bd.state]; rfl
  have N0 := Fr.nil n0
  skip
  show own_Go p e below s (Q7 Z p1 p2 vf h0 n0) ({ frames := 1, cells := 0, slots := 0, locals := 14 } : Room).cells ({ frames := 1, cells := 0, slots := 0, locals := 14 } : Room).slots _
  refine own_step (B := s₁.setTop (mkF m 0 #[.val (.int p1), .val (.int p2)] [])) (fun t k => castTop (ef_7 m p1 p2) k) ?_
  refine own_step (B := s₁.setTop (mkF m 2 #[.val (.int p1), .val (.int p2)] [(.int p2), (.int p1)])) (fun t k => ?_) ?_
  · show Steps p.tables e below (s₁.setTop (mkF m 0 #[.val (.int p1), .val (.int p2)] [])) _
    refine XS.iloadN X0.here hx rfl (hb hby d7_0) rfl ?_
    refine XS.iloadN X0.here hx rfl (hb hby d7_1) rfl ?_
    exact k
  rcases ref_cases hvf with rfl | ⟨af, rfl⟩
  · obtain ⟨T1, X1, e1, st1⟩ := getS2 X0 hx hZ hown (host := "") (Or.inl (hw _ (List.mem_of_getElem? (i := 44) rfl))) Via.refl e0 S_F (g := (mkF m 2 #[.val (.int p1), .val (.int p2)] [(.int p2), (.int p1)])) rfl (hb hby d7_2)
    refine own_step st1 ?_
    show own_Go p e below s _ _ _ (T1.setTop (mkF m 5 #[.val (.int p1), .val (.int p2)] [.null, (.int p2), (.int p1)]))
    obtain ⟨_, _, ⟨T2, L2, k2, n2⟩, -, X2, ⟨Lc2, hQ2, l2, y2, z2⟩, st2⟩ := Jvm.LawKit.callS X1 hx (y := (⟨"jdk/internal/util/Preconditions", "checkIndex", "(IILjava/util/function/BiFunction;)I"⟩ : MethodName)) hown (mvT hZ (hw _ (List.mem_of_getElem? (i := 46) rfl))) (mvT hZ (hw _ (List.mem_of_getElem? (i := 47) rfl))) (mvT hZ (hw _ (List.mem_of_getElem? (i := 45) rfl))) (mvT hZ (hw _ (List.mem_of_getElem? (i := 48) rfl))) (by decide) (backOf (W := 0) (rm8n l Z a0 hw [] p1 p2  h0 n0 Z0 h1 h2) hZ (hw _ (List.mem_of_getElem? (i := 48) rfl)) (hw _ (List.mem_of_getElem? (i := 45) rfl)) (by decide) (by decide) ) (g := (mkF m 5 #[.val (.int p1), .val (.int p2)] [.null, (.int p2), (.int p1)])) rfl (by rw [hml]; rfl) (argsL := [(.int p1), (.int p2), .null]) (rest := []) (lenOf pd_2 rfl) rfl (by show 2 * 0 + _ ≤ _; exact Nat.le_of_eq rfl) (hb hby d7_5) (fun _ _ => ⟨rfl, e1, (by decide : 0 + 0 ≤ _), (by decide : 0 + 0 ≤ _)⟩)
    dsimp only [Pt.U, Pt.locs, Pt.cells, Pt.slots] at X2 l2 y2 z2 st2 hQ2
    subst l2 y2 z2
    obtain ⟨rfl, N2q, e2⟩ := hQ2
    have N2 := Fr.app N0 N2q
    refine own_step st2 ?_
    show own_Go p e below s _ _ _ (T2.setTop (mkF m 8 #[.val (.int p1), .val (.int p2)] [(.int p1)]))
    refine own_step (B := T2.setTop (mkF m 9 #[.val (.int p1), .val (.int p2)] [])) (fun t k => ?_) ?_
    · show Steps p.tables e below (T2.setTop (mkF m 8 #[.val (.int p1), .val (.int p2)] [(.int p1)])) _
      refine XS.pop X2.here hx rfl (hb hby d7_8) rfl rfl ?_
      exact k
    exact own_retV X2 hx Bd.notSynchronized Bd.returns (hb hby d7_9) ⟨rfl, N2, e2⟩ (by decide) (by decide)
  · obtain ⟨T3, X3, e3, st3⟩ := getS2 X0 hx hZ hown (host := "") (Or.inl (hw _ (List.mem_of_getElem? (i := 44) rfl))) Via.refl e0 S_F (g := (mkF m 2 #[.val (.int p1), .val (.int p2)] [(.int p2), (.int p1)])) rfl (hb hby d7_2)
    refine own_step st3 ?_
    show own_Go p e below s _ _ _ (T3.setTop (mkF m 5 #[.val (.int p1), .val (.int p2)] [(.ref af), (.int p2), (.int p1)]))
    obtain ⟨_, _, ⟨T4, L4, k4, n4⟩, -, X4, ⟨Lc4, hQ4, l4, y4, z4⟩, st4⟩ := Jvm.LawKit.callS X3 hx (y := (⟨"jdk/internal/util/Preconditions", "checkIndex", "(IILjava/util/function/BiFunction;)I"⟩ : MethodName)) hown (mvT hZ (hw _ (List.mem_of_getElem? (i := 46) rfl))) (mvT hZ (hw _ (List.mem_of_getElem? (i := 47) rfl))) (mvT hZ (hw _ (List.mem_of_getElem? (i := 45) rfl))) (mvT hZ (hw _ (List.mem_of_getElem? (i := 48) rfl))) (by decide) (backOf (W := 0) (rm8 l Z a0 hw [] p1 p2 af  h0 n0 Z0 h1 h2) hZ (hw _ (List.mem_of_getElem? (i := 48) rfl)) (hw _ (List.mem_of_getElem? (i := 45) rfl)) (by decide) (by decide) ) (g := (mkF m 5 #[.val (.int p1), .val (.int p2)] [(.ref af), (.int p2), (.int p1)])) rfl (by rw [hml]; rfl) (argsL := [(.int p1), (.int p2), (.ref af)]) (rest := []) (lenOf pd_2 rfl) rfl (by show 2 * 0 + _ ≤ _; exact Nat.le_of_eq rfl) (hb hby d7_5) (fun _ _ => ⟨rfl, e3, (by decide : 0 + 0 ≤ _), (by decide : 0 + 0 ≤ _)⟩)
    dsimp only [Pt.U, Pt.locs, Pt.cells, Pt.slots] at X4 l4 y4 z4 st4 hQ4
    subst l4 y4 z4
    obtain ⟨rfl, N4q, e4⟩ := hQ4
    have N4 := Fr.app N0 N4q
    refine own_step st4 ?_
    show own_Go p e below s _ _ _ (T4.setTop (mkF m 8 #[.val (.int p1), .val (.int p2)] [(.int p1)]))
    refine own_step (B := T4.setTop (mkF m 9 #[.val (.int p1), .val (.int p2)] [])) (fun t k => ?_) ?_
    · show Steps p.tables e below (T4.setTop (mkF m 8 #[.val (.int p1), .val (.int p2)] [(.int p1)])) _
      refine XS.pop X4.here hx rfl (hb hby d7_8) rfl rfl ?_
      exact k
    exact own_retV X4 hx Bd.notSynchronized Bd.returns (hb hby d7_9) ⟨rfl, N4, e4⟩ (by decide) (by decide)
theorem d6_0 : decode jdk_43_method_2_code 0 = .ok (.iload_n 1, 1) := by decide +kernel
theorem d6_1 : decode jdk_43_method_2_code 1 = .ok (.aload_n 0, 1) := by decide +kernel
theorem d6_2 : decode jdk_43_method_2_code 2 = .ok (.arraylength, 1) := by decide +kernel
theorem d6_3 : decode jdk_43_method_2_code 3 = .ok (.invokestatic 9, 3) := by decide +kernel
theorem d6_6 : decode jdk_43_method_2_code 6 = .ok (.aload_n 0, 1) := by decide +kernel
theorem d6_7 : decode jdk_43_method_2_code 7 = .ok (.iload_n 1, 1) := by decide +kernel
theorem d6_8 : decode jdk_43_method_2_code 8 = .ok (.baload, 1) := by decide +kernel
theorem d6_9 : decode jdk_43_method_2_code 9 = .ok (.sipush 255, 3) := by decide +kernel
theorem d6_12 : decode jdk_43_method_2_code 12 = .ok (.iand, 1) := by decide +kernel
theorem d6_13 : decode jdk_43_method_2_code 13 = .ok (.i2c, 1) := by decide +kernel
theorem d6_14 : decode jdk_43_method_2_code 14 = .ok (.ireturn, 1) := by decide +kernel
theorem pd_3 : parseMethodDescriptor "(II)V" = some ⟨[.int, .int], none⟩ := by decide +kernel
theorem pn_4 : plainName "java/lang/StringLatin1" = true := by first | (simp [plainName, overriddenIn]; done) | decide +kernel
theorem ef_6 (m : MethodId) (a1 : Addr) (p2 : Int32) : entryFrame m #[(.ref a1), (.int p2)] 2 = mkF m 0 #[.val (.ref a1), .val (.int p2)] [] := by first | (simp [entryFrame, mkF, argsToLocals, Value.category]; done) | rfl
def Q6 (Z : State) (a1 : Addr) (p2 : Int32) (vf : Value) (cl : Cell) (ln : Int32) (x : Int32) (h0 : Heap) (n0 : Nat) (v : Option Value) (h : Heap) (L : List Loc) : Prop := v = some (.int (nar .char (nar .char (x &&& (255 : Int32))))) ∧ Fr n0 L ∧ h = h0
set_option maxRecDepth 65536 in
set_option maxHeartbeats 40000000 in
theorem rm6 (l : Launch) (Z : State) (a0 : Array Value) (hw : ∀ d ∈ tables_1, d.before a0 Z = true) (ws : List Jvm.Cond) (a1 : Addr) (p2 : Int32) (vf : Value) (cl : Cell) (ln : Int32) (x : Int32) (h0 : Heap) (n0 : Nat) (Z0 : n0 ≤ h0.size) (Ar : Arr Z h0 a1 cl .byte) (hlen : cl.slots.size.toInt32 = ln) (h1 : ¬ (p2 < (0 : Int32))) (h2 : p2 < ln) (hin : ¬ (p2 < 0 ∨ cl.slots.size ≤ (p2).toNatClampNeg)) (hat : cl.slots[(p2).toNatClampNeg]? = some (.int x)) (S_F : Sta Z h0 "jdk/internal/util/Preconditions" "SIOOBE_FORMATTER" "Ljava/util/function/BiFunction;" vf) (hvf : vf.isRef = true) :
    MetFree l (⟨"java/lang/StringLatin1", "charAt", "([BI)C"⟩ : MethodName) (head1 (Jvm.Cond.code (⟨"java/lang/StringLatin1", "charAt", "([BI)C"⟩ : MethodName) jdk_43_method_2_code 2 (some .char) :: ws) ({ frames := 2, cells := 0, slots := 0, locals := 27 } : Room)) (fun a U => a = #[(.ref a1), (.int p2)] ∧ Z.Warmed39 U.vm ∧ U.heap = h0) (fun _ _ _ _ _ => True) (fun _ U o U' => ∃ v L, o = .returned v ∧ Q6 Z a1 p2 vf cl ln x h0 n0 v U'.heap L ∧ FrameEnd U o U' L ({ frames := 2, cells := 0, slots := 0, locals := 27 } : Room).cells ({ frames := 2, cells := 0, slots := 0, locals := 27 } : Room).slots) := by
  refine MetFree.of_bodySF (plainFor_of_name pn_4) hisR ?_
  intro p e s m args below meth c s₁ Bd hml0 hP hK
  obtain ⟨rfl, hZ, hh⟩ := hP
  have hx := Bd.exec
  have hby := Bd.bytes
  have hml : c.maxLocals = 2 := hml0
  have hown : s.vm.findClass "java/lang/StringLatin1" = some m.cls := findClass_of_methodNamed Bd.named
  have hnm := (name_of_methodNamed Bd.named Bd.method).1
  have X0 : Stand p l e ({ frames := 2, cells := 0, slots := 0, locals := 27 } : Room) s m #[(.ref a1), (.int p2)] below meth c s₁ [] 0 0 := Stand.of_body Bd
  have e0 : s₁.heap = h0 := by rw [← hh, Bd.state]; rfl
  have N0 := Fr.nil n0
  skip
  show own_Go p e below s (Q6 Z a1 p2 vf cl ln x h0 n0) ({ frames := 2, cells := 0, slots := 0, locals := 27 } : Room).cells ({ frames := 2, cells := 0, slots := 0, locals := 27 } : Room).slots _
  refine own_step (B := s₁.setTop (mkF m 0 #[.val (.ref a1), .val (.int p2)] [])) (fun t k => castTop (ef_6 m a1 p2) k) ?_
  refine own_step (B := s₁.setTop (mkF m 3 #[.val (.ref a1), .val (.int p2)] [(.int ln), (.int p2)])) (fun t k => ?_) ?_
  · show Steps p.tables e below (s₁.setTop (mkF m 0 #[.val (.ref a1), .val (.int p2)] [])) _
    refine XS.iloadN X0.here hx rfl (hb hby d6_0) rfl ?_
    refine XS.aloadN X0.here hx rfl (hb hby d6_1) rfl rfl ?_
    refine X0.arraylength hx (by rw [e0]; exact Ar.1) (State.isArrayOf_alike hZ.alike Ar.2.1) (g := (mkF m 2 #[.val (.ref a1), .val (.int p2)] [(.ref a1), (.int p2)])) rfl rfl (hb hby d6_2) _ ?_
    rw [hlen]
    exact k
  obtain ⟨_, _, ⟨T1, L1, k1, n1⟩, -, X1, ⟨Lc1, hQ1, l1, y1, z1⟩, st1⟩ := Jvm.LawKit.callS X0 hx (y := (⟨"java/lang/String", "checkIndex", "(II)V"⟩ : MethodName)) hown (mvT hZ (hw _ (List.mem_of_getElem? (i := 41) rfl))) (mvT hZ (hw _ (List.mem_of_getElem? (i := 42) rfl))) (mvT hZ (hw _ (List.mem_of_getElem? (i := 17) rfl))) (mvT hZ (hw _ (List.mem_of_getElem? (i := 43) rfl))) (by decide) (backOf (W := 0) (rm7 l Z a0 hw [] p2 ln vf h0 n0 Z0 h1 h2 S_F hvf) hZ (hw _ (List.mem_of_getElem? (i := 43) rfl)) (hw _ (List.mem_of_getElem? (i := 17) rfl)) (by decide) (by decide) ) (g := (mkF m 3 #[.val (.ref a1), .val (.int p2)] [(.int ln), (.int p2)])) rfl (by rw [hml]; rfl) (argsL := [(.int p2), (.int ln)]) (rest := []) (lenOf pd_3 rfl) rfl (by show 2 * 0 + _ ≤ _; exact Nat.le_of_eq rfl) (hb hby d6_3) (fun _ _ => ⟨rfl, e0, (by decide : 0 + 0 ≤ _), (by decide : 0 + 0 ≤ _)⟩)
  dsimp only [Pt.U, Pt.locs, Pt.cells, Pt.slots] at X1 l1 y1 z1 st1 hQ1
  subst l1 y1 z1
  obtain ⟨rfl, N1q, e1⟩ := hQ1
  have N1 := Fr.app N0 N1q
  refine own_step st1 ?_
  show own_Go p e below s _ _ _ (T1.setTop (mkF m 6 #[.val (.ref a1), .val (.int p2)] []))
  refine own_step (B := T1.setTop (mkF m 14 #[.val (.ref a1), .val (.int p2)] [(.int ((x &&& (255 : Int32)).toUInt32.toUInt16.toUInt32.toInt32))])) (fun t k => ?_) ?_
  · show Steps p.tables e below (T1.setTop (mkF m 6 #[.val (.ref a1), .val (.int p2)] [])) _
    refine XS.aloadN X1.here hx rfl (hb hby d6_6) rfl rfl ?_
    refine XS.iloadN X1.here hx rfl (hb hby d6_7) rfl ?_
    refine X1.baloadBytes hx (j := p2) (v := (.int x)) (by rw [e1]; exact Ar.1) (State.isArrayOf_alike hZ.alike Ar.2.1) Ar.2.2 hin hat (g := (mkF m 8 #[.val (.ref a1), .val (.int p2)] [(.int p2), (.ref a1)])) rfl rfl (hb hby d6_8) _ ?_
    refine XS.sipush X1.here hx rfl (hb hby d6_9) ?_
    refine XS.iand X1.here hx rfl (hb hby d6_12) rfl ?_
    refine XS.i2c X1.here hx rfl (hb hby d6_13) rfl ?_
    exact k
  exact own_retN X1 hx Bd.notSynchronized (t := .char) Bd.returns (by simp) (hb hby d6_14) ⟨rfl, N1, e1⟩ (by decide) (by decide)
theorem d4_0 : decode jdk_42_method_56_code 0 = .ok (.aload_n 0, 1) := by decide +kernel
theorem d4_1 : decode jdk_42_method_56_code 1 = .ok (.invokevirtual 492, 3) := by decide +kernel
theorem d4_4 : decode jdk_42_method_56_code 4 = .ok (.ifCond .eq 12, 3) := by decide +kernel
theorem d4_7 : decode jdk_42_method_56_code 7 = .ok (.aload_n 0, 1) := by decide +kernel
theorem d4_8 : decode jdk_42_method_56_code 8 = .ok (.getfield 9, 3) := by decide +kernel
theorem d4_11 : decode jdk_42_method_56_code 11 = .ok (.iload_n 1, 1) := by decide +kernel
theorem d4_12 : decode jdk_42_method_56_code 12 = .ok (.invokestatic 495, 3) := by decide +kernel
theorem d4_15 : decode jdk_42_method_56_code 15 = .ok (.ireturn, 1) := by decide +kernel
theorem d4_16 : decode jdk_42_method_56_code 16 = .ok (.aload_n 0, 1) := by decide +kernel
theorem d4_17 : decode jdk_42_method_56_code 17 = .ok (.getfield 9, 3) := by decide +kernel
theorem d4_20 : decode jdk_42_method_56_code 20 = .ok (.iload_n 1, 1) := by decide +kernel
theorem d4_21 : decode jdk_42_method_56_code 21 = .ok (.invokestatic 498, 3) := by decide +kernel
theorem d4_24 : decode jdk_42_method_56_code 24 = .ok (.ireturn, 1) := by decide +kernel
theorem pd_5 : parseMethodDescriptor "()Z" = some ⟨[], some .boolean⟩ := by decide +kernel
theorem pd_6 : parseMethodDescriptor "([BI)C" = some ⟨[(.array .byte), .int], some .char⟩ := by decide +kernel
def own_ch (x : Int32) : Int32 := nar .char (nar .char (nar .char (x &&& (255 : Int32))))
theorem ef_4 (m : MethodId) (a1 : Addr) (p2 : Int32) : entryFrame m #[(.ref a1), (.int p2)] 2 = mkF m 0 #[.val (.ref a1), .val (.int p2)] [] := by first | (simp [entryFrame, mkF, argsToLocals, Value.category]; done) | rfl
def Q4 (Z : State) (a1 : Addr) (p2 : Int32) (cs : Int32) (vf : Value) (b : Addr) (cl : Cell) (ln : Int32) (x : Int32) (h0 : Heap) (n0 : Nat) (v : Option Value) (h : Heap) (L : List Loc) : Prop := v = some (.int (own_ch x)) ∧ Fr n0 L ∧ h = h0
set_option maxRecDepth 65536 in
set_option maxHeartbeats 40000000 in
theorem rm4 (l : Launch) (Z : State) (a0 : Array Value) (hw : ∀ d ∈ tables_1, d.before a0 Z = true) (ws : List Jvm.Cond) (a1 : Addr) (p2 : Int32) (cs : Int32) (vf : Value) (b : Addr) (cl : Cell) (ln : Int32) (x : Int32) (h0 : Heap) (n0 : Nat) (Z0 : n0 ≤ h0.size) (E_a1 : Exa Z h0 a1 "java/lang/String") (F_c : Fld Z h0 a1 "java/lang/String" "coder" "B" (.int (0 : Int32))) (F_v : Fld Z h0 a1 "java/lang/String" "value" "[B" (.ref b)) (Ar : Arr Z h0 b cl .byte) (hlen : cl.slots.size.toInt32 = ln) (h1 : ¬ (p2 < (0 : Int32))) (h2 : p2 < ln) (hin : ¬ (p2 < 0 ∨ cl.slots.size ≤ (p2).toNatClampNeg)) (hat : cl.slots[(p2).toNatClampNeg]? = some (.int x)) (S_C : Sta Z h0 "java/lang/String" "COMPACT_STRINGS" "Z" (.int cs)) (hcs : ¬ (cs = (0 : Int32))) (S_F : Sta Z h0 "jdk/internal/util/Preconditions" "SIOOBE_FORMATTER" "Ljava/util/function/BiFunction;" vf) (hvf : vf.isRef = true) :
    MetFree l (⟨"java/lang/String", "charAt", "(I)C"⟩ : MethodName) (head1 (Jvm.Cond.code (⟨"java/lang/String", "charAt", "(I)C"⟩ : MethodName) jdk_42_method_56_code 2 (some .char) :: ws) ({ frames := 3, cells := 0, slots := 0, locals := 40 } : Room)) (fun a U => a = #[(.ref a1), (.int p2)] ∧ Z.Warmed39 U.vm ∧ U.heap = h0) (fun _ _ _ _ _ => True) (fun _ U o U' => ∃ v L, o = .returned v ∧ Q4 Z a1 p2 cs vf b cl ln x h0 n0 v U'.heap L ∧ FrameEnd U o U' L ({ frames := 3, cells := 0, slots := 0, locals := 40 } : Room).cells ({ frames := 3, cells := 0, slots := 0, locals := 40 } : Room).slots) := by
  refine MetFree.of_bodySF (plainFor_of_name pn_0) hisR ?_
  intro p e s m args below meth c s₁ Bd hml0 hP hK
  obtain ⟨rfl, hZ, hh⟩ := hP
  have hx := Bd.exec
  have hby := Bd.bytes
  have hml : c.maxLocals = 2 := hml0
  have hown : s.vm.findClass "java/lang/String" = some m.cls := findClass_of_methodNamed Bd.named
  have hnm := (name_of_methodNamed Bd.named Bd.method).1
  have X0 : Stand p l e ({ frames := 3, cells := 0, slots := 0, locals := 40 } : Room) s m #[(.ref a1), (.int p2)] below meth c s₁ [] 0 0 := Stand.of_body Bd
  have e0 : s₁.heap = h0 := by rw [← hh, Bd.state]; rfl
  have N0 := Fr.nil n0
  skip
  show own_Go p e below s (Q4 Z a1 p2 cs vf b cl ln x h0 n0) ({ frames := 3, cells := 0, slots := 0, locals := 40 } : Room).cells ({ frames := 3, cells := 0, slots := 0, locals := 40 } : Room).slots _
  refine own_step (B := s₁.setTop (mkF m 0 #[.val (.ref a1), .val (.int p2)] [])) (fun t k => castTop (ef_4 m a1 p2) k) ?_
  refine own_step (B := s₁.setTop (mkF m 1 #[.val (.ref a1), .val (.int p2)] [(.ref a1)])) (fun t k => ?_) ?_
  · show Steps p.tables e below (s₁.setTop (mkF m 0 #[.val (.ref a1), .val (.int p2)] [])) _
    refine XS.aloadN X0.here hx rfl (hb hby d4_0) rfl rfl ?_
    exact k
  obtain ⟨cq1, kq1, q1a, q1b, q1c⟩ := isOf hZ e0 E_a1
  obtain ⟨_, _, ⟨T1, L1, k1, n1⟩, -, X1, ⟨Lc1, hQ1, l1, y1, z1⟩, st1⟩ := X0.virtualBack hx (y := (⟨"java/lang/String", "isLatin1", "()Z"⟩ : MethodName)) (z := (⟨"java/lang/String", "isLatin1", "()Z"⟩ : MethodName)) hown (mvT hZ (hw _ (List.mem_of_getElem? (i := 29) rfl))) (mvT hZ (hw _ (List.mem_of_getElem? (i := 30) rfl))) (notFace_of_selects (args := #[]) (mvT hZ (hw _ (List.mem_of_getElem? (i := 32) rfl)))) (mvT hZ (hw _ (List.mem_of_getElem? (i := 32) rfl))) (mvT hZ (hw _ (List.mem_of_getElem? (i := 31) rfl))) (by decide) (backOf (W := 0) (rm5 l Z a0 hw [] a1 cs h0 n0 Z0 F_c S_C hcs) hZ (hw _ (List.mem_of_getElem? (i := 33) rfl)) (hw _ (List.mem_of_getElem? (i := 17) rfl)) (by decide) (by decide) ) q1a q1c (g := (mkF m 1 #[.val (.ref a1), .val (.int p2)] [(.ref a1)])) rfl (by rw [hml]; rfl) (Steps.refl _) (argsL := []) (rest := []) (lenOf pd_5 rfl) rfl (by show 2 * 0 + _ ≤ _; exact Nat.le_of_eq rfl) (hb hby d4_1) (fun _ _ => ⟨rfl, e0, (by decide : 0 + 0 ≤ _), (by decide : 0 + 0 ≤ _)⟩)
  dsimp only [Pt.U, Pt.locs, Pt.cells, Pt.slots] at X1 l1 y1 z1 st1 hQ1
  subst l1 y1 z1
  obtain ⟨rfl, N1q, e1⟩ := hQ1
  have N1 := Fr.app N0 N1q
  refine own_via st1 ?_
  show own_Go p e below s _ _ _ (T1.setTop (mkF m 4 #[.val (.ref a1), .val (.int p2)] [(.int (1 : Int32))]))
  refine own_step (B := T1.setTop (mkF m 8 #[.val (.ref a1), .val (.int p2)] [(.ref a1)])) (fun t k => ?_) ?_
  · show Steps p.tables e below (T1.setTop (mkF m 4 #[.val (.ref a1), .val (.int p2)] [(.int (1 : Int32))])) _
    refine XS.ifNo X1.here hx rfl (hb hby d4_4) rfl ((if0 _ _).trans (feq (by decide : ¬ ((1 : Int32) = (0 : Int32)))).1) ?_
    refine XS.aloadN X1.here hx rfl (hb hby d4_7) rfl rfl ?_
    exact k
  obtain ⟨T2, X2, e2, st2⟩ := getF X1 hx hZ hown (host := "") (Or.inl (hw _ (List.mem_of_getElem? (i := 36) rfl))) Via.refl e1 F_v (g := (mkF m 8 #[.val (.ref a1), .val (.int p2)] [(.ref a1)])) rfl rfl (hb hby d4_8)
  refine own_step st2 ?_
  show own_Go p e below s _ _ _ (T2.setTop (mkF m 11 #[.val (.ref a1), .val (.int p2)] [(.ref b)]))
  refine own_step (B := T2.setTop (mkF m 12 #[.val (.ref a1), .val (.int p2)] [(.int p2), (.ref b)])) (fun t k => ?_) ?_
  · show Steps p.tables e below (T2.setTop (mkF m 11 #[.val (.ref a1), .val (.int p2)] [(.ref b)])) _
    refine XS.iloadN X2.here hx rfl (hb hby d4_11) rfl ?_
    exact k
  obtain ⟨_, _, ⟨T3, L3, k3, n3⟩, -, X3, ⟨Lc3, hQ3, l3, y3, z3⟩, st3⟩ := Jvm.LawKit.callS X2 hx (y := (⟨"java/lang/StringLatin1", "charAt", "([BI)C"⟩ : MethodName)) hown (mvT hZ (hw _ (List.mem_of_getElem? (i := 37) rfl))) (mvT hZ (hw _ (List.mem_of_getElem? (i := 38) rfl))) (mvT hZ (hw _ (List.mem_of_getElem? (i := 39) rfl))) (mvT hZ (hw _ (List.mem_of_getElem? (i := 40) rfl))) (by decide) (backOf (W := 0) (rm6 l Z a0 hw [] b p2 vf cl ln x h0 n0 Z0 Ar hlen h1 h2 hin hat S_F hvf) hZ (hw _ (List.mem_of_getElem? (i := 40) rfl)) (hw _ (List.mem_of_getElem? (i := 39) rfl)) (by decide) (by decide) ) (g := (mkF m 12 #[.val (.ref a1), .val (.int p2)] [(.int p2), (.ref b)])) rfl (by rw [hml]; rfl) (argsL := [(.ref b), (.int p2)]) (rest := []) (lenOf pd_6 rfl) rfl (by show 2 * 0 + _ ≤ _; exact Nat.le_of_eq rfl) (hb hby d4_12) (fun _ _ => ⟨rfl, e2, (by decide : 0 + 0 ≤ _), (by decide : 0 + 0 ≤ _)⟩)
  dsimp only [Pt.U, Pt.locs, Pt.cells, Pt.slots] at X3 l3 y3 z3 st3 hQ3
  subst l3 y3 z3
  obtain ⟨rfl, N3q, e3⟩ := hQ3
  have N3 := Fr.app N1 N3q
  refine own_step st3 ?_
  show own_Go p e below s _ _ _ (T3.setTop (mkF m 15 #[.val (.ref a1), .val (.int p2)] [(.int (nar .char (nar .char (x &&& (255 : Int32)))))]))
  exact own_retN X3 hx Bd.notSynchronized (t := .char) Bd.returns (by simp) (hb hby d4_15) ⟨rfl, N3, e3⟩ (by decide) (by decide)
theorem d2_0 : decode method_4_code 0 = .ok (.iload_n 0, 1) := by decide +kernel
theorem d2_1 : decode method_4_code 1 = .ok (.bipush 48, 2) := by decide +kernel
theorem d2_3 : decode method_4_code 3 = .ok (.if_icmp .lt 14, 3) := by decide +kernel
theorem d2_6 : decode method_4_code 6 = .ok (.iload_n 0, 1) := by decide +kernel
theorem d2_7 : decode method_4_code 7 = .ok (.bipush 57, 2) := by decide +kernel
theorem d2_9 : decode method_4_code 9 = .ok (.if_icmp .gt 8, 3) := by decide +kernel
theorem d2_12 : decode method_4_code 12 = .ok (.iload_n 0, 1) := by decide +kernel
theorem d2_13 : decode method_4_code 13 = .ok (.bipush 48, 2) := by decide +kernel
theorem d2_15 : decode method_4_code 15 = .ok (.isub, 1) := by decide +kernel
theorem d2_16 : decode method_4_code 16 = .ok (.ireturn, 1) := by decide +kernel
theorem d2_17 : decode method_4_code 17 = .ok (.iload_n 0, 1) := by decide +kernel
theorem d2_18 : decode method_4_code 18 = .ok (.bipush 97, 2) := by decide +kernel
theorem d2_20 : decode method_4_code 20 = .ok (.if_icmp .lt 17, 3) := by decide +kernel
theorem d2_23 : decode method_4_code 23 = .ok (.iload_n 0, 1) := by decide +kernel
theorem d2_24 : decode method_4_code 24 = .ok (.bipush 102, 2) := by decide +kernel
theorem d2_26 : decode method_4_code 26 = .ok (.if_icmp .gt 11, 3) := by decide +kernel
theorem d2_29 : decode method_4_code 29 = .ok (.iload_n 0, 1) := by decide +kernel
theorem d2_30 : decode method_4_code 30 = .ok (.bipush 97, 2) := by decide +kernel
theorem d2_32 : decode method_4_code 32 = .ok (.isub, 1) := by decide +kernel
theorem d2_33 : decode method_4_code 33 = .ok (.bipush 10, 2) := by decide +kernel
theorem d2_35 : decode method_4_code 35 = .ok (.iadd, 1) := by decide +kernel
theorem d2_36 : decode method_4_code 36 = .ok (.ireturn, 1) := by decide +kernel
theorem d2_37 : decode method_4_code 37 = .ok (.iconst (-1), 1) := by decide +kernel
theorem d2_38 : decode method_4_code 38 = .ok (.ireturn, 1) := by decide +kernel
theorem pn_7 : plainName "tidemark/RecordFormParseChecksumPinLaw" = true := by first | (simp [plainName, overriddenIn]; done) | decide +kernel
theorem ef_2 (m : MethodId) (p1 : Int32) : entryFrame m #[(.int p1)] 1 = mkF m 0 #[.val (.int p1)] [] := by first | (simp [entryFrame, mkF, argsToLocals, Value.category]; done) | rfl
def Q2 (Z : State) (p1 : Int32)  (h0 : Heap) (n0 : Nat) (v : Option Value) (h : Heap) (L : List Loc) : Prop := v = some (.int (own_nib p1)) ∧ Fr n0 L ∧ h = h0
set_option maxRecDepth 65536 in
set_option maxHeartbeats 40000000 in
theorem rm2 (l : Launch) (Z : State) (a0 : Array Value) (hw : ∀ d ∈ tables_1, d.before a0 Z = true) (ws : List Jvm.Cond) (p1 : Int32)  (h0 : Heap) (n0 : Nat) (Z0 : n0 ≤ h0.size) :
    MetFree l (⟨"tidemark/RecordFormParseChecksumPinLaw", "nib", "(C)I"⟩ : MethodName) (head1 (Jvm.Cond.code (⟨"tidemark/RecordFormParseChecksumPinLaw", "nib", "(C)I"⟩ : MethodName) method_4_code 1 (some .int) :: ws) ({ frames := 0, cells := 0, slots := 0, locals := 0 } : Room)) (fun a U => a = #[(.int p1)] ∧ Z.Warmed39 U.vm ∧ U.heap = h0) (fun _ _ _ _ _ => True) (fun _ U o U' => ∃ v L, o = .returned v ∧ Q2 Z p1  h0 n0 v U'.heap L ∧ FrameEnd U o U' L ({ frames := 0, cells := 0, slots := 0, locals := 0 } : Room).cells ({ frames := 0, cells := 0, slots := 0, locals := 0 } : Room).slots) := by
  refine MetFree.of_bodySF (plainFor_of_name pn_7) hisR ?_
  intro p e s m args below meth c s₁ Bd hml0 hP hK
  obtain ⟨rfl, hZ, hh⟩ := hP
  have hx := Bd.exec
  have hby := Bd.bytes
  have hml : c.maxLocals = 1 := hml0
  have hown : s.vm.findClass "tidemark/RecordFormParseChecksumPinLaw" = some m.cls := findClass_of_methodNamed Bd.named
  have hnm := (name_of_methodNamed Bd.named Bd.method).1
  have X0 : Stand p l e ({ frames := 0, cells := 0, slots := 0, locals := 0 } : Room) s m #[(.int p1)] below meth c s₁ [] 0 0 := Stand.of_body Bd
  have e0 : s₁.heap = h0 := by rw [← hh, Bd.state]; rfl
  have N0 := Fr.nil n0
  skip
  show own_Go p e below s (Q2 Z p1  h0 n0) ({ frames := 0, cells := 0, slots := 0, locals := 0 } : Room).cells ({ frames := 0, cells := 0, slots := 0, locals := 0 } : Room).slots _
  refine own_step (B := s₁.setTop (mkF m 0 #[.val (.int p1)] [])) (fun t k => castTop (ef_2 m p1) k) ?_
  refine own_step (B := s₁.setTop (mkF m 3 #[.val (.int p1)] [(.int (48 : Int32)), (.int p1)])) (fun t k => ?_) ?_
  · show Steps p.tables e below (s₁.setTop (mkF m 0 #[.val (.int p1)] [])) _
    refine XS.iloadN X0.here hx rfl (hb hby d2_0) rfl ?_
    refine XS.bipush X0.here hx rfl (hb hby d2_1) ?_
    exact k
  by_cases hc3 : p1 < (48 : Int32)
  · refine own_step (B := s₁.setTop (mkF m 20 #[.val (.int p1)] [(.int (97 : Int32)), (.int p1)])) (fun t k => ?_) ?_
    · show Steps p.tables e below (s₁.setTop (mkF m 3 #[.val (.int p1)] [(.int (48 : Int32)), (.int p1)])) _
      refine XS.icmpYes X0.here hx rfl (pc0 := 3) (pc' := 17) rfl (hb hby d2_3) rfl (tlt hc3).1 (by decide) (by decide) ?_
      refine XS.iloadN X0.here hx rfl (hb hby d2_17) rfl ?_
      refine XS.bipush X0.here hx rfl (hb hby d2_18) ?_
      exact k
    by_cases hc20 : p1 < (97 : Int32)
    · refine own_step (B := s₁.setTop (mkF m 38 #[.val (.int p1)] [(.int (-1 : Int32))])) (fun t k => ?_) ?_
      · show Steps p.tables e below (s₁.setTop (mkF m 20 #[.val (.int p1)] [(.int (97 : Int32)), (.int p1)])) _
        refine XS.icmpYes X0.here hx rfl (pc0 := 20) (pc' := 37) rfl (hb hby d2_20) rfl (tlt hc20).1 (by decide) (by decide) ?_
        refine XS.iconst X0.here hx rfl (hb hby d2_37) ?_
        exact k
      exact own_retI X0 hx Bd.notSynchronized Bd.returns (hb hby d2_38) ⟨by simp [own_nib, hc3, hc20], N0, e0⟩ (by decide) (by decide)
    · refine own_step (B := s₁.setTop (mkF m 26 #[.val (.int p1)] [(.int (102 : Int32)), (.int p1)])) (fun t k => ?_) ?_
      · show Steps p.tables e below (s₁.setTop (mkF m 20 #[.val (.int p1)] [(.int (97 : Int32)), (.int p1)])) _
        refine XS.icmpNo X0.here hx rfl (hb hby d2_20) rfl (flt hc20).1 ?_
        refine XS.iloadN X0.here hx rfl (hb hby d2_23) rfl ?_
        refine XS.bipush X0.here hx rfl (hb hby d2_24) ?_
        exact k
      by_cases hc26 : (102 : Int32) < p1
      · refine own_step (B := s₁.setTop (mkF m 38 #[.val (.int p1)] [(.int (-1 : Int32))])) (fun t k => ?_) ?_
        · show Steps p.tables e below (s₁.setTop (mkF m 26 #[.val (.int p1)] [(.int (102 : Int32)), (.int p1)])) _
          refine XS.icmpYes X0.here hx rfl (pc0 := 26) (pc' := 37) rfl (hb hby d2_26) rfl (tlt hc26).2.2.1 (by decide) (by decide) ?_
          refine XS.iconst X0.here hx rfl (hb hby d2_37) ?_
          exact k
        exact own_retI X0 hx Bd.notSynchronized Bd.returns (hb hby d2_38) ⟨by simp [own_nib, hc3, hc20, hc26], N0, e0⟩ (by decide) (by decide)
      · refine own_step (B := s₁.setTop (mkF m 36 #[.val (.int p1)] [(.int ((p1 - (97 : Int32)) + (10 : Int32)))])) (fun t k => ?_) ?_
        · show Steps p.tables e below (s₁.setTop (mkF m 26 #[.val (.int p1)] [(.int (102 : Int32)), (.int p1)])) _
          refine XS.icmpNo X0.here hx rfl (hb hby d2_26) rfl (flt hc26).2.2.1 ?_
          refine XS.iloadN X0.here hx rfl (hb hby d2_29) rfl ?_
          refine XS.bipush X0.here hx rfl (hb hby d2_30) ?_
          refine XS.isub X0.here hx rfl (hb hby d2_32) rfl ?_
          refine XS.bipush X0.here hx rfl (hb hby d2_33) ?_
          refine XS.iadd X0.here hx rfl (hb hby d2_35) rfl ?_
          exact k
        exact own_retI X0 hx Bd.notSynchronized Bd.returns (hb hby d2_36) ⟨by simp [own_nib, hc3, hc20, hc26], N0, e0⟩ (by decide) (by decide)
  · refine own_step (B := s₁.setTop (mkF m 9 #[.val (.int p1)] [(.int (57 : Int32)), (.int p1)])) (fun t k => ?_) ?_
    · show Steps p.tables e below (s₁.setTop (mkF m 3 #[.val (.int p1)] [(.int (48 : Int32)), (.int p1)])) _
      refine XS.icmpNo X0.here hx rfl (hb hby d2_3) rfl (flt hc3).1 ?_
      refine XS.iloadN X0.here hx rfl (hb hby d2_6) rfl ?_
      refine XS.bipush X0.here hx rfl (hb hby d2_7) ?_
      exact k
    by_cases hc9 : (57 : Int32) < p1
    · refine own_step (B := s₁.setTop (mkF m 20 #[.val (.int p1)] [(.int (97 : Int32)), (.int p1)])) (fun t k => ?_) ?_
      · show Steps p.tables e below (s₁.setTop (mkF m 9 #[.val (.int p1)] [(.int (57 : Int32)), (.int p1)])) _
        refine XS.icmpYes X0.here hx rfl (pc0 := 9) (pc' := 17) rfl (hb hby d2_9) rfl (tlt hc9).2.2.1 (by decide) (by decide) ?_
        refine XS.iloadN X0.here hx rfl (hb hby d2_17) rfl ?_
        refine XS.bipush X0.here hx rfl (hb hby d2_18) ?_
        exact k
      by_cases hc20 : p1 < (97 : Int32)
      · refine own_step (B := s₁.setTop (mkF m 38 #[.val (.int p1)] [(.int (-1 : Int32))])) (fun t k => ?_) ?_
        · show Steps p.tables e below (s₁.setTop (mkF m 20 #[.val (.int p1)] [(.int (97 : Int32)), (.int p1)])) _
          refine XS.icmpYes X0.here hx rfl (pc0 := 20) (pc' := 37) rfl (hb hby d2_20) rfl (tlt hc20).1 (by decide) (by decide) ?_
          refine XS.iconst X0.here hx rfl (hb hby d2_37) ?_
          exact k
        exact own_retI X0 hx Bd.notSynchronized Bd.returns (hb hby d2_38) ⟨by simp [own_nib, hc3, hc9, hc20], N0, e0⟩ (by decide) (by decide)
      · refine own_step (B := s₁.setTop (mkF m 26 #[.val (.int p1)] [(.int (102 : Int32)), (.int p1)])) (fun t k => ?_) ?_
        · show Steps p.tables e below (s₁.setTop (mkF m 20 #[.val (.int p1)] [(.int (97 : Int32)), (.int p1)])) _
          refine XS.icmpNo X0.here hx rfl (hb hby d2_20) rfl (flt hc20).1 ?_
          refine XS.iloadN X0.here hx rfl (hb hby d2_23) rfl ?_
          refine XS.bipush X0.here hx rfl (hb hby d2_24) ?_
          exact k
        by_cases hc26 : (102 : Int32) < p1
        · refine own_step (B := s₁.setTop (mkF m 38 #[.val (.int p1)] [(.int (-1 : Int32))])) (fun t k => ?_) ?_
          · show Steps p.tables e below (s₁.setTop (mkF m 26 #[.val (.int p1)] [(.int (102 : Int32)), (.int p1)])) _
            refine XS.icmpYes X0.here hx rfl (pc0 := 26) (pc' := 37) rfl (hb hby d2_26) rfl (tlt hc26).2.2.1 (by decide) (by decide) ?_
            refine XS.iconst X0.here hx rfl (hb hby d2_37) ?_
            exact k
          exact own_retI X0 hx Bd.notSynchronized Bd.returns (hb hby d2_38) ⟨by simp [own_nib, hc3, hc9, hc20, hc26], N0, e0⟩ (by decide) (by decide)
        · refine own_step (B := s₁.setTop (mkF m 36 #[.val (.int p1)] [(.int ((p1 - (97 : Int32)) + (10 : Int32)))])) (fun t k => ?_) ?_
          · show Steps p.tables e below (s₁.setTop (mkF m 26 #[.val (.int p1)] [(.int (102 : Int32)), (.int p1)])) _
            refine XS.icmpNo X0.here hx rfl (hb hby d2_26) rfl (flt hc26).2.2.1 ?_
            refine XS.iloadN X0.here hx rfl (hb hby d2_29) rfl ?_
            refine XS.bipush X0.here hx rfl (hb hby d2_30) ?_
            refine XS.isub X0.here hx rfl (hb hby d2_32) rfl ?_
            refine XS.bipush X0.here hx rfl (hb hby d2_33) ?_
            refine XS.iadd X0.here hx rfl (hb hby d2_35) rfl ?_
            exact k
          exact own_retI X0 hx Bd.notSynchronized Bd.returns (hb hby d2_36) ⟨by simp [own_nib, hc3, hc9, hc20, hc26], N0, e0⟩ (by decide) (by decide)
    · refine own_step (B := s₁.setTop (mkF m 16 #[.val (.int p1)] [(.int (p1 - (48 : Int32)))])) (fun t k => ?_) ?_
      · show Steps p.tables e below (s₁.setTop (mkF m 9 #[.val (.int p1)] [(.int (57 : Int32)), (.int p1)])) _
        refine XS.icmpNo X0.here hx rfl (hb hby d2_9) rfl (flt hc9).2.2.1 ?_
        refine XS.iloadN X0.here hx rfl (hb hby d2_12) rfl ?_
        refine XS.bipush X0.here hx rfl (hb hby d2_13) ?_
        refine XS.isub X0.here hx rfl (hb hby d2_15) rfl ?_
        exact k
      exact own_retI X0 hx Bd.notSynchronized Bd.returns (hb hby d2_16) ⟨by simp [own_nib, hc3, hc9], N0, e0⟩ (by decide) (by decide)
theorem d1_0 : decode method_3_code 0 = .ok (.lload_n 3, 1) := by decide +kernel
theorem d1_1 : decode method_3_code 1 = .ok (.bipush 16, 2) := by decide +kernel
theorem d1_3 : decode method_3_code 3 = .ok (.iload_n 2, 1) := by decide +kernel
theorem d1_4 : decode method_3_code 4 = .ok (.iconst 3, 1) := by decide +kernel
theorem d1_5 : decode method_3_code 5 = .ok (.iand, 1) := by decide +kernel
theorem d1_6 : decode method_3_code 6 = .ok (.imul, 1) := by decide +kernel
theorem d1_7 : decode method_3_code 7 = .ok (.lushr, 1) := by decide +kernel
theorem d1_8 : decode method_3_code 8 = .ok (.l2i, 1) := by decide +kernel
theorem d1_9 : decode method_3_code 9 = .ok (.ldc 21, 2) := by decide +kernel
theorem d1_11 : decode method_3_code 11 = .ok (.iand, 1) := by decide +kernel
theorem d1_12 : decode method_3_code 12 = .ok (.istore 7, 2) := by decide +kernel
theorem d1_14 : decode method_3_code 14 = .ok (.iload 5, 2) := by decide +kernel
theorem d1_16 : decode method_3_code 16 = .ok (.iload_n 2, 1) := by decide +kernel
theorem d1_17 : decode method_3_code 17 = .ok (.iushr, 1) := by decide +kernel
theorem d1_18 : decode method_3_code 18 = .ok (.iconst 1, 1) := by decide +kernel
theorem d1_19 : decode method_3_code 19 = .ok (.iand, 1) := by decide +kernel
theorem d1_20 : decode method_3_code 20 = .ok (.ifCond .eq 22, 3) := by decide +kernel
theorem d1_23 : decode method_3_code 23 = .ok (.iload 7, 2) := by decide +kernel
theorem d1_25 : decode method_3_code 25 = .ok (.bipush 15, 2) := by decide +kernel
theorem d1_27 : decode method_3_code 27 = .ok (.iand, 1) := by decide +kernel
theorem d1_28 : decode method_3_code 28 = .ok (.istore 9, 2) := by decide +kernel
theorem d1_30 : decode method_3_code 30 = .ok (.ldc 22, 2) := by decide +kernel
theorem d1_32 : decode method_3_code 32 = .ok (.iload 9, 2) := by decide +kernel
theorem d1_34 : decode method_3_code 34 = .ok (.invokevirtual 24, 3) := by decide +kernel
theorem d1_37 : decode method_3_code 37 = .ok (.istore 8, 2) := by decide +kernel
theorem d1_39 : decode method_3_code 39 = .ok (.goto 35, 3) := by decide +kernel
theorem d1_42 : decode method_3_code 42 = .ok (.iload 6, 2) := by decide +kernel
theorem d1_44 : decode method_3_code 44 = .ok (.iload_n 2, 1) := by decide +kernel
theorem d1_45 : decode method_3_code 45 = .ok (.iushr, 1) := by decide +kernel
theorem d1_46 : decode method_3_code 46 = .ok (.iconst 1, 1) := by decide +kernel
theorem d1_47 : decode method_3_code 47 = .ok (.iand, 1) := by decide +kernel
theorem d1_48 : decode method_3_code 48 = .ok (.ifCond .eq 14, 3) := by decide +kernel
theorem d1_51 : decode method_3_code 51 = .ok (.iload 7, 2) := by decide +kernel
theorem d1_53 : decode method_3_code 53 = .ok (.bipush 127, 2) := by decide +kernel
theorem d1_55 : decode method_3_code 55 = .ok (.iand, 1) := by decide +kernel
theorem d1_56 : decode method_3_code 56 = .ok (.i2c, 1) := by decide +kernel
theorem d1_57 : decode method_3_code 57 = .ok (.istore 8, 2) := by decide +kernel
theorem d1_59 : decode method_3_code 59 = .ok (.goto 8, 3) := by decide +kernel
theorem d1_62 : decode method_3_code 62 = .ok (.iload 7, 2) := by decide +kernel
theorem d1_64 : decode method_3_code 64 = .ok (.i2c, 1) := by decide +kernel
theorem d1_65 : decode method_3_code 65 = .ok (.istore 8, 2) := by decide +kernel
theorem d1_67 : decode method_3_code 67 = .ok (.iload 8, 2) := by decide +kernel
theorem d1_69 : decode method_3_code 69 = .ok (.invokestatic 30, 3) := by decide +kernel
theorem d1_72 : decode method_3_code 72 = .ok (.istore 9, 2) := by decide +kernel
theorem d1_74 : decode method_3_code 74 = .ok (.aload_n 0, 1) := by decide +kernel
theorem d1_75 : decode method_3_code 75 = .ok (.iload_n 2, 1) := by decide +kernel
theorem d1_76 : decode method_3_code 76 = .ok (.iload 8, 2) := by decide +kernel
theorem d1_78 : decode method_3_code 78 = .ok (.castore, 1) := by decide +kernel
theorem d1_79 : decode method_3_code 79 = .ok (.aload_n 1, 1) := by decide +kernel
theorem d1_80 : decode method_3_code 80 = .ok (.iload_n 2, 1) := by decide +kernel
theorem d1_81 : decode method_3_code 81 = .ok (.iload 9, 2) := by decide +kernel
theorem d1_83 : decode method_3_code 83 = .ok (.iastore, 1) := by decide +kernel
theorem d1_84 : decode method_3_code 84 = .ok (.return_, 1) := by decide +kernel
theorem pd_8 : parseMethodDescriptor "(I)C" = some ⟨[.int], some .char⟩ := by decide +kernel
theorem pd_9 : parseMethodDescriptor "(C)I" = some ⟨[.char], some .int⟩ := by decide +kernel
theorem own_cc (e : Int32) : own_nib (nar .char (e.toUInt32.toUInt16.toUInt32.toInt32)) = own_nib (e.toUInt32.toUInt16.toUInt32.toInt32) := congrArg own_nib (own_idem e)
theorem own_hexF : ∀ j : Fin 16, own_nib (nar .char (own_ch (own_hx (Int32.ofNat j.val)))) = Int32.ofNat j.val := by decide +kernel
theorem own_hexn {j : Nat} (hj : j < 16) : own_nib (nar .char (own_ch (own_hx (Int32.ofNat j)))) = Int32.ofNat j := own_hexF ⟨j, hj⟩
theorem own_hatF : ∀ j : Fin 16, ([(.int (48 : Int32)), (.int (49 : Int32)), (.int (50 : Int32)), (.int (51 : Int32)), (.int (52 : Int32)), (.int (53 : Int32)), (.int (54 : Int32)), (.int (55 : Int32)), (.int (56 : Int32)), (.int (57 : Int32)), (.int (97 : Int32)), (.int (98 : Int32)), (.int (99 : Int32)), (.int (100 : Int32)), (.int (101 : Int32)), (.int (102 : Int32))] : List Value).getD (Int32.ofNat j.val).toNatClampNeg (.int 0) = .int (own_hx (Int32.ofNat j.val)) := by decide +kernel
theorem own_hat {j : Nat} (hj : j < 16) : ([(.int (48 : Int32)), (.int (49 : Int32)), (.int (50 : Int32)), (.int (51 : Int32)), (.int (52 : Int32)), (.int (53 : Int32)), (.int (54 : Int32)), (.int (55 : Int32)), (.int (56 : Int32)), (.int (57 : Int32)), (.int (97 : Int32)), (.int (98 : Int32)), (.int (99 : Int32)), (.int (100 : Int32)), (.int (101 : Int32)), (.int (102 : Int32))] : List Value).getD (Int32.ofNat j).toNatClampNeg (.int 0) = .int (own_hx (Int32.ofNat j)) := own_hatF ⟨j, hj⟩
theorem own_j0 {j : Nat} (hj : j < 16) : ¬ (Int32.ofNat j < (0 : Int32)) := by rw [Int32.lt_iff_toInt_lt, own_toInt (by omega)]; have e0 : (0 : Int32).toInt = 0 := rfl; omega
theorem own_j16 {j : Nat} (hj : j < 16) : Int32.ofNat j < (16 : Int32) := by rw [Int32.lt_iff_toInt_lt, own_toInt (by omega)]; have e0 : (16 : Int32).toInt = 16 := rfl; omega
theorem ef_1n (m : MethodId) (a1 : Addr) (a2 : Addr) (p3 : Int32) (qw : Int64) (p5 : Int32) (p6 : Int32) : entryFrame m #[(.ref a1), (.ref a2), (.int p3), (.long qw), (.int p5), (.int p6)] 10 = mkF m 0 #[.val (.ref a1), .val (.ref a2), .val (.int p3), .val (.long qw), .second, .val (.int p5), .val (.int p6), .unset, .unset, .unset] [] := by first | (simp [entryFrame, mkF, argsToLocals, Value.category]; done) | rfl
def Q1n (Z : State) (a1 : Addr) (a2 : Addr) (p3 : Int32) (qw : Int64) (p5 : Int32) (p6 : Int32) (kc : ClassId) (kn : ClassId) (vc : List Value) (vn : List Value) (h0 : Heap) (n0 : Nat) (v : Option Value) (h : Heap) (L : List Loc) : Prop := v = none ∧ Fr n0 L ∧ Keep h0 h [a1, a2] ∧ (∃ x : Int32, nar .char x = x ∧ Arv Z h a1 kc .char (8 : Int32) (vc.set p3.toNatClampNeg (.int x)) (.int (0 : Int32)) ∧ Arv Z h a2 kn .int (8 : Int32) (vn.set p3.toNatClampNeg (.int (own_nib x))) (.int (0 : Int32)))
set_option maxRecDepth 65536 in
set_option maxHeartbeats 40000000 in
theorem rm1n (l : Launch) (Z : State) (a0 : Array Value) (hw : ∀ d ∈ tables_1, d.before a0 Z = true) (ws : List Jvm.Cond) (a1 : Addr) (a2 : Addr) (p3 : Int32) (qw : Int64) (p5 : Int32) (p6 : Int32) (kc : ClassId) (kn : ClassId) (vc : List Value) (vn : List Value) (h0 : Heap) (n0 : Nat) (Z0 : n0 ≤ h0.size) (V_c : Arv Z h0 a1 kc .char (8 : Int32) vc (.int (0 : Int32))) (lc : vc.length = 8) (V_n : Arv Z h0 a2 kn .int (8 : Int32) vn (.int (0 : Int32))) (lnn : vn.length = 8) (hp1 : ¬ (p3 < (0 : Int32))) (hp2 : p3 < (8 : Int32)) (nee : a1 ≠ a2) (g_a1 : n0 ≤ a1) (g_a2 : n0 ≤ a2) (hbt : (((p5.toUInt32 >>> (p3 &&& 31).toUInt32).toInt32) &&& (1 : Int32)) = (0 : Int32)) :
    MetFree l (⟨"tidemark/RecordFormParseChecksumPinLaw", "draw", "([C[IIJII)V"⟩ : MethodName) (head1 (Jvm.Cond.code (⟨"tidemark/RecordFormParseChecksumPinLaw", "draw", "([C[IIJII)V"⟩ : MethodName) method_3_code 10 none :: ws) ({ frames := 1, cells := 0, slots := 0, locals := 12 } : Room)) (fun a U => a = #[(.ref a1), (.ref a2), (.int p3), (.long qw), (.int p5), (.int p6)] ∧ Z.Warmed39 U.vm ∧ U.heap = h0) (fun _ _ _ _ _ => True) (fun _ U o U' => ∃ v L, o = .returned v ∧ Q1n Z a1 a2 p3 qw p5 p6 kc kn vc vn h0 n0 v U'.heap L ∧ FrameEnd U o U' L ({ frames := 1, cells := 0, slots := 0, locals := 12 } : Room).cells ({ frames := 1, cells := 0, slots := 0, locals := 12 } : Room).slots) := by
  refine MetFree.of_bodySF (plainFor_of_name pn_7) hisR ?_
  intro p e s m args below meth c s₁ Bd hml0 hP hK
  obtain ⟨rfl, hZ, hh⟩ := hP
  have hx := Bd.exec
  have hby := Bd.bytes
  have hml : c.maxLocals = 10 := hml0
  have hown : s.vm.findClass "tidemark/RecordFormParseChecksumPinLaw" = some m.cls := findClass_of_methodNamed Bd.named
  have hnm := (name_of_methodNamed Bd.named Bd.method).1
  have X0 : Stand p l e ({ frames := 1, cells := 0, slots := 0, locals := 12 } : Room) s m #[(.ref a1), (.ref a2), (.int p3), (.long qw), (.int p5), (.int p6)] below meth c s₁ [] 0 0 := Stand.of_body Bd
  have e0 : s₁.heap = h0 := by rw [← hh, Bd.state]; rfl
  have N0 := Fr.nil n0
  skip
  show own_Go p e below s (Q1n Z a1 a2 p3 qw p5 p6 kc kn vc vn h0 n0) ({ frames := 1, cells := 0, slots := 0, locals := 12 } : Room).cells ({ frames := 1, cells := 0, slots := 0, locals := 12 } : Room).slots _
  refine own_step (B := s₁.setTop (mkF m 0 #[.val (.ref a1), .val (.ref a2), .val (.int p3), .val (.long qw), .second, .val (.int p5), .val (.int p6), .unset, .unset, .unset] [])) (fun t k => castTop (ef_1n m a1 a2 p3 qw p5 p6) k) ?_
  have KK0 : Keep h0 h0 [a1, a2] := Keep.refl h0 _
  refine own_step (B := s₁.setTop (mkF m 42 #[.val (.ref a1), .val (.ref a2), .val (.int p3), .val (.long qw), .second, .val (.int p5), .val (.int p6), .val (.int ((((qw.toUInt64 >>> (((16 : Int32) * (p3 &&& (3 : Int32))) &&& 0x3f).toInt64.toUInt64).toInt64).toInt32) &&& (65535 : Int32))), .unset, .unset] [])) (fun t k => ?_) ?_
  · show Steps p.tables e below (s₁.setTop (mkF m 0 #[.val (.ref a1), .val (.ref a2), .val (.int p3), .val (.long qw), .second, .val (.int p5), .val (.int p6), .unset, .unset, .unset] [])) _
    refine XS.lloadN X0.here hx rfl (hb hby d1_0) rfl ?_
    refine XS.bipush X0.here hx rfl (hb hby d1_1) ?_
    refine XS.iloadN X0.here hx rfl (hb hby d1_3) rfl ?_
    refine XS.iconst X0.here hx rfl (hb hby d1_4) ?_
    refine XS.iand X0.here hx rfl (hb hby d1_5) rfl ?_
    refine XS.imul X0.here hx rfl (hb hby d1_6) rfl ?_
    refine XS.lushr X0.here hx rfl (hb hby d1_7) rfl ?_
    refine XS.l2i X0.here hx rfl (hb hby d1_8) rfl ?_
    refine X0.ldcInt hx hown (mvT hZ (hw _ (List.mem_of_getElem? (i := 6) rfl))) (g := (mkF m 9 #[.val (.ref a1), .val (.ref a2), .val (.int p3), .val (.long qw), .second, .val (.int p5), .val (.int p6), .unset, .unset, .unset] [(.int (((qw.toUInt64 >>> (((16 : Int32) * (p3 &&& (3 : Int32))) &&& 0x3f).toInt64.toUInt64).toInt64).toInt32))])) rfl (hb hby d1_9) _ ?_
    refine XS.iand X0.here hx rfl (hb hby d1_11) rfl ?_
    refine XS.istore X0.here hx rfl (hb hby d1_12) rfl (l' := #[.val (.ref a1), .val (.ref a2), .val (.int p3), .val (.long qw), .second, .val (.int p5), .val (.int p6), .val (.int ((((qw.toUInt64 >>> (((16 : Int32) * (p3 &&& (3 : Int32))) &&& 0x3f).toInt64.toUInt64).toInt64).toInt32) &&& (65535 : Int32))), .unset, .unset]) rfl ?_
    refine XS.iload X0.here hx rfl (hb hby d1_14) rfl ?_
    refine XS.iloadN X0.here hx rfl (hb hby d1_16) rfl ?_
    refine XS.iushr X0.here hx rfl (hb hby d1_17) rfl ?_
    refine XS.iconst X0.here hx rfl (hb hby d1_18) ?_
    refine XS.iand X0.here hx rfl (hb hby d1_19) rfl ?_
    refine XS.ifYes X0.here hx rfl (pc0 := 20) (pc' := 42) rfl (hb hby d1_20) rfl ((if0 _ _).trans (teq hbt).1) (by decide) (by decide) ?_
    exact k
  refine own_step (B := s₁.setTop (mkF m 67 #[.val (.ref a1), .val (.ref a2), .val (.int p3), .val (.long qw), .second, .val (.int p5), .val (.int p6), .val (.int ((((qw.toUInt64 >>> (((16 : Int32) * (p3 &&& (3 : Int32))) &&& 0x3f).toInt64.toUInt64).toInt64).toInt32) &&& (65535 : Int32))), .val (.int ((if (((p6.toUInt32 >>> (p3 &&& 31).toUInt32).toInt32) &&& (1 : Int32)) = (0 : Int32) then (((qw.toUInt64 >>> (((16 : Int32) * (p3 &&& (3 : Int32))) &&& 0x3f).toInt64.toUInt64).toInt64).toInt32 &&& (65535 : Int32)) else ((((qw.toUInt64 >>> (((16 : Int32) * (p3 &&& (3 : Int32))) &&& 0x3f).toInt64.toUInt64).toInt64).toInt32 &&& (65535 : Int32)) &&& (127 : Int32))).toUInt32.toUInt16.toUInt32.toInt32)), .unset] [])) (fun t k => ?_) ?_
  · show Steps p.tables e below (s₁.setTop (mkF m 42 #[.val (.ref a1), .val (.ref a2), .val (.int p3), .val (.long qw), .second, .val (.int p5), .val (.int p6), .val (.int ((((qw.toUInt64 >>> (((16 : Int32) * (p3 &&& (3 : Int32))) &&& 0x3f).toInt64.toUInt64).toInt64).toInt32) &&& (65535 : Int32))), .unset, .unset] [])) _
    refine XS.iload X0.here hx rfl (hb hby d1_42) rfl ?_
    show Steps p.tables e below (s₁.setTop (mkF m 44 #[.val (.ref a1), .val (.ref a2), .val (.int p3), .val (.long qw), .second, .val (.int p5), .val (.int p6), .val (.int ((((qw.toUInt64 >>> (((16 : Int32) * (p3 &&& (3 : Int32))) &&& 0x3f).toInt64.toUInt64).toInt64).toInt32) &&& (65535 : Int32))), .unset, .unset] [(.int p6)])) _
    refine XS.iloadN X0.here hx rfl (hb hby d1_44) rfl ?_
    show Steps p.tables e below (s₁.setTop (mkF m 45 #[.val (.ref a1), .val (.ref a2), .val (.int p3), .val (.long qw), .second, .val (.int p5), .val (.int p6), .val (.int ((((qw.toUInt64 >>> (((16 : Int32) * (p3 &&& (3 : Int32))) &&& 0x3f).toInt64.toUInt64).toInt64).toInt32) &&& (65535 : Int32))), .unset, .unset] [(.int p3), (.int p6)])) _
    refine XS.iushr X0.here hx rfl (hb hby d1_45) rfl ?_
    show Steps p.tables e below (s₁.setTop (mkF m 46 #[.val (.ref a1), .val (.ref a2), .val (.int p3), .val (.long qw), .second, .val (.int p5), .val (.int p6), .val (.int ((((qw.toUInt64 >>> (((16 : Int32) * (p3 &&& (3 : Int32))) &&& 0x3f).toInt64.toUInt64).toInt64).toInt32) &&& (65535 : Int32))), .unset, .unset] [(.int ((p6.toUInt32 >>> (p3 &&& 31).toUInt32).toInt32))])) _
    refine XS.iconst X0.here hx rfl (hb hby d1_46) ?_
    show Steps p.tables e below (s₁.setTop (mkF m 47 #[.val (.ref a1), .val (.ref a2), .val (.int p3), .val (.long qw), .second, .val (.int p5), .val (.int p6), .val (.int ((((qw.toUInt64 >>> (((16 : Int32) * (p3 &&& (3 : Int32))) &&& 0x3f).toInt64.toUInt64).toInt64).toInt32) &&& (65535 : Int32))), .unset, .unset] [(.int (1 : Int32)), (.int ((p6.toUInt32 >>> (p3 &&& 31).toUInt32).toInt32))])) _
    refine XS.iand X0.here hx rfl (hb hby d1_47) rfl ?_
    by_cases hc48 : (((p6.toUInt32 >>> (p3 &&& 31).toUInt32).toInt32) &&& (1 : Int32)) = (0 : Int32)
    · show Steps p.tables e below (s₁.setTop (mkF m 48 #[.val (.ref a1), .val (.ref a2), .val (.int p3), .val (.long qw), .second, .val (.int p5), .val (.int p6), .val (.int ((((qw.toUInt64 >>> (((16 : Int32) * (p3 &&& (3 : Int32))) &&& 0x3f).toInt64.toUInt64).toInt64).toInt32) &&& (65535 : Int32))), .unset, .unset] [(.int (((p6.toUInt32 >>> (p3 &&& 31).toUInt32).toInt32) &&& (1 : Int32)))])) _
      refine XS.ifYes X0.here hx rfl (pc0 := 48) (pc' := 62) rfl (hb hby d1_48) rfl ((if0 _ _).trans (teq hc48).1) (by decide) (by decide) ?_
      show Steps p.tables e below (s₁.setTop (mkF m 62 #[.val (.ref a1), .val (.ref a2), .val (.int p3), .val (.long qw), .second, .val (.int p5), .val (.int p6), .val (.int ((((qw.toUInt64 >>> (((16 : Int32) * (p3 &&& (3 : Int32))) &&& 0x3f).toInt64.toUInt64).toInt64).toInt32) &&& (65535 : Int32))), .unset, .unset] [])) _
      refine XS.iload X0.here hx rfl (hb hby d1_62) rfl ?_
      show Steps p.tables e below (s₁.setTop (mkF m 64 #[.val (.ref a1), .val (.ref a2), .val (.int p3), .val (.long qw), .second, .val (.int p5), .val (.int p6), .val (.int ((((qw.toUInt64 >>> (((16 : Int32) * (p3 &&& (3 : Int32))) &&& 0x3f).toInt64.toUInt64).toInt64).toInt32) &&& (65535 : Int32))), .unset, .unset] [(.int ((((qw.toUInt64 >>> (((16 : Int32) * (p3 &&& (3 : Int32))) &&& 0x3f).toInt64.toUInt64).toInt64).toInt32) &&& (65535 : Int32)))])) _
      refine XS.i2c X0.here hx rfl (hb hby d1_64) rfl ?_
      show Steps p.tables e below (s₁.setTop (mkF m 65 #[.val (.ref a1), .val (.ref a2), .val (.int p3), .val (.long qw), .second, .val (.int p5), .val (.int p6), .val (.int ((((qw.toUInt64 >>> (((16 : Int32) * (p3 &&& (3 : Int32))) &&& 0x3f).toInt64.toUInt64).toInt64).toInt32) &&& (65535 : Int32))), .unset, .unset] [(.int (((((qw.toUInt64 >>> (((16 : Int32) * (p3 &&& (3 : Int32))) &&& 0x3f).toInt64.toUInt64).toInt64).toInt32) &&& (65535 : Int32)).toUInt32.toUInt16.toUInt32.toInt32))])) _
      refine XS.istore X0.here hx rfl (hb hby d1_65) rfl (l' := #[.val (.ref a1), .val (.ref a2), .val (.int p3), .val (.long qw), .second, .val (.int p5), .val (.int p6), .val (.int ((((qw.toUInt64 >>> (((16 : Int32) * (p3 &&& (3 : Int32))) &&& 0x3f).toInt64.toUInt64).toInt64).toInt32) &&& (65535 : Int32))), .val (.int (((((qw.toUInt64 >>> (((16 : Int32) * (p3 &&& (3 : Int32))) &&& 0x3f).toInt64.toUInt64).toInt64).toInt32) &&& (65535 : Int32)).toUInt32.toUInt16.toUInt32.toInt32)), .unset]) rfl ?_
      show Steps p.tables e below (s₁.setTop (mkF m 67 #[.val (.ref a1), .val (.ref a2), .val (.int p3), .val (.long qw), .second, .val (.int p5), .val (.int p6), .val (.int ((((qw.toUInt64 >>> (((16 : Int32) * (p3 &&& (3 : Int32))) &&& 0x3f).toInt64.toUInt64).toInt64).toInt32) &&& (65535 : Int32))), .val (.int (((((qw.toUInt64 >>> (((16 : Int32) * (p3 &&& (3 : Int32))) &&& 0x3f).toInt64.toUInt64).toInt64).toInt32) &&& (65535 : Int32)).toUInt32.toUInt16.toUInt32.toInt32)), .unset] [])) _
      have q1 : ((if (((p6.toUInt32 >>> (p3 &&& 31).toUInt32).toInt32) &&& (1 : Int32)) = (0 : Int32) then (((qw.toUInt64 >>> (((16 : Int32) * (p3 &&& (3 : Int32))) &&& 0x3f).toInt64.toUInt64).toInt64).toInt32 &&& (65535 : Int32)) else ((((qw.toUInt64 >>> (((16 : Int32) * (p3 &&& (3 : Int32))) &&& 0x3f).toInt64.toUInt64).toInt64).toInt32 &&& (65535 : Int32)) &&& (127 : Int32))).toUInt32.toUInt16.toUInt32.toInt32) = (((((qw.toUInt64 >>> (((16 : Int32) * (p3 &&& (3 : Int32))) &&& 0x3f).toInt64.toUInt64).toInt64).toInt32) &&& (65535 : Int32)).toUInt32.toUInt16.toUInt32.toInt32) := by first | rw [if_pos hc48] | rw [if_neg hc48]
      rw [q1] at k
      exact k
    · show Steps p.tables e below (s₁.setTop (mkF m 48 #[.val (.ref a1), .val (.ref a2), .val (.int p3), .val (.long qw), .second, .val (.int p5), .val (.int p6), .val (.int ((((qw.toUInt64 >>> (((16 : Int32) * (p3 &&& (3 : Int32))) &&& 0x3f).toInt64.toUInt64).toInt64).toInt32) &&& (65535 : Int32))), .unset, .unset] [(.int (((p6.toUInt32 >>> (p3 &&& 31).toUInt32).toInt32) &&& (1 : Int32)))])) _
      refine XS.ifNo X0.here hx rfl (hb hby d1_48) rfl ((if0 _ _).trans (feq hc48).1) ?_
      show Steps p.tables e below (s₁.setTop (mkF m 51 #[.val (.ref a1), .val (.ref a2), .val (.int p3), .val (.long qw), .second, .val (.int p5), .val (.int p6), .val (.int ((((qw.toUInt64 >>> (((16 : Int32) * (p3 &&& (3 : Int32))) &&& 0x3f).toInt64.toUInt64).toInt64).toInt32) &&& (65535 : Int32))), .unset, .unset] [])) _
      refine XS.iload X0.here hx rfl (hb hby d1_51) rfl ?_
      show Steps p.tables e below (s₁.setTop (mkF m 53 #[.val (.ref a1), .val (.ref a2), .val (.int p3), .val (.long qw), .second, .val (.int p5), .val (.int p6), .val (.int ((((qw.toUInt64 >>> (((16 : Int32) * (p3 &&& (3 : Int32))) &&& 0x3f).toInt64.toUInt64).toInt64).toInt32) &&& (65535 : Int32))), .unset, .unset] [(.int ((((qw.toUInt64 >>> (((16 : Int32) * (p3 &&& (3 : Int32))) &&& 0x3f).toInt64.toUInt64).toInt64).toInt32) &&& (65535 : Int32)))])) _
      refine XS.bipush X0.here hx rfl (hb hby d1_53) ?_
      show Steps p.tables e below (s₁.setTop (mkF m 55 #[.val (.ref a1), .val (.ref a2), .val (.int p3), .val (.long qw), .second, .val (.int p5), .val (.int p6), .val (.int ((((qw.toUInt64 >>> (((16 : Int32) * (p3 &&& (3 : Int32))) &&& 0x3f).toInt64.toUInt64).toInt64).toInt32) &&& (65535 : Int32))), .unset, .unset] [(.int (127 : Int32)), (.int ((((qw.toUInt64 >>> (((16 : Int32) * (p3 &&& (3 : Int32))) &&& 0x3f).toInt64.toUInt64).toInt64).toInt32) &&& (65535 : Int32)))])) _
      refine XS.iand X0.here hx rfl (hb hby d1_55) rfl ?_
      show Steps p.tables e below (s₁.setTop (mkF m 56 #[.val (.ref a1), .val (.ref a2), .val (.int p3), .val (.long qw), .second, .val (.int p5), .val (.int p6), .val (.int ((((qw.toUInt64 >>> (((16 : Int32) * (p3 &&& (3 : Int32))) &&& 0x3f).toInt64.toUInt64).toInt64).toInt32) &&& (65535 : Int32))), .unset, .unset] [(.int (((((qw.toUInt64 >>> (((16 : Int32) * (p3 &&& (3 : Int32))) &&& 0x3f).toInt64.toUInt64).toInt64).toInt32) &&& (65535 : Int32)) &&& (127 : Int32)))])) _
      refine XS.i2c X0.here hx rfl (hb hby d1_56) rfl ?_
      show Steps p.tables e below (s₁.setTop (mkF m 57 #[.val (.ref a1), .val (.ref a2), .val (.int p3), .val (.long qw), .second, .val (.int p5), .val (.int p6), .val (.int ((((qw.toUInt64 >>> (((16 : Int32) * (p3 &&& (3 : Int32))) &&& 0x3f).toInt64.toUInt64).toInt64).toInt32) &&& (65535 : Int32))), .unset, .unset] [(.int ((((((qw.toUInt64 >>> (((16 : Int32) * (p3 &&& (3 : Int32))) &&& 0x3f).toInt64.toUInt64).toInt64).toInt32) &&& (65535 : Int32)) &&& (127 : Int32)).toUInt32.toUInt16.toUInt32.toInt32))])) _
      refine XS.istore X0.here hx rfl (hb hby d1_57) rfl (l' := #[.val (.ref a1), .val (.ref a2), .val (.int p3), .val (.long qw), .second, .val (.int p5), .val (.int p6), .val (.int ((((qw.toUInt64 >>> (((16 : Int32) * (p3 &&& (3 : Int32))) &&& 0x3f).toInt64.toUInt64).toInt64).toInt32) &&& (65535 : Int32))), .val (.int ((((((qw.toUInt64 >>> (((16 : Int32) * (p3 &&& (3 : Int32))) &&& 0x3f).toInt64.toUInt64).toInt64).toInt32) &&& (65535 : Int32)) &&& (127 : Int32)).toUInt32.toUInt16.toUInt32.toInt32)), .unset]) rfl ?_
      show Steps p.tables e below (s₁.setTop (mkF m 59 #[.val (.ref a1), .val (.ref a2), .val (.int p3), .val (.long qw), .second, .val (.int p5), .val (.int p6), .val (.int ((((qw.toUInt64 >>> (((16 : Int32) * (p3 &&& (3 : Int32))) &&& 0x3f).toInt64.toUInt64).toInt64).toInt32) &&& (65535 : Int32))), .val (.int ((((((qw.toUInt64 >>> (((16 : Int32) * (p3 &&& (3 : Int32))) &&& 0x3f).toInt64.toUInt64).toInt64).toInt32) &&& (65535 : Int32)) &&& (127 : Int32)).toUInt32.toUInt16.toUInt32.toInt32)), .unset] [])) _
      refine XS.goto X0.here hx rfl (pc0 := 59) (pc' := 67) rfl (hb hby d1_59) (by decide) (by decide) ?_
      show Steps p.tables e below (s₁.setTop (mkF m 67 #[.val (.ref a1), .val (.ref a2), .val (.int p3), .val (.long qw), .second, .val (.int p5), .val (.int p6), .val (.int ((((qw.toUInt64 >>> (((16 : Int32) * (p3 &&& (3 : Int32))) &&& 0x3f).toInt64.toUInt64).toInt64).toInt32) &&& (65535 : Int32))), .val (.int ((((((qw.toUInt64 >>> (((16 : Int32) * (p3 &&& (3 : Int32))) &&& 0x3f).toInt64.toUInt64).toInt64).toInt32) &&& (65535 : Int32)) &&& (127 : Int32)).toUInt32.toUInt16.toUInt32.toInt32)), .unset] [])) _
      have q2 : ((if (((p6.toUInt32 >>> (p3 &&& 31).toUInt32).toInt32) &&& (1 : Int32)) = (0 : Int32) then (((qw.toUInt64 >>> (((16 : Int32) * (p3 &&& (3 : Int32))) &&& 0x3f).toInt64.toUInt64).toInt64).toInt32 &&& (65535 : Int32)) else ((((qw.toUInt64 >>> (((16 : Int32) * (p3 &&& (3 : Int32))) &&& 0x3f).toInt64.toUInt64).toInt64).toInt32 &&& (65535 : Int32)) &&& (127 : Int32))).toUInt32.toUInt16.toUInt32.toInt32) = ((((((qw.toUInt64 >>> (((16 : Int32) * (p3 &&& (3 : Int32))) &&& 0x3f).toInt64.toUInt64).toInt64).toInt32) &&& (65535 : Int32)) &&& (127 : Int32)).toUInt32.toUInt16.toUInt32.toInt32) := by first | rw [if_pos hc48] | rw [if_neg hc48]
      rw [q2] at k
      exact k
  refine own_step (B := s₁.setTop (mkF m 69 #[.val (.ref a1), .val (.ref a2), .val (.int p3), .val (.long qw), .second, .val (.int p5), .val (.int p6), .val (.int ((((qw.toUInt64 >>> (((16 : Int32) * (p3 &&& (3 : Int32))) &&& 0x3f).toInt64.toUInt64).toInt64).toInt32) &&& (65535 : Int32))), .val (.int ((if (((p6.toUInt32 >>> (p3 &&& 31).toUInt32).toInt32) &&& (1 : Int32)) = (0 : Int32) then (((qw.toUInt64 >>> (((16 : Int32) * (p3 &&& (3 : Int32))) &&& 0x3f).toInt64.toUInt64).toInt64).toInt32 &&& (65535 : Int32)) else ((((qw.toUInt64 >>> (((16 : Int32) * (p3 &&& (3 : Int32))) &&& 0x3f).toInt64.toUInt64).toInt64).toInt32 &&& (65535 : Int32)) &&& (127 : Int32))).toUInt32.toUInt16.toUInt32.toInt32)), .unset] [(.int ((if (((p6.toUInt32 >>> (p3 &&& 31).toUInt32).toInt32) &&& (1 : Int32)) = (0 : Int32) then (((qw.toUInt64 >>> (((16 : Int32) * (p3 &&& (3 : Int32))) &&& 0x3f).toInt64.toUInt64).toInt64).toInt32 &&& (65535 : Int32)) else ((((qw.toUInt64 >>> (((16 : Int32) * (p3 &&& (3 : Int32))) &&& 0x3f).toInt64.toUInt64).toInt64).toInt32 &&& (65535 : Int32)) &&& (127 : Int32))).toUInt32.toUInt16.toUInt32.toInt32))])) (fun t k => ?_) ?_
  · show Steps p.tables e below (s₁.setTop (mkF m 67 #[.val (.ref a1), .val (.ref a2), .val (.int p3), .val (.long qw), .second, .val (.int p5), .val (.int p6), .val (.int ((((qw.toUInt64 >>> (((16 : Int32) * (p3 &&& (3 : Int32))) &&& 0x3f).toInt64.toUInt64).toInt64).toInt32) &&& (65535 : Int32))), .val (.int ((if (((p6.toUInt32 >>> (p3 &&& 31).toUInt32).toInt32) &&& (1 : Int32)) = (0 : Int32) then (((qw.toUInt64 >>> (((16 : Int32) * (p3 &&& (3 : Int32))) &&& 0x3f).toInt64.toUInt64).toInt64).toInt32 &&& (65535 : Int32)) else ((((qw.toUInt64 >>> (((16 : Int32) * (p3 &&& (3 : Int32))) &&& 0x3f).toInt64.toUInt64).toInt64).toInt32 &&& (65535 : Int32)) &&& (127 : Int32))).toUInt32.toUInt16.toUInt32.toInt32)), .unset] [])) _
    refine XS.iload X0.here hx rfl (hb hby d1_67) rfl ?_
    exact k
  obtain ⟨_, _, ⟨T3, L3, k3, n3⟩, -, X3, ⟨Lc3, hQ3, l3, y3, z3⟩, st3⟩ := Jvm.LawKit.callS X0 hx (y := (⟨"tidemark/RecordFormParseChecksumPinLaw", "nib", "(C)I"⟩ : MethodName)) hown (mvT hZ (hw _ (List.mem_of_getElem? (i := 7) rfl))) (mvT hZ (hw _ (List.mem_of_getElem? (i := 8) rfl))) (mvT hZ (hw _ (List.mem_of_getElem? (i := 4) rfl))) (mvT hZ (hw _ (List.mem_of_getElem? (i := 9) rfl))) (by decide) (backOf (W := 0) (rm2 l Z a0 hw [] ((if (((p6.toUInt32 >>> (p3 &&& 31).toUInt32).toInt32) &&& (1 : Int32)) = (0 : Int32) then (((qw.toUInt64 >>> (((16 : Int32) * (p3 &&& (3 : Int32))) &&& 0x3f).toInt64.toUInt64).toInt64).toInt32 &&& (65535 : Int32)) else ((((qw.toUInt64 >>> (((16 : Int32) * (p3 &&& (3 : Int32))) &&& 0x3f).toInt64.toUInt64).toInt64).toInt32 &&& (65535 : Int32)) &&& (127 : Int32))).toUInt32.toUInt16.toUInt32.toInt32)  h0 n0 Z0 ) hZ (hw _ (List.mem_of_getElem? (i := 9) rfl)) (hw _ (List.mem_of_getElem? (i := 4) rfl)) (by decide) (by decide) ) (g := (mkF m 69 #[.val (.ref a1), .val (.ref a2), .val (.int p3), .val (.long qw), .second, .val (.int p5), .val (.int p6), .val (.int ((((qw.toUInt64 >>> (((16 : Int32) * (p3 &&& (3 : Int32))) &&& 0x3f).toInt64.toUInt64).toInt64).toInt32) &&& (65535 : Int32))), .val (.int ((if (((p6.toUInt32 >>> (p3 &&& 31).toUInt32).toInt32) &&& (1 : Int32)) = (0 : Int32) then (((qw.toUInt64 >>> (((16 : Int32) * (p3 &&& (3 : Int32))) &&& 0x3f).toInt64.toUInt64).toInt64).toInt32 &&& (65535 : Int32)) else ((((qw.toUInt64 >>> (((16 : Int32) * (p3 &&& (3 : Int32))) &&& 0x3f).toInt64.toUInt64).toInt64).toInt32 &&& (65535 : Int32)) &&& (127 : Int32))).toUInt32.toUInt16.toUInt32.toInt32)), .unset] [(.int ((if (((p6.toUInt32 >>> (p3 &&& 31).toUInt32).toInt32) &&& (1 : Int32)) = (0 : Int32) then (((qw.toUInt64 >>> (((16 : Int32) * (p3 &&& (3 : Int32))) &&& 0x3f).toInt64.toUInt64).toInt64).toInt32 &&& (65535 : Int32)) else ((((qw.toUInt64 >>> (((16 : Int32) * (p3 &&& (3 : Int32))) &&& 0x3f).toInt64.toUInt64).toInt64).toInt32 &&& (65535 : Int32)) &&& (127 : Int32))).toUInt32.toUInt16.toUInt32.toInt32))])) rfl (by rw [hml]; rfl) (argsL := [(.int ((if (((p6.toUInt32 >>> (p3 &&& 31).toUInt32).toInt32) &&& (1 : Int32)) = (0 : Int32) then (((qw.toUInt64 >>> (((16 : Int32) * (p3 &&& (3 : Int32))) &&& 0x3f).toInt64.toUInt64).toInt64).toInt32 &&& (65535 : Int32)) else ((((qw.toUInt64 >>> (((16 : Int32) * (p3 &&& (3 : Int32))) &&& 0x3f).toInt64.toUInt64).toInt64).toInt32 &&& (65535 : Int32)) &&& (127 : Int32))).toUInt32.toUInt16.toUInt32.toInt32))]) (rest := []) (lenOf pd_9 rfl) rfl (by show 2 * 0 + _ ≤ _; exact Nat.le_of_eq rfl) (hb hby d1_69) (fun _ _ => ⟨rfl, e0, (by decide : 0 + 0 ≤ _), (by decide : 0 + 0 ≤ _)⟩)
  dsimp only [Pt.U, Pt.locs, Pt.cells, Pt.slots] at X3 l3 y3 z3 st3 hQ3
  subst l3 y3 z3
  obtain ⟨rfl, N3q, e3⟩ := hQ3
  have N3 := Fr.app N0 N3q
  refine own_step st3 ?_
  show own_Go p e below s _ _ _ (T3.setTop (mkF m 72 #[.val (.ref a1), .val (.ref a2), .val (.int p3), .val (.long qw), .second, .val (.int p5), .val (.int p6), .val (.int ((((qw.toUInt64 >>> (((16 : Int32) * (p3 &&& (3 : Int32))) &&& 0x3f).toInt64.toUInt64).toInt64).toInt32) &&& (65535 : Int32))), .val (.int ((if (((p6.toUInt32 >>> (p3 &&& 31).toUInt32).toInt32) &&& (1 : Int32)) = (0 : Int32) then (((qw.toUInt64 >>> (((16 : Int32) * (p3 &&& (3 : Int32))) &&& 0x3f).toInt64.toUInt64).toInt64).toInt32 &&& (65535 : Int32)) else ((((qw.toUInt64 >>> (((16 : Int32) * (p3 &&& (3 : Int32))) &&& 0x3f).toInt64.toUInt64).toInt64).toInt32 &&& (65535 : Int32)) &&& (127 : Int32))).toUInt32.toUInt16.toUInt32.toInt32)), .unset] [(.int (own_nib ((if (((p6.toUInt32 >>> (p3 &&& 31).toUInt32).toInt32) &&& (1 : Int32)) = (0 : Int32) then (((qw.toUInt64 >>> (((16 : Int32) * (p3 &&& (3 : Int32))) &&& 0x3f).toInt64.toUInt64).toInt64).toInt32 &&& (65535 : Int32)) else ((((qw.toUInt64 >>> (((16 : Int32) * (p3 &&& (3 : Int32))) &&& 0x3f).toInt64.toUInt64).toInt64).toInt32 &&& (65535 : Int32)) &&& (127 : Int32))).toUInt32.toUInt16.toUInt32.toInt32)))]))
  refine own_step (B := T3.setTop (mkF m 78 #[.val (.ref a1), .val (.ref a2), .val (.int p3), .val (.long qw), .second, .val (.int p5), .val (.int p6), .val (.int ((((qw.toUInt64 >>> (((16 : Int32) * (p3 &&& (3 : Int32))) &&& 0x3f).toInt64.toUInt64).toInt64).toInt32) &&& (65535 : Int32))), .val (.int ((if (((p6.toUInt32 >>> (p3 &&& 31).toUInt32).toInt32) &&& (1 : Int32)) = (0 : Int32) then (((qw.toUInt64 >>> (((16 : Int32) * (p3 &&& (3 : Int32))) &&& 0x3f).toInt64.toUInt64).toInt64).toInt32 &&& (65535 : Int32)) else ((((qw.toUInt64 >>> (((16 : Int32) * (p3 &&& (3 : Int32))) &&& 0x3f).toInt64.toUInt64).toInt64).toInt32 &&& (65535 : Int32)) &&& (127 : Int32))).toUInt32.toUInt16.toUInt32.toInt32)), .val (.int (own_nib ((if (((p6.toUInt32 >>> (p3 &&& 31).toUInt32).toInt32) &&& (1 : Int32)) = (0 : Int32) then (((qw.toUInt64 >>> (((16 : Int32) * (p3 &&& (3 : Int32))) &&& 0x3f).toInt64.toUInt64).toInt64).toInt32 &&& (65535 : Int32)) else ((((qw.toUInt64 >>> (((16 : Int32) * (p3 &&& (3 : Int32))) &&& 0x3f).toInt64.toUInt64).toInt64).toInt32 &&& (65535 : Int32)) &&& (127 : Int32))).toUInt32.toUInt16.toUInt32.toInt32)))] [(.int ((if (((p6.toUInt32 >>> (p3 &&& 31).toUInt32).toInt32) &&& (1 : Int32)) = (0 : Int32) then (((qw.toUInt64 >>> (((16 : Int32) * (p3 &&& (3 : Int32))) &&& 0x3f).toInt64.toUInt64).toInt64).toInt32 &&& (65535 : Int32)) else ((((qw.toUInt64 >>> (((16 : Int32) * (p3 &&& (3 : Int32))) &&& 0x3f).toInt64.toUInt64).toInt64).toInt32 &&& (65535 : Int32)) &&& (127 : Int32))).toUInt32.toUInt16.toUInt32.toInt32)), (.int p3), (.ref a1)])) (fun t k => ?_) ?_
  · show Steps p.tables e below (T3.setTop (mkF m 72 #[.val (.ref a1), .val (.ref a2), .val (.int p3), .val (.long qw), .second, .val (.int p5), .val (.int p6), .val (.int ((((qw.toUInt64 >>> (((16 : Int32) * (p3 &&& (3 : Int32))) &&& 0x3f).toInt64.toUInt64).toInt64).toInt32) &&& (65535 : Int32))), .val (.int ((if (((p6.toUInt32 >>> (p3 &&& 31).toUInt32).toInt32) &&& (1 : Int32)) = (0 : Int32) then (((qw.toUInt64 >>> (((16 : Int32) * (p3 &&& (3 : Int32))) &&& 0x3f).toInt64.toUInt64).toInt64).toInt32 &&& (65535 : Int32)) else ((((qw.toUInt64 >>> (((16 : Int32) * (p3 &&& (3 : Int32))) &&& 0x3f).toInt64.toUInt64).toInt64).toInt32 &&& (65535 : Int32)) &&& (127 : Int32))).toUInt32.toUInt16.toUInt32.toInt32)), .unset] [(.int (own_nib ((if (((p6.toUInt32 >>> (p3 &&& 31).toUInt32).toInt32) &&& (1 : Int32)) = (0 : Int32) then (((qw.toUInt64 >>> (((16 : Int32) * (p3 &&& (3 : Int32))) &&& 0x3f).toInt64.toUInt64).toInt64).toInt32 &&& (65535 : Int32)) else ((((qw.toUInt64 >>> (((16 : Int32) * (p3 &&& (3 : Int32))) &&& 0x3f).toInt64.toUInt64).toInt64).toInt32 &&& (65535 : Int32)) &&& (127 : Int32))).toUInt32.toUInt16.toUInt32.toInt32)))])) _
    refine XS.istore X3.here hx rfl (hb hby d1_72) rfl (l' := #[.val (.ref a1), .val (.ref a2), .val (.int p3), .val (.long qw), .second, .val (.int p5), .val (.int p6), .val (.int ((((qw.toUInt64 >>> (((16 : Int32) * (p3 &&& (3 : Int32))) &&& 0x3f).toInt64.toUInt64).toInt64).toInt32) &&& (65535 : Int32))), .val (.int ((if (((p6.toUInt32 >>> (p3 &&& 31).toUInt32).toInt32) &&& (1 : Int32)) = (0 : Int32) then (((qw.toUInt64 >>> (((16 : Int32) * (p3 &&& (3 : Int32))) &&& 0x3f).toInt64.toUInt64).toInt64).toInt32 &&& (65535 : Int32)) else ((((qw.toUInt64 >>> (((16 : Int32) * (p3 &&& (3 : Int32))) &&& 0x3f).toInt64.toUInt64).toInt64).toInt32 &&& (65535 : Int32)) &&& (127 : Int32))).toUInt32.toUInt16.toUInt32.toInt32)), .val (.int (own_nib ((if (((p6.toUInt32 >>> (p3 &&& 31).toUInt32).toInt32) &&& (1 : Int32)) = (0 : Int32) then (((qw.toUInt64 >>> (((16 : Int32) * (p3 &&& (3 : Int32))) &&& 0x3f).toInt64.toUInt64).toInt64).toInt32 &&& (65535 : Int32)) else ((((qw.toUInt64 >>> (((16 : Int32) * (p3 &&& (3 : Int32))) &&& 0x3f).toInt64.toUInt64).toInt64).toInt32 &&& (65535 : Int32)) &&& (127 : Int32))).toUInt32.toUInt16.toUInt32.toInt32)))]) rfl ?_
    refine XS.aloadN X3.here hx rfl (hb hby d1_74) rfl rfl ?_
    refine XS.iloadN X3.here hx rfl (hb hby d1_75) rfl ?_
    refine XS.iload X3.here hx rfl (hb hby d1_76) rfl ?_
    exact k
  obtain ⟨cl4, Ar4, q4, S4, NN4, Hs4, G4⟩ := id (V_c)
  have hin4 : ¬ (p3 < 0 ∨ cl4.slots.size ≤ (p3).toNatClampNeg) := inb_of S4 ⟨hp1, hp2⟩
  obtain ⟨T4, h4, X4, e4, W4, st4⟩ := stC X3 hx hZ e3 Ar4 (j := p3) hin4 (g := (mkF m 78 #[.val (.ref a1), .val (.ref a2), .val (.int p3), .val (.long qw), .second, .val (.int p5), .val (.int p6), .val (.int ((((qw.toUInt64 >>> (((16 : Int32) * (p3 &&& (3 : Int32))) &&& 0x3f).toInt64.toUInt64).toInt64).toInt32) &&& (65535 : Int32))), .val (.int ((if (((p6.toUInt32 >>> (p3 &&& 31).toUInt32).toInt32) &&& (1 : Int32)) = (0 : Int32) then (((qw.toUInt64 >>> (((16 : Int32) * (p3 &&& (3 : Int32))) &&& 0x3f).toInt64.toUInt64).toInt64).toInt32 &&& (65535 : Int32)) else ((((qw.toUInt64 >>> (((16 : Int32) * (p3 &&& (3 : Int32))) &&& 0x3f).toInt64.toUInt64).toInt64).toInt32 &&& (65535 : Int32)) &&& (127 : Int32))).toUInt32.toUInt16.toUInt32.toInt32)), .val (.int (own_nib ((if (((p6.toUInt32 >>> (p3 &&& 31).toUInt32).toInt32) &&& (1 : Int32)) = (0 : Int32) then (((qw.toUInt64 >>> (((16 : Int32) * (p3 &&& (3 : Int32))) &&& 0x3f).toInt64.toUInt64).toInt64).toInt32 &&& (65535 : Int32)) else ((((qw.toUInt64 >>> (((16 : Int32) * (p3 &&& (3 : Int32))) &&& 0x3f).toInt64.toUInt64).toInt64).toInt32 &&& (65535 : Int32)) &&& (127 : Int32))).toUInt32.toUInt16.toUInt32.toInt32)))] [(.int ((if (((p6.toUInt32 >>> (p3 &&& 31).toUInt32).toInt32) &&& (1 : Int32)) = (0 : Int32) then (((qw.toUInt64 >>> (((16 : Int32) * (p3 &&& (3 : Int32))) &&& 0x3f).toInt64.toUInt64).toInt64).toInt32 &&& (65535 : Int32)) else ((((qw.toUInt64 >>> (((16 : Int32) * (p3 &&& (3 : Int32))) &&& 0x3f).toInt64.toUInt64).toInt64).toInt32 &&& (65535 : Int32)) &&& (127 : Int32))).toUInt32.toUInt16.toUInt32.toInt32)), (.int p3), (.ref a1)])) rfl rfl (hb hby d1_78)
  have V4 := Arv.set Ar4 q4 S4 NN4 Hs4 G4 (fits_nar_char _) W4 p3.toNatClampNeg rfl (by rw [lc]; exact own_k8 hp1 hp2)
  have N4 := Fr.snoc X4 N3 g_a1
  have K4 : Keep h0 h4 [a1, a2] := KK0.wr W4 (Or.inl (by simp))
  refine own_step st4 ?_
  show own_Go p e below s _ _ _ (T4.setTop (mkF m 79 #[.val (.ref a1), .val (.ref a2), .val (.int p3), .val (.long qw), .second, .val (.int p5), .val (.int p6), .val (.int ((((qw.toUInt64 >>> (((16 : Int32) * (p3 &&& (3 : Int32))) &&& 0x3f).toInt64.toUInt64).toInt64).toInt32) &&& (65535 : Int32))), .val (.int ((if (((p6.toUInt32 >>> (p3 &&& 31).toUInt32).toInt32) &&& (1 : Int32)) = (0 : Int32) then (((qw.toUInt64 >>> (((16 : Int32) * (p3 &&& (3 : Int32))) &&& 0x3f).toInt64.toUInt64).toInt64).toInt32 &&& (65535 : Int32)) else ((((qw.toUInt64 >>> (((16 : Int32) * (p3 &&& (3 : Int32))) &&& 0x3f).toInt64.toUInt64).toInt64).toInt32 &&& (65535 : Int32)) &&& (127 : Int32))).toUInt32.toUInt16.toUInt32.toInt32)), .val (.int (own_nib ((if (((p6.toUInt32 >>> (p3 &&& 31).toUInt32).toInt32) &&& (1 : Int32)) = (0 : Int32) then (((qw.toUInt64 >>> (((16 : Int32) * (p3 &&& (3 : Int32))) &&& 0x3f).toInt64.toUInt64).toInt64).toInt32 &&& (65535 : Int32)) else ((((qw.toUInt64 >>> (((16 : Int32) * (p3 &&& (3 : Int32))) &&& 0x3f).toInt64.toUInt64).toInt64).toInt32 &&& (65535 : Int32)) &&& (127 : Int32))).toUInt32.toUInt16.toUInt32.toInt32)))] []))
  refine own_step (B := T4.setTop (mkF m 83 #[.val (.ref a1), .val (.ref a2), .val (.int p3), .val (.long qw), .second, .val (.int p5), .val (.int p6), .val (.int ((((qw.toUInt64 >>> (((16 : Int32) * (p3 &&& (3 : Int32))) &&& 0x3f).toInt64.toUInt64).toInt64).toInt32) &&& (65535 : Int32))), .val (.int ((if (((p6.toUInt32 >>> (p3 &&& 31).toUInt32).toInt32) &&& (1 : Int32)) = (0 : Int32) then (((qw.toUInt64 >>> (((16 : Int32) * (p3 &&& (3 : Int32))) &&& 0x3f).toInt64.toUInt64).toInt64).toInt32 &&& (65535 : Int32)) else ((((qw.toUInt64 >>> (((16 : Int32) * (p3 &&& (3 : Int32))) &&& 0x3f).toInt64.toUInt64).toInt64).toInt32 &&& (65535 : Int32)) &&& (127 : Int32))).toUInt32.toUInt16.toUInt32.toInt32)), .val (.int (own_nib ((if (((p6.toUInt32 >>> (p3 &&& 31).toUInt32).toInt32) &&& (1 : Int32)) = (0 : Int32) then (((qw.toUInt64 >>> (((16 : Int32) * (p3 &&& (3 : Int32))) &&& 0x3f).toInt64.toUInt64).toInt64).toInt32 &&& (65535 : Int32)) else ((((qw.toUInt64 >>> (((16 : Int32) * (p3 &&& (3 : Int32))) &&& 0x3f).toInt64.toUInt64).toInt64).toInt32 &&& (65535 : Int32)) &&& (127 : Int32))).toUInt32.toUInt16.toUInt32.toInt32)))] [(.int (own_nib ((if (((p6.toUInt32 >>> (p3 &&& 31).toUInt32).toInt32) &&& (1 : Int32)) = (0 : Int32) then (((qw.toUInt64 >>> (((16 : Int32) * (p3 &&& (3 : Int32))) &&& 0x3f).toInt64.toUInt64).toInt64).toInt32 &&& (65535 : Int32)) else ((((qw.toUInt64 >>> (((16 : Int32) * (p3 &&& (3 : Int32))) &&& 0x3f).toInt64.toUInt64).toInt64).toInt32 &&& (65535 : Int32)) &&& (127 : Int32))).toUInt32.toUInt16.toUInt32.toInt32))), (.int p3), (.ref a2)])) (fun t k => ?_) ?_
  · show Steps p.tables e below (T4.setTop (mkF m 79 #[.val (.ref a1), .val (.ref a2), .val (.int p3), .val (.long qw), .second, .val (.int p5), .val (.int p6), .val (.int ((((qw.toUInt64 >>> (((16 : Int32) * (p3 &&& (3 : Int32))) &&& 0x3f).toInt64.toUInt64).toInt64).toInt32) &&& (65535 : Int32))), .val (.int ((if (((p6.toUInt32 >>> (p3 &&& 31).toUInt32).toInt32) &&& (1 : Int32)) = (0 : Int32) then (((qw.toUInt64 >>> (((16 : Int32) * (p3 &&& (3 : Int32))) &&& 0x3f).toInt64.toUInt64).toInt64).toInt32 &&& (65535 : Int32)) else ((((qw.toUInt64 >>> (((16 : Int32) * (p3 &&& (3 : Int32))) &&& 0x3f).toInt64.toUInt64).toInt64).toInt32 &&& (65535 : Int32)) &&& (127 : Int32))).toUInt32.toUInt16.toUInt32.toInt32)), .val (.int (own_nib ((if (((p6.toUInt32 >>> (p3 &&& 31).toUInt32).toInt32) &&& (1 : Int32)) = (0 : Int32) then (((qw.toUInt64 >>> (((16 : Int32) * (p3 &&& (3 : Int32))) &&& 0x3f).toInt64.toUInt64).toInt64).toInt32 &&& (65535 : Int32)) else ((((qw.toUInt64 >>> (((16 : Int32) * (p3 &&& (3 : Int32))) &&& 0x3f).toInt64.toUInt64).toInt64).toInt32 &&& (65535 : Int32)) &&& (127 : Int32))).toUInt32.toUInt16.toUInt32.toInt32)))] [])) _
    refine XS.aloadN X4.here hx rfl (hb hby d1_79) rfl rfl ?_
    refine XS.iloadN X4.here hx rfl (hb hby d1_80) rfl ?_
    refine XS.iload X4.here hx rfl (hb hby d1_81) rfl ?_
    exact k
  obtain ⟨cl5, Ar5, q5, S5, NN5, Hs5, G5⟩ := id ((V_n.other W4 (Ne.symm nee)))
  have hin5 : ¬ (p3 < 0 ∨ cl5.slots.size ≤ (p3).toNatClampNeg) := inb_of S5 ⟨hp1, hp2⟩
  obtain ⟨T5, h5, X5, e5, W5, st5⟩ := stI X4 hx hZ e4 Ar5 (j := p3) hin5 (g := (mkF m 83 #[.val (.ref a1), .val (.ref a2), .val (.int p3), .val (.long qw), .second, .val (.int p5), .val (.int p6), .val (.int ((((qw.toUInt64 >>> (((16 : Int32) * (p3 &&& (3 : Int32))) &&& 0x3f).toInt64.toUInt64).toInt64).toInt32) &&& (65535 : Int32))), .val (.int ((if (((p6.toUInt32 >>> (p3 &&& 31).toUInt32).toInt32) &&& (1 : Int32)) = (0 : Int32) then (((qw.toUInt64 >>> (((16 : Int32) * (p3 &&& (3 : Int32))) &&& 0x3f).toInt64.toUInt64).toInt64).toInt32 &&& (65535 : Int32)) else ((((qw.toUInt64 >>> (((16 : Int32) * (p3 &&& (3 : Int32))) &&& 0x3f).toInt64.toUInt64).toInt64).toInt32 &&& (65535 : Int32)) &&& (127 : Int32))).toUInt32.toUInt16.toUInt32.toInt32)), .val (.int (own_nib ((if (((p6.toUInt32 >>> (p3 &&& 31).toUInt32).toInt32) &&& (1 : Int32)) = (0 : Int32) then (((qw.toUInt64 >>> (((16 : Int32) * (p3 &&& (3 : Int32))) &&& 0x3f).toInt64.toUInt64).toInt64).toInt32 &&& (65535 : Int32)) else ((((qw.toUInt64 >>> (((16 : Int32) * (p3 &&& (3 : Int32))) &&& 0x3f).toInt64.toUInt64).toInt64).toInt32 &&& (65535 : Int32)) &&& (127 : Int32))).toUInt32.toUInt16.toUInt32.toInt32)))] [(.int (own_nib ((if (((p6.toUInt32 >>> (p3 &&& 31).toUInt32).toInt32) &&& (1 : Int32)) = (0 : Int32) then (((qw.toUInt64 >>> (((16 : Int32) * (p3 &&& (3 : Int32))) &&& 0x3f).toInt64.toUInt64).toInt64).toInt32 &&& (65535 : Int32)) else ((((qw.toUInt64 >>> (((16 : Int32) * (p3 &&& (3 : Int32))) &&& 0x3f).toInt64.toUInt64).toInt64).toInt32 &&& (65535 : Int32)) &&& (127 : Int32))).toUInt32.toUInt16.toUInt32.toInt32))), (.int p3), (.ref a2)])) rfl rfl (hb hby d1_83)
  have V5 := Arv.set Ar5 q5 S5 NN5 Hs5 G5 rfl W5 p3.toNatClampNeg rfl (by rw [lnn]; exact own_k8 hp1 hp2)
  have N5 := Fr.snoc X5 N4 g_a2
  have K5 : Keep h0 h5 [a1, a2] := K4.wr W5 (Or.inl (by simp))
  refine own_step st5 ?_
  show own_Go p e below s _ _ _ (T5.setTop (mkF m 84 #[.val (.ref a1), .val (.ref a2), .val (.int p3), .val (.long qw), .second, .val (.int p5), .val (.int p6), .val (.int ((((qw.toUInt64 >>> (((16 : Int32) * (p3 &&& (3 : Int32))) &&& 0x3f).toInt64.toUInt64).toInt64).toInt32) &&& (65535 : Int32))), .val (.int ((if (((p6.toUInt32 >>> (p3 &&& 31).toUInt32).toInt32) &&& (1 : Int32)) = (0 : Int32) then (((qw.toUInt64 >>> (((16 : Int32) * (p3 &&& (3 : Int32))) &&& 0x3f).toInt64.toUInt64).toInt64).toInt32 &&& (65535 : Int32)) else ((((qw.toUInt64 >>> (((16 : Int32) * (p3 &&& (3 : Int32))) &&& 0x3f).toInt64.toUInt64).toInt64).toInt32 &&& (65535 : Int32)) &&& (127 : Int32))).toUInt32.toUInt16.toUInt32.toInt32)), .val (.int (own_nib ((if (((p6.toUInt32 >>> (p3 &&& 31).toUInt32).toInt32) &&& (1 : Int32)) = (0 : Int32) then (((qw.toUInt64 >>> (((16 : Int32) * (p3 &&& (3 : Int32))) &&& 0x3f).toInt64.toUInt64).toInt64).toInt32 &&& (65535 : Int32)) else ((((qw.toUInt64 >>> (((16 : Int32) * (p3 &&& (3 : Int32))) &&& 0x3f).toInt64.toUInt64).toInt64).toInt32 &&& (65535 : Int32)) &&& (127 : Int32))).toUInt32.toUInt16.toUInt32.toInt32)))] []))
  exact own_retV X5 hx Bd.notSynchronized Bd.returns (hb hby d1_84) ⟨rfl, N5, by rw [e5]; exact K5, ⟨(nar .char ((if (((p6.toUInt32 >>> (p3 &&& 31).toUInt32).toInt32) &&& (1 : Int32)) = (0 : Int32) then (((qw.toUInt64 >>> (((16 : Int32) * (p3 &&& (3 : Int32))) &&& 0x3f).toInt64.toUInt64).toInt64).toInt32 &&& (65535 : Int32)) else ((((qw.toUInt64 >>> (((16 : Int32) * (p3 &&& (3 : Int32))) &&& 0x3f).toInt64.toUInt64).toInt64).toInt32 &&& (65535 : Int32)) &&& (127 : Int32))).toUInt32.toUInt16.toUInt32.toInt32)), own_idem _, by rw [e5]; exact (V4.other W5 nee), by rw [e5]; exact (by rw [own_cc]; exact V5)⟩⟩ (by decide) (by decide)
theorem ef_1w (m : MethodId) (a1 : Addr) (a2 : Addr) (p3 : Int32) (qw : Int64) (p5 : Int32) (p6 : Int32) : entryFrame m #[(.ref a1), (.ref a2), (.int p3), (.long qw), (.int p5), (.int p6)] 10 = mkF m 0 #[.val (.ref a1), .val (.ref a2), .val (.int p3), .val (.long qw), .second, .val (.int p5), .val (.int p6), .unset, .unset, .unset] [] := by first | (simp [entryFrame, mkF, argsToLocals, Value.category]; done) | rfl
def Q1w (Z : State) (a1 : Addr) (a2 : Addr) (p3 : Int32) (qw : Int64) (p5 : Int32) (p6 : Int32) (kc : ClassId) (kn : ClassId) (vc : List Value) (vn : List Value) (sa : Addr) (b : Addr) (k : ClassId) (cs : Int32) (vf : Value) (h0 : Heap) (n0 : Nat) (v : Option Value) (h : Heap) (L : List Loc) : Prop := v = none ∧ Fr n0 L ∧ Keep h0 h [a1, a2] ∧ (∃ x : Int32, nar .char x = x ∧ Arv Z h a1 kc .char (8 : Int32) (vc.set p3.toNatClampNeg (.int x)) (.int (0 : Int32)) ∧ Arv Z h a2 kn .int (8 : Int32) (vn.set p3.toNatClampNeg (.int (own_nib x))) (.int (0 : Int32)))
set_option maxRecDepth 65536 in
set_option maxHeartbeats 40000000 in
theorem rm1w (l : Launch) (Z : State) (a0 : Array Value) (hw : ∀ d ∈ tables_1, d.before a0 Z = true) (ws : List Jvm.Cond) (a1 : Addr) (a2 : Addr) (p3 : Int32) (qw : Int64) (p5 : Int32) (p6 : Int32) (kc : ClassId) (kn : ClassId) (vc : List Value) (vn : List Value) (sa : Addr) (b : Addr) (k : ClassId) (cs : Int32) (vf : Value) (h0 : Heap) (n0 : Nat) (Z0 : n0 ≤ h0.size) (V_c : Arv Z h0 a1 kc .char (8 : Int32) vc (.int (0 : Int32))) (lc : vc.length = 8) (V_n : Arv Z h0 a2 kn .int (8 : Int32) vn (.int (0 : Int32))) (lnn : vn.length = 8) (hp1 : ¬ (p3 < (0 : Int32))) (hp2 : p3 < (8 : Int32)) (nee : a1 ≠ a2) (g_a1 : n0 ≤ a1) (g_a2 : n0 ≤ a2) (P_0 : Exa Z h0 sa "java/lang/String") (P_1 : Fld Z h0 sa "java/lang/String" "coder" "B" (.int (0 : Int32))) (P_2 : Fld Z h0 sa "java/lang/String" "value" "[B" (.ref b)) (V_b : Arv Z h0 b k .byte (16 : Int32) [(.int (48 : Int32)), (.int (49 : Int32)), (.int (50 : Int32)), (.int (51 : Int32)), (.int (52 : Int32)), (.int (53 : Int32)), (.int (54 : Int32)), (.int (55 : Int32)), (.int (56 : Int32)), (.int (57 : Int32)), (.int (97 : Int32)), (.int (98 : Int32)), (.int (99 : Int32)), (.int (100 : Int32)), (.int (101 : Int32)), (.int (102 : Int32))] (.int 0)) (S_C : Sta Z h0 "java/lang/String" "COMPACT_STRINGS" "Z" (.int cs)) (hcs : ¬ (cs = (0 : Int32))) (S_F : Sta Z h0 "jdk/internal/util/Preconditions" "SIOOBE_FORMATTER" "Ljava/util/function/BiFunction;" vf) (hvf : vf.isRef = true) :
    MetFree l (⟨"tidemark/RecordFormParseChecksumPinLaw", "draw", "([C[IIJII)V"⟩ : MethodName) (head1 (Jvm.Cond.code (⟨"tidemark/RecordFormParseChecksumPinLaw", "draw", "([C[IIJII)V"⟩ : MethodName) method_3_code 10 none :: ws) ({ frames := 4, cells := 0, slots := 0, locals := 53 } : Room)) (fun a U => a = #[(.ref a1), (.ref a2), (.int p3), (.long qw), (.int p5), (.int p6)] ∧ Z.Warmed39 U.vm ∧ U.heap = h0 ∧ Lit U "tidemark/RecordFormParseChecksumPinLaw" 22 sa) (fun _ _ _ _ _ => True) (fun _ U o U' => ∃ v L, o = .returned v ∧ Q1w Z a1 a2 p3 qw p5 p6 kc kn vc vn sa b k cs vf h0 n0 v U'.heap L ∧ FrameEnd U o U' L ({ frames := 4, cells := 0, slots := 0, locals := 53 } : Room).cells ({ frames := 4, cells := 0, slots := 0, locals := 53 } : Room).slots) := by
  refine MetFree.of_bodySF (plainFor_of_name pn_7) hisR ?_
  intro p e s m args below meth c s₁ Bd hml0 hP hK
  obtain ⟨rfl, hZ, hh, Lt⟩ := hP
  have hx := Bd.exec
  have hby := Bd.bytes
  have hml : c.maxLocals = 10 := hml0
  have hown : s.vm.findClass "tidemark/RecordFormParseChecksumPinLaw" = some m.cls := findClass_of_methodNamed Bd.named
  have hnm := (name_of_methodNamed Bd.named Bd.method).1
  have X0 : Stand p l e ({ frames := 4, cells := 0, slots := 0, locals := 53 } : Room) s m #[(.ref a1), (.ref a2), (.int p3), (.long qw), (.int p5), (.int p6)] below meth c s₁ [] 0 0 := Stand.of_body Bd
  have e0 : s₁.heap = h0 := by rw [← hh, Bd.state]; rfl
  have N0 := Fr.nil n0
  skip
  show own_Go p e below s (Q1w Z a1 a2 p3 qw p5 p6 kc kn vc vn sa b k cs vf h0 n0) ({ frames := 4, cells := 0, slots := 0, locals := 53 } : Room).cells ({ frames := 4, cells := 0, slots := 0, locals := 53 } : Room).slots _
  refine own_step (B := s₁.setTop (mkF m 0 #[.val (.ref a1), .val (.ref a2), .val (.int p3), .val (.long qw), .second, .val (.int p5), .val (.int p6), .unset, .unset, .unset] [])) (fun t k => castTop (ef_1w m a1 a2 p3 qw p5 p6) k) ?_
  have KK0 : Keep h0 h0 [a1, a2] := Keep.refl h0 _
  refine own_step (B := s₁.setTop (mkF m 20 #[.val (.ref a1), .val (.ref a2), .val (.int p3), .val (.long qw), .second, .val (.int p5), .val (.int p6), .val (.int ((((qw.toUInt64 >>> (((16 : Int32) * (p3 &&& (3 : Int32))) &&& 0x3f).toInt64.toUInt64).toInt64).toInt32) &&& (65535 : Int32))), .unset, .unset] [(.int (((p5.toUInt32 >>> (p3 &&& 31).toUInt32).toInt32) &&& (1 : Int32)))])) (fun t k => ?_) ?_
  · show Steps p.tables e below (s₁.setTop (mkF m 0 #[.val (.ref a1), .val (.ref a2), .val (.int p3), .val (.long qw), .second, .val (.int p5), .val (.int p6), .unset, .unset, .unset] [])) _
    refine XS.lloadN X0.here hx rfl (hb hby d1_0) rfl ?_
    refine XS.bipush X0.here hx rfl (hb hby d1_1) ?_
    refine XS.iloadN X0.here hx rfl (hb hby d1_3) rfl ?_
    refine XS.iconst X0.here hx rfl (hb hby d1_4) ?_
    refine XS.iand X0.here hx rfl (hb hby d1_5) rfl ?_
    refine XS.imul X0.here hx rfl (hb hby d1_6) rfl ?_
    refine XS.lushr X0.here hx rfl (hb hby d1_7) rfl ?_
    refine XS.l2i X0.here hx rfl (hb hby d1_8) rfl ?_
    refine X0.ldcInt hx hown (mvT hZ (hw _ (List.mem_of_getElem? (i := 6) rfl))) (g := (mkF m 9 #[.val (.ref a1), .val (.ref a2), .val (.int p3), .val (.long qw), .second, .val (.int p5), .val (.int p6), .unset, .unset, .unset] [(.int (((qw.toUInt64 >>> (((16 : Int32) * (p3 &&& (3 : Int32))) &&& 0x3f).toInt64.toUInt64).toInt64).toInt32))])) rfl (hb hby d1_9) _ ?_
    refine XS.iand X0.here hx rfl (hb hby d1_11) rfl ?_
    refine XS.istore X0.here hx rfl (hb hby d1_12) rfl (l' := #[.val (.ref a1), .val (.ref a2), .val (.int p3), .val (.long qw), .second, .val (.int p5), .val (.int p6), .val (.int ((((qw.toUInt64 >>> (((16 : Int32) * (p3 &&& (3 : Int32))) &&& 0x3f).toInt64.toUInt64).toInt64).toInt32) &&& (65535 : Int32))), .unset, .unset]) rfl ?_
    refine XS.iload X0.here hx rfl (hb hby d1_14) rfl ?_
    refine XS.iloadN X0.here hx rfl (hb hby d1_16) rfl ?_
    refine XS.iushr X0.here hx rfl (hb hby d1_17) rfl ?_
    refine XS.iconst X0.here hx rfl (hb hby d1_18) ?_
    refine XS.iand X0.here hx rfl (hb hby d1_19) rfl ?_
    exact k
  by_cases hc20 : (((p5.toUInt32 >>> (p3 &&& 31).toUInt32).toInt32) &&& (1 : Int32)) = (0 : Int32)
  · refine own_step (B := s₁.setTop (mkF m 42 #[.val (.ref a1), .val (.ref a2), .val (.int p3), .val (.long qw), .second, .val (.int p5), .val (.int p6), .val (.int ((((qw.toUInt64 >>> (((16 : Int32) * (p3 &&& (3 : Int32))) &&& 0x3f).toInt64.toUInt64).toInt64).toInt32) &&& (65535 : Int32))), .unset, .unset] [])) (fun t k => ?_) ?_
    · show Steps p.tables e below (s₁.setTop (mkF m 20 #[.val (.ref a1), .val (.ref a2), .val (.int p3), .val (.long qw), .second, .val (.int p5), .val (.int p6), .val (.int ((((qw.toUInt64 >>> (((16 : Int32) * (p3 &&& (3 : Int32))) &&& 0x3f).toInt64.toUInt64).toInt64).toInt32) &&& (65535 : Int32))), .unset, .unset] [(.int (((p5.toUInt32 >>> (p3 &&& 31).toUInt32).toInt32) &&& (1 : Int32)))])) _
      refine XS.ifYes X0.here hx rfl (pc0 := 20) (pc' := 42) rfl (hb hby d1_20) rfl ((if0 _ _).trans (teq hc20).1) (by decide) (by decide) ?_
      exact k
    refine own_step (B := s₁.setTop (mkF m 67 #[.val (.ref a1), .val (.ref a2), .val (.int p3), .val (.long qw), .second, .val (.int p5), .val (.int p6), .val (.int ((((qw.toUInt64 >>> (((16 : Int32) * (p3 &&& (3 : Int32))) &&& 0x3f).toInt64.toUInt64).toInt64).toInt32) &&& (65535 : Int32))), .val (.int ((if (((p6.toUInt32 >>> (p3 &&& 31).toUInt32).toInt32) &&& (1 : Int32)) = (0 : Int32) then (((qw.toUInt64 >>> (((16 : Int32) * (p3 &&& (3 : Int32))) &&& 0x3f).toInt64.toUInt64).toInt64).toInt32 &&& (65535 : Int32)) else ((((qw.toUInt64 >>> (((16 : Int32) * (p3 &&& (3 : Int32))) &&& 0x3f).toInt64.toUInt64).toInt64).toInt32 &&& (65535 : Int32)) &&& (127 : Int32))).toUInt32.toUInt16.toUInt32.toInt32)), .unset] [])) (fun t k => ?_) ?_
    · show Steps p.tables e below (s₁.setTop (mkF m 42 #[.val (.ref a1), .val (.ref a2), .val (.int p3), .val (.long qw), .second, .val (.int p5), .val (.int p6), .val (.int ((((qw.toUInt64 >>> (((16 : Int32) * (p3 &&& (3 : Int32))) &&& 0x3f).toInt64.toUInt64).toInt64).toInt32) &&& (65535 : Int32))), .unset, .unset] [])) _
      refine XS.iload X0.here hx rfl (hb hby d1_42) rfl ?_
      show Steps p.tables e below (s₁.setTop (mkF m 44 #[.val (.ref a1), .val (.ref a2), .val (.int p3), .val (.long qw), .second, .val (.int p5), .val (.int p6), .val (.int ((((qw.toUInt64 >>> (((16 : Int32) * (p3 &&& (3 : Int32))) &&& 0x3f).toInt64.toUInt64).toInt64).toInt32) &&& (65535 : Int32))), .unset, .unset] [(.int p6)])) _
      refine XS.iloadN X0.here hx rfl (hb hby d1_44) rfl ?_
      show Steps p.tables e below (s₁.setTop (mkF m 45 #[.val (.ref a1), .val (.ref a2), .val (.int p3), .val (.long qw), .second, .val (.int p5), .val (.int p6), .val (.int ((((qw.toUInt64 >>> (((16 : Int32) * (p3 &&& (3 : Int32))) &&& 0x3f).toInt64.toUInt64).toInt64).toInt32) &&& (65535 : Int32))), .unset, .unset] [(.int p3), (.int p6)])) _
      refine XS.iushr X0.here hx rfl (hb hby d1_45) rfl ?_
      show Steps p.tables e below (s₁.setTop (mkF m 46 #[.val (.ref a1), .val (.ref a2), .val (.int p3), .val (.long qw), .second, .val (.int p5), .val (.int p6), .val (.int ((((qw.toUInt64 >>> (((16 : Int32) * (p3 &&& (3 : Int32))) &&& 0x3f).toInt64.toUInt64).toInt64).toInt32) &&& (65535 : Int32))), .unset, .unset] [(.int ((p6.toUInt32 >>> (p3 &&& 31).toUInt32).toInt32))])) _
      refine XS.iconst X0.here hx rfl (hb hby d1_46) ?_
      show Steps p.tables e below (s₁.setTop (mkF m 47 #[.val (.ref a1), .val (.ref a2), .val (.int p3), .val (.long qw), .second, .val (.int p5), .val (.int p6), .val (.int ((((qw.toUInt64 >>> (((16 : Int32) * (p3 &&& (3 : Int32))) &&& 0x3f).toInt64.toUInt64).toInt64).toInt32) &&& (65535 : Int32))), .unset, .unset] [(.int (1 : Int32)), (.int ((p6.toUInt32 >>> (p3 &&& 31).toUInt32).toInt32))])) _
      refine XS.iand X0.here hx rfl (hb hby d1_47) rfl ?_
      by_cases hc48 : (((p6.toUInt32 >>> (p3 &&& 31).toUInt32).toInt32) &&& (1 : Int32)) = (0 : Int32)
      · show Steps p.tables e below (s₁.setTop (mkF m 48 #[.val (.ref a1), .val (.ref a2), .val (.int p3), .val (.long qw), .second, .val (.int p5), .val (.int p6), .val (.int ((((qw.toUInt64 >>> (((16 : Int32) * (p3 &&& (3 : Int32))) &&& 0x3f).toInt64.toUInt64).toInt64).toInt32) &&& (65535 : Int32))), .unset, .unset] [(.int (((p6.toUInt32 >>> (p3 &&& 31).toUInt32).toInt32) &&& (1 : Int32)))])) _
        refine XS.ifYes X0.here hx rfl (pc0 := 48) (pc' := 62) rfl (hb hby d1_48) rfl ((if0 _ _).trans (teq hc48).1) (by decide) (by decide) ?_
        show Steps p.tables e below (s₁.setTop (mkF m 62 #[.val (.ref a1), .val (.ref a2), .val (.int p3), .val (.long qw), .second, .val (.int p5), .val (.int p6), .val (.int ((((qw.toUInt64 >>> (((16 : Int32) * (p3 &&& (3 : Int32))) &&& 0x3f).toInt64.toUInt64).toInt64).toInt32) &&& (65535 : Int32))), .unset, .unset] [])) _
        refine XS.iload X0.here hx rfl (hb hby d1_62) rfl ?_
        show Steps p.tables e below (s₁.setTop (mkF m 64 #[.val (.ref a1), .val (.ref a2), .val (.int p3), .val (.long qw), .second, .val (.int p5), .val (.int p6), .val (.int ((((qw.toUInt64 >>> (((16 : Int32) * (p3 &&& (3 : Int32))) &&& 0x3f).toInt64.toUInt64).toInt64).toInt32) &&& (65535 : Int32))), .unset, .unset] [(.int ((((qw.toUInt64 >>> (((16 : Int32) * (p3 &&& (3 : Int32))) &&& 0x3f).toInt64.toUInt64).toInt64).toInt32) &&& (65535 : Int32)))])) _
        refine XS.i2c X0.here hx rfl (hb hby d1_64) rfl ?_
        show Steps p.tables e below (s₁.setTop (mkF m 65 #[.val (.ref a1), .val (.ref a2), .val (.int p3), .val (.long qw), .second, .val (.int p5), .val (.int p6), .val (.int ((((qw.toUInt64 >>> (((16 : Int32) * (p3 &&& (3 : Int32))) &&& 0x3f).toInt64.toUInt64).toInt64).toInt32) &&& (65535 : Int32))), .unset, .unset] [(.int (((((qw.toUInt64 >>> (((16 : Int32) * (p3 &&& (3 : Int32))) &&& 0x3f).toInt64.toUInt64).toInt64).toInt32) &&& (65535 : Int32)).toUInt32.toUInt16.toUInt32.toInt32))])) _
        refine XS.istore X0.here hx rfl (hb hby d1_65) rfl (l' := #[.val (.ref a1), .val (.ref a2), .val (.int p3), .val (.long qw), .second, .val (.int p5), .val (.int p6), .val (.int ((((qw.toUInt64 >>> (((16 : Int32) * (p3 &&& (3 : Int32))) &&& 0x3f).toInt64.toUInt64).toInt64).toInt32) &&& (65535 : Int32))), .val (.int (((((qw.toUInt64 >>> (((16 : Int32) * (p3 &&& (3 : Int32))) &&& 0x3f).toInt64.toUInt64).toInt64).toInt32) &&& (65535 : Int32)).toUInt32.toUInt16.toUInt32.toInt32)), .unset]) rfl ?_
        show Steps p.tables e below (s₁.setTop (mkF m 67 #[.val (.ref a1), .val (.ref a2), .val (.int p3), .val (.long qw), .second, .val (.int p5), .val (.int p6), .val (.int ((((qw.toUInt64 >>> (((16 : Int32) * (p3 &&& (3 : Int32))) &&& 0x3f).toInt64.toUInt64).toInt64).toInt32) &&& (65535 : Int32))), .val (.int (((((qw.toUInt64 >>> (((16 : Int32) * (p3 &&& (3 : Int32))) &&& 0x3f).toInt64.toUInt64).toInt64).toInt32) &&& (65535 : Int32)).toUInt32.toUInt16.toUInt32.toInt32)), .unset] [])) _
        have q1 : ((if (((p6.toUInt32 >>> (p3 &&& 31).toUInt32).toInt32) &&& (1 : Int32)) = (0 : Int32) then (((qw.toUInt64 >>> (((16 : Int32) * (p3 &&& (3 : Int32))) &&& 0x3f).toInt64.toUInt64).toInt64).toInt32 &&& (65535 : Int32)) else ((((qw.toUInt64 >>> (((16 : Int32) * (p3 &&& (3 : Int32))) &&& 0x3f).toInt64.toUInt64).toInt64).toInt32 &&& (65535 : Int32)) &&& (127 : Int32))).toUInt32.toUInt16.toUInt32.toInt32) = (((((qw.toUInt64 >>> (((16 : Int32) * (p3 &&& (3 : Int32))) &&& 0x3f).toInt64.toUInt64).toInt64).toInt32) &&& (65535 : Int32)).toUInt32.toUInt16.toUInt32.toInt32) := by first | rw [if_pos hc48] | rw [if_neg hc48]
        rw [q1] at k
        exact k
      · show Steps p.tables e below (s₁.setTop (mkF m 48 #[.val (.ref a1), .val (.ref a2), .val (.int p3), .val (.long qw), .second, .val (.int p5), .val (.int p6), .val (.int ((((qw.toUInt64 >>> (((16 : Int32) * (p3 &&& (3 : Int32))) &&& 0x3f).toInt64.toUInt64).toInt64).toInt32) &&& (65535 : Int32))), .unset, .unset] [(.int (((p6.toUInt32 >>> (p3 &&& 31).toUInt32).toInt32) &&& (1 : Int32)))])) _
        refine XS.ifNo X0.here hx rfl (hb hby d1_48) rfl ((if0 _ _).trans (feq hc48).1) ?_
        show Steps p.tables e below (s₁.setTop (mkF m 51 #[.val (.ref a1), .val (.ref a2), .val (.int p3), .val (.long qw), .second, .val (.int p5), .val (.int p6), .val (.int ((((qw.toUInt64 >>> (((16 : Int32) * (p3 &&& (3 : Int32))) &&& 0x3f).toInt64.toUInt64).toInt64).toInt32) &&& (65535 : Int32))), .unset, .unset] [])) _
        refine XS.iload X0.here hx rfl (hb hby d1_51) rfl ?_
        show Steps p.tables e below (s₁.setTop (mkF m 53 #[.val (.ref a1), .val (.ref a2), .val (.int p3), .val (.long qw), .second, .val (.int p5), .val (.int p6), .val (.int ((((qw.toUInt64 >>> (((16 : Int32) * (p3 &&& (3 : Int32))) &&& 0x3f).toInt64.toUInt64).toInt64).toInt32) &&& (65535 : Int32))), .unset, .unset] [(.int ((((qw.toUInt64 >>> (((16 : Int32) * (p3 &&& (3 : Int32))) &&& 0x3f).toInt64.toUInt64).toInt64).toInt32) &&& (65535 : Int32)))])) _
        refine XS.bipush X0.here hx rfl (hb hby d1_53) ?_
        show Steps p.tables e below (s₁.setTop (mkF m 55 #[.val (.ref a1), .val (.ref a2), .val (.int p3), .val (.long qw), .second, .val (.int p5), .val (.int p6), .val (.int ((((qw.toUInt64 >>> (((16 : Int32) * (p3 &&& (3 : Int32))) &&& 0x3f).toInt64.toUInt64).toInt64).toInt32) &&& (65535 : Int32))), .unset, .unset] [(.int (127 : Int32)), (.int ((((qw.toUInt64 >>> (((16 : Int32) * (p3 &&& (3 : Int32))) &&& 0x3f).toInt64.toUInt64).toInt64).toInt32) &&& (65535 : Int32)))])) _
        refine XS.iand X0.here hx rfl (hb hby d1_55) rfl ?_
        show Steps p.tables e below (s₁.setTop (mkF m 56 #[.val (.ref a1), .val (.ref a2), .val (.int p3), .val (.long qw), .second, .val (.int p5), .val (.int p6), .val (.int ((((qw.toUInt64 >>> (((16 : Int32) * (p3 &&& (3 : Int32))) &&& 0x3f).toInt64.toUInt64).toInt64).toInt32) &&& (65535 : Int32))), .unset, .unset] [(.int (((((qw.toUInt64 >>> (((16 : Int32) * (p3 &&& (3 : Int32))) &&& 0x3f).toInt64.toUInt64).toInt64).toInt32) &&& (65535 : Int32)) &&& (127 : Int32)))])) _
        refine XS.i2c X0.here hx rfl (hb hby d1_56) rfl ?_
        show Steps p.tables e below (s₁.setTop (mkF m 57 #[.val (.ref a1), .val (.ref a2), .val (.int p3), .val (.long qw), .second, .val (.int p5), .val (.int p6), .val (.int ((((qw.toUInt64 >>> (((16 : Int32) * (p3 &&& (3 : Int32))) &&& 0x3f).toInt64.toUInt64).toInt64).toInt32) &&& (65535 : Int32))), .unset, .unset] [(.int ((((((qw.toUInt64 >>> (((16 : Int32) * (p3 &&& (3 : Int32))) &&& 0x3f).toInt64.toUInt64).toInt64).toInt32) &&& (65535 : Int32)) &&& (127 : Int32)).toUInt32.toUInt16.toUInt32.toInt32))])) _
        refine XS.istore X0.here hx rfl (hb hby d1_57) rfl (l' := #[.val (.ref a1), .val (.ref a2), .val (.int p3), .val (.long qw), .second, .val (.int p5), .val (.int p6), .val (.int ((((qw.toUInt64 >>> (((16 : Int32) * (p3 &&& (3 : Int32))) &&& 0x3f).toInt64.toUInt64).toInt64).toInt32) &&& (65535 : Int32))), .val (.int ((((((qw.toUInt64 >>> (((16 : Int32) * (p3 &&& (3 : Int32))) &&& 0x3f).toInt64.toUInt64).toInt64).toInt32) &&& (65535 : Int32)) &&& (127 : Int32)).toUInt32.toUInt16.toUInt32.toInt32)), .unset]) rfl ?_
        show Steps p.tables e below (s₁.setTop (mkF m 59 #[.val (.ref a1), .val (.ref a2), .val (.int p3), .val (.long qw), .second, .val (.int p5), .val (.int p6), .val (.int ((((qw.toUInt64 >>> (((16 : Int32) * (p3 &&& (3 : Int32))) &&& 0x3f).toInt64.toUInt64).toInt64).toInt32) &&& (65535 : Int32))), .val (.int ((((((qw.toUInt64 >>> (((16 : Int32) * (p3 &&& (3 : Int32))) &&& 0x3f).toInt64.toUInt64).toInt64).toInt32) &&& (65535 : Int32)) &&& (127 : Int32)).toUInt32.toUInt16.toUInt32.toInt32)), .unset] [])) _
        refine XS.goto X0.here hx rfl (pc0 := 59) (pc' := 67) rfl (hb hby d1_59) (by decide) (by decide) ?_
        show Steps p.tables e below (s₁.setTop (mkF m 67 #[.val (.ref a1), .val (.ref a2), .val (.int p3), .val (.long qw), .second, .val (.int p5), .val (.int p6), .val (.int ((((qw.toUInt64 >>> (((16 : Int32) * (p3 &&& (3 : Int32))) &&& 0x3f).toInt64.toUInt64).toInt64).toInt32) &&& (65535 : Int32))), .val (.int ((((((qw.toUInt64 >>> (((16 : Int32) * (p3 &&& (3 : Int32))) &&& 0x3f).toInt64.toUInt64).toInt64).toInt32) &&& (65535 : Int32)) &&& (127 : Int32)).toUInt32.toUInt16.toUInt32.toInt32)), .unset] [])) _
        have q2 : ((if (((p6.toUInt32 >>> (p3 &&& 31).toUInt32).toInt32) &&& (1 : Int32)) = (0 : Int32) then (((qw.toUInt64 >>> (((16 : Int32) * (p3 &&& (3 : Int32))) &&& 0x3f).toInt64.toUInt64).toInt64).toInt32 &&& (65535 : Int32)) else ((((qw.toUInt64 >>> (((16 : Int32) * (p3 &&& (3 : Int32))) &&& 0x3f).toInt64.toUInt64).toInt64).toInt32 &&& (65535 : Int32)) &&& (127 : Int32))).toUInt32.toUInt16.toUInt32.toInt32) = ((((((qw.toUInt64 >>> (((16 : Int32) * (p3 &&& (3 : Int32))) &&& 0x3f).toInt64.toUInt64).toInt64).toInt32) &&& (65535 : Int32)) &&& (127 : Int32)).toUInt32.toUInt16.toUInt32.toInt32) := by first | rw [if_pos hc48] | rw [if_neg hc48]
        rw [q2] at k
        exact k
    refine own_step (B := s₁.setTop (mkF m 69 #[.val (.ref a1), .val (.ref a2), .val (.int p3), .val (.long qw), .second, .val (.int p5), .val (.int p6), .val (.int ((((qw.toUInt64 >>> (((16 : Int32) * (p3 &&& (3 : Int32))) &&& 0x3f).toInt64.toUInt64).toInt64).toInt32) &&& (65535 : Int32))), .val (.int ((if (((p6.toUInt32 >>> (p3 &&& 31).toUInt32).toInt32) &&& (1 : Int32)) = (0 : Int32) then (((qw.toUInt64 >>> (((16 : Int32) * (p3 &&& (3 : Int32))) &&& 0x3f).toInt64.toUInt64).toInt64).toInt32 &&& (65535 : Int32)) else ((((qw.toUInt64 >>> (((16 : Int32) * (p3 &&& (3 : Int32))) &&& 0x3f).toInt64.toUInt64).toInt64).toInt32 &&& (65535 : Int32)) &&& (127 : Int32))).toUInt32.toUInt16.toUInt32.toInt32)), .unset] [(.int ((if (((p6.toUInt32 >>> (p3 &&& 31).toUInt32).toInt32) &&& (1 : Int32)) = (0 : Int32) then (((qw.toUInt64 >>> (((16 : Int32) * (p3 &&& (3 : Int32))) &&& 0x3f).toInt64.toUInt64).toInt64).toInt32 &&& (65535 : Int32)) else ((((qw.toUInt64 >>> (((16 : Int32) * (p3 &&& (3 : Int32))) &&& 0x3f).toInt64.toUInt64).toInt64).toInt32 &&& (65535 : Int32)) &&& (127 : Int32))).toUInt32.toUInt16.toUInt32.toInt32))])) (fun t k => ?_) ?_
    · show Steps p.tables e below (s₁.setTop (mkF m 67 #[.val (.ref a1), .val (.ref a2), .val (.int p3), .val (.long qw), .second, .val (.int p5), .val (.int p6), .val (.int ((((qw.toUInt64 >>> (((16 : Int32) * (p3 &&& (3 : Int32))) &&& 0x3f).toInt64.toUInt64).toInt64).toInt32) &&& (65535 : Int32))), .val (.int ((if (((p6.toUInt32 >>> (p3 &&& 31).toUInt32).toInt32) &&& (1 : Int32)) = (0 : Int32) then (((qw.toUInt64 >>> (((16 : Int32) * (p3 &&& (3 : Int32))) &&& 0x3f).toInt64.toUInt64).toInt64).toInt32 &&& (65535 : Int32)) else ((((qw.toUInt64 >>> (((16 : Int32) * (p3 &&& (3 : Int32))) &&& 0x3f).toInt64.toUInt64).toInt64).toInt32 &&& (65535 : Int32)) &&& (127 : Int32))).toUInt32.toUInt16.toUInt32.toInt32)), .unset] [])) _
      refine XS.iload X0.here hx rfl (hb hby d1_67) rfl ?_
      exact k
    obtain ⟨_, _, ⟨T3, L3, k3, n3⟩, -, X3, ⟨Lc3, hQ3, l3, y3, z3⟩, st3⟩ := Jvm.LawKit.callS X0 hx (y := (⟨"tidemark/RecordFormParseChecksumPinLaw", "nib", "(C)I"⟩ : MethodName)) hown (mvT hZ (hw _ (List.mem_of_getElem? (i := 7) rfl))) (mvT hZ (hw _ (List.mem_of_getElem? (i := 8) rfl))) (mvT hZ (hw _ (List.mem_of_getElem? (i := 4) rfl))) (mvT hZ (hw _ (List.mem_of_getElem? (i := 9) rfl))) (by decide) (backOf (W := 0) (rm2 l Z a0 hw [] ((if (((p6.toUInt32 >>> (p3 &&& 31).toUInt32).toInt32) &&& (1 : Int32)) = (0 : Int32) then (((qw.toUInt64 >>> (((16 : Int32) * (p3 &&& (3 : Int32))) &&& 0x3f).toInt64.toUInt64).toInt64).toInt32 &&& (65535 : Int32)) else ((((qw.toUInt64 >>> (((16 : Int32) * (p3 &&& (3 : Int32))) &&& 0x3f).toInt64.toUInt64).toInt64).toInt32 &&& (65535 : Int32)) &&& (127 : Int32))).toUInt32.toUInt16.toUInt32.toInt32)  h0 n0 Z0 ) hZ (hw _ (List.mem_of_getElem? (i := 9) rfl)) (hw _ (List.mem_of_getElem? (i := 4) rfl)) (by decide) (by decide) ) (g := (mkF m 69 #[.val (.ref a1), .val (.ref a2), .val (.int p3), .val (.long qw), .second, .val (.int p5), .val (.int p6), .val (.int ((((qw.toUInt64 >>> (((16 : Int32) * (p3 &&& (3 : Int32))) &&& 0x3f).toInt64.toUInt64).toInt64).toInt32) &&& (65535 : Int32))), .val (.int ((if (((p6.toUInt32 >>> (p3 &&& 31).toUInt32).toInt32) &&& (1 : Int32)) = (0 : Int32) then (((qw.toUInt64 >>> (((16 : Int32) * (p3 &&& (3 : Int32))) &&& 0x3f).toInt64.toUInt64).toInt64).toInt32 &&& (65535 : Int32)) else ((((qw.toUInt64 >>> (((16 : Int32) * (p3 &&& (3 : Int32))) &&& 0x3f).toInt64.toUInt64).toInt64).toInt32 &&& (65535 : Int32)) &&& (127 : Int32))).toUInt32.toUInt16.toUInt32.toInt32)), .unset] [(.int ((if (((p6.toUInt32 >>> (p3 &&& 31).toUInt32).toInt32) &&& (1 : Int32)) = (0 : Int32) then (((qw.toUInt64 >>> (((16 : Int32) * (p3 &&& (3 : Int32))) &&& 0x3f).toInt64.toUInt64).toInt64).toInt32 &&& (65535 : Int32)) else ((((qw.toUInt64 >>> (((16 : Int32) * (p3 &&& (3 : Int32))) &&& 0x3f).toInt64.toUInt64).toInt64).toInt32 &&& (65535 : Int32)) &&& (127 : Int32))).toUInt32.toUInt16.toUInt32.toInt32))])) rfl (by rw [hml]; rfl) (argsL := [(.int ((if (((p6.toUInt32 >>> (p3 &&& 31).toUInt32).toInt32) &&& (1 : Int32)) = (0 : Int32) then (((qw.toUInt64 >>> (((16 : Int32) * (p3 &&& (3 : Int32))) &&& 0x3f).toInt64.toUInt64).toInt64).toInt32 &&& (65535 : Int32)) else ((((qw.toUInt64 >>> (((16 : Int32) * (p3 &&& (3 : Int32))) &&& 0x3f).toInt64.toUInt64).toInt64).toInt32 &&& (65535 : Int32)) &&& (127 : Int32))).toUInt32.toUInt16.toUInt32.toInt32))]) (rest := []) (lenOf pd_9 rfl) rfl (by show 2 * 0 + _ ≤ _; exact Nat.le_of_eq rfl) (hb hby d1_69) (fun _ _ => ⟨rfl, e0, (by decide : 0 + 0 ≤ _), (by decide : 0 + 0 ≤ _)⟩)
    dsimp only [Pt.U, Pt.locs, Pt.cells, Pt.slots] at X3 l3 y3 z3 st3 hQ3
    subst l3 y3 z3
    obtain ⟨rfl, N3q, e3⟩ := hQ3
    have N3 := Fr.app N0 N3q
    refine own_step st3 ?_
    show own_Go p e below s _ _ _ (T3.setTop (mkF m 72 #[.val (.ref a1), .val (.ref a2), .val (.int p3), .val (.long qw), .second, .val (.int p5), .val (.int p6), .val (.int ((((qw.toUInt64 >>> (((16 : Int32) * (p3 &&& (3 : Int32))) &&& 0x3f).toInt64.toUInt64).toInt64).toInt32) &&& (65535 : Int32))), .val (.int ((if (((p6.toUInt32 >>> (p3 &&& 31).toUInt32).toInt32) &&& (1 : Int32)) = (0 : Int32) then (((qw.toUInt64 >>> (((16 : Int32) * (p3 &&& (3 : Int32))) &&& 0x3f).toInt64.toUInt64).toInt64).toInt32 &&& (65535 : Int32)) else ((((qw.toUInt64 >>> (((16 : Int32) * (p3 &&& (3 : Int32))) &&& 0x3f).toInt64.toUInt64).toInt64).toInt32 &&& (65535 : Int32)) &&& (127 : Int32))).toUInt32.toUInt16.toUInt32.toInt32)), .unset] [(.int (own_nib ((if (((p6.toUInt32 >>> (p3 &&& 31).toUInt32).toInt32) &&& (1 : Int32)) = (0 : Int32) then (((qw.toUInt64 >>> (((16 : Int32) * (p3 &&& (3 : Int32))) &&& 0x3f).toInt64.toUInt64).toInt64).toInt32 &&& (65535 : Int32)) else ((((qw.toUInt64 >>> (((16 : Int32) * (p3 &&& (3 : Int32))) &&& 0x3f).toInt64.toUInt64).toInt64).toInt32 &&& (65535 : Int32)) &&& (127 : Int32))).toUInt32.toUInt16.toUInt32.toInt32)))]))
    refine own_step (B := T3.setTop (mkF m 78 #[.val (.ref a1), .val (.ref a2), .val (.int p3), .val (.long qw), .second, .val (.int p5), .val (.int p6), .val (.int ((((qw.toUInt64 >>> (((16 : Int32) * (p3 &&& (3 : Int32))) &&& 0x3f).toInt64.toUInt64).toInt64).toInt32) &&& (65535 : Int32))), .val (.int ((if (((p6.toUInt32 >>> (p3 &&& 31).toUInt32).toInt32) &&& (1 : Int32)) = (0 : Int32) then (((qw.toUInt64 >>> (((16 : Int32) * (p3 &&& (3 : Int32))) &&& 0x3f).toInt64.toUInt64).toInt64).toInt32 &&& (65535 : Int32)) else ((((qw.toUInt64 >>> (((16 : Int32) * (p3 &&& (3 : Int32))) &&& 0x3f).toInt64.toUInt64).toInt64).toInt32 &&& (65535 : Int32)) &&& (127 : Int32))).toUInt32.toUInt16.toUInt32.toInt32)), .val (.int (own_nib ((if (((p6.toUInt32 >>> (p3 &&& 31).toUInt32).toInt32) &&& (1 : Int32)) = (0 : Int32) then (((qw.toUInt64 >>> (((16 : Int32) * (p3 &&& (3 : Int32))) &&& 0x3f).toInt64.toUInt64).toInt64).toInt32 &&& (65535 : Int32)) else ((((qw.toUInt64 >>> (((16 : Int32) * (p3 &&& (3 : Int32))) &&& 0x3f).toInt64.toUInt64).toInt64).toInt32 &&& (65535 : Int32)) &&& (127 : Int32))).toUInt32.toUInt16.toUInt32.toInt32)))] [(.int ((if (((p6.toUInt32 >>> (p3 &&& 31).toUInt32).toInt32) &&& (1 : Int32)) = (0 : Int32) then (((qw.toUInt64 >>> (((16 : Int32) * (p3 &&& (3 : Int32))) &&& 0x3f).toInt64.toUInt64).toInt64).toInt32 &&& (65535 : Int32)) else ((((qw.toUInt64 >>> (((16 : Int32) * (p3 &&& (3 : Int32))) &&& 0x3f).toInt64.toUInt64).toInt64).toInt32 &&& (65535 : Int32)) &&& (127 : Int32))).toUInt32.toUInt16.toUInt32.toInt32)), (.int p3), (.ref a1)])) (fun t k => ?_) ?_
    · show Steps p.tables e below (T3.setTop (mkF m 72 #[.val (.ref a1), .val (.ref a2), .val (.int p3), .val (.long qw), .second, .val (.int p5), .val (.int p6), .val (.int ((((qw.toUInt64 >>> (((16 : Int32) * (p3 &&& (3 : Int32))) &&& 0x3f).toInt64.toUInt64).toInt64).toInt32) &&& (65535 : Int32))), .val (.int ((if (((p6.toUInt32 >>> (p3 &&& 31).toUInt32).toInt32) &&& (1 : Int32)) = (0 : Int32) then (((qw.toUInt64 >>> (((16 : Int32) * (p3 &&& (3 : Int32))) &&& 0x3f).toInt64.toUInt64).toInt64).toInt32 &&& (65535 : Int32)) else ((((qw.toUInt64 >>> (((16 : Int32) * (p3 &&& (3 : Int32))) &&& 0x3f).toInt64.toUInt64).toInt64).toInt32 &&& (65535 : Int32)) &&& (127 : Int32))).toUInt32.toUInt16.toUInt32.toInt32)), .unset] [(.int (own_nib ((if (((p6.toUInt32 >>> (p3 &&& 31).toUInt32).toInt32) &&& (1 : Int32)) = (0 : Int32) then (((qw.toUInt64 >>> (((16 : Int32) * (p3 &&& (3 : Int32))) &&& 0x3f).toInt64.toUInt64).toInt64).toInt32 &&& (65535 : Int32)) else ((((qw.toUInt64 >>> (((16 : Int32) * (p3 &&& (3 : Int32))) &&& 0x3f).toInt64.toUInt64).toInt64).toInt32 &&& (65535 : Int32)) &&& (127 : Int32))).toUInt32.toUInt16.toUInt32.toInt32)))])) _
      refine XS.istore X3.here hx rfl (hb hby d1_72) rfl (l' := #[.val (.ref a1), .val (.ref a2), .val (.int p3), .val (.long qw), .second, .val (.int p5), .val (.int p6), .val (.int ((((qw.toUInt64 >>> (((16 : Int32) * (p3 &&& (3 : Int32))) &&& 0x3f).toInt64.toUInt64).toInt64).toInt32) &&& (65535 : Int32))), .val (.int ((if (((p6.toUInt32 >>> (p3 &&& 31).toUInt32).toInt32) &&& (1 : Int32)) = (0 : Int32) then (((qw.toUInt64 >>> (((16 : Int32) * (p3 &&& (3 : Int32))) &&& 0x3f).toInt64.toUInt64).toInt64).toInt32 &&& (65535 : Int32)) else ((((qw.toUInt64 >>> (((16 : Int32) * (p3 &&& (3 : Int32))) &&& 0x3f).toInt64.toUInt64).toInt64).toInt32 &&& (65535 : Int32)) &&& (127 : Int32))).toUInt32.toUInt16.toUInt32.toInt32)), .val (.int (own_nib ((if (((p6.toUInt32 >>> (p3 &&& 31).toUInt32).toInt32) &&& (1 : Int32)) = (0 : Int32) then (((qw.toUInt64 >>> (((16 : Int32) * (p3 &&& (3 : Int32))) &&& 0x3f).toInt64.toUInt64).toInt64).toInt32 &&& (65535 : Int32)) else ((((qw.toUInt64 >>> (((16 : Int32) * (p3 &&& (3 : Int32))) &&& 0x3f).toInt64.toUInt64).toInt64).toInt32 &&& (65535 : Int32)) &&& (127 : Int32))).toUInt32.toUInt16.toUInt32.toInt32)))]) rfl ?_
      refine XS.aloadN X3.here hx rfl (hb hby d1_74) rfl rfl ?_
      refine XS.iloadN X3.here hx rfl (hb hby d1_75) rfl ?_
      refine XS.iload X3.here hx rfl (hb hby d1_76) rfl ?_
      exact k
    obtain ⟨cl4, Ar4, q4, S4, NN4, Hs4, G4⟩ := id (V_c)
    have hin4 : ¬ (p3 < 0 ∨ cl4.slots.size ≤ (p3).toNatClampNeg) := inb_of S4 ⟨hp1, hp2⟩
    obtain ⟨T4, h4, X4, e4, W4, st4⟩ := stC X3 hx hZ e3 Ar4 (j := p3) hin4 (g := (mkF m 78 #[.val (.ref a1), .val (.ref a2), .val (.int p3), .val (.long qw), .second, .val (.int p5), .val (.int p6), .val (.int ((((qw.toUInt64 >>> (((16 : Int32) * (p3 &&& (3 : Int32))) &&& 0x3f).toInt64.toUInt64).toInt64).toInt32) &&& (65535 : Int32))), .val (.int ((if (((p6.toUInt32 >>> (p3 &&& 31).toUInt32).toInt32) &&& (1 : Int32)) = (0 : Int32) then (((qw.toUInt64 >>> (((16 : Int32) * (p3 &&& (3 : Int32))) &&& 0x3f).toInt64.toUInt64).toInt64).toInt32 &&& (65535 : Int32)) else ((((qw.toUInt64 >>> (((16 : Int32) * (p3 &&& (3 : Int32))) &&& 0x3f).toInt64.toUInt64).toInt64).toInt32 &&& (65535 : Int32)) &&& (127 : Int32))).toUInt32.toUInt16.toUInt32.toInt32)), .val (.int (own_nib ((if (((p6.toUInt32 >>> (p3 &&& 31).toUInt32).toInt32) &&& (1 : Int32)) = (0 : Int32) then (((qw.toUInt64 >>> (((16 : Int32) * (p3 &&& (3 : Int32))) &&& 0x3f).toInt64.toUInt64).toInt64).toInt32 &&& (65535 : Int32)) else ((((qw.toUInt64 >>> (((16 : Int32) * (p3 &&& (3 : Int32))) &&& 0x3f).toInt64.toUInt64).toInt64).toInt32 &&& (65535 : Int32)) &&& (127 : Int32))).toUInt32.toUInt16.toUInt32.toInt32)))] [(.int ((if (((p6.toUInt32 >>> (p3 &&& 31).toUInt32).toInt32) &&& (1 : Int32)) = (0 : Int32) then (((qw.toUInt64 >>> (((16 : Int32) * (p3 &&& (3 : Int32))) &&& 0x3f).toInt64.toUInt64).toInt64).toInt32 &&& (65535 : Int32)) else ((((qw.toUInt64 >>> (((16 : Int32) * (p3 &&& (3 : Int32))) &&& 0x3f).toInt64.toUInt64).toInt64).toInt32 &&& (65535 : Int32)) &&& (127 : Int32))).toUInt32.toUInt16.toUInt32.toInt32)), (.int p3), (.ref a1)])) rfl rfl (hb hby d1_78)
    have V4 := Arv.set Ar4 q4 S4 NN4 Hs4 G4 (fits_nar_char _) W4 p3.toNatClampNeg rfl (by rw [lc]; exact own_k8 hp1 hp2)
    have N4 := Fr.snoc X4 N3 g_a1
    have K4 : Keep h0 h4 [a1, a2] := KK0.wr W4 (Or.inl (by simp))
    refine own_step st4 ?_
    show own_Go p e below s _ _ _ (T4.setTop (mkF m 79 #[.val (.ref a1), .val (.ref a2), .val (.int p3), .val (.long qw), .second, .val (.int p5), .val (.int p6), .val (.int ((((qw.toUInt64 >>> (((16 : Int32) * (p3 &&& (3 : Int32))) &&& 0x3f).toInt64.toUInt64).toInt64).toInt32) &&& (65535 : Int32))), .val (.int ((if (((p6.toUInt32 >>> (p3 &&& 31).toUInt32).toInt32) &&& (1 : Int32)) = (0 : Int32) then (((qw.toUInt64 >>> (((16 : Int32) * (p3 &&& (3 : Int32))) &&& 0x3f).toInt64.toUInt64).toInt64).toInt32 &&& (65535 : Int32)) else ((((qw.toUInt64 >>> (((16 : Int32) * (p3 &&& (3 : Int32))) &&& 0x3f).toInt64.toUInt64).toInt64).toInt32 &&& (65535 : Int32)) &&& (127 : Int32))).toUInt32.toUInt16.toUInt32.toInt32)), .val (.int (own_nib ((if (((p6.toUInt32 >>> (p3 &&& 31).toUInt32).toInt32) &&& (1 : Int32)) = (0 : Int32) then (((qw.toUInt64 >>> (((16 : Int32) * (p3 &&& (3 : Int32))) &&& 0x3f).toInt64.toUInt64).toInt64).toInt32 &&& (65535 : Int32)) else ((((qw.toUInt64 >>> (((16 : Int32) * (p3 &&& (3 : Int32))) &&& 0x3f).toInt64.toUInt64).toInt64).toInt32 &&& (65535 : Int32)) &&& (127 : Int32))).toUInt32.toUInt16.toUInt32.toInt32)))] []))
    refine own_step (B := T4.setTop (mkF m 83 #[.val (.ref a1), .val (.ref a2), .val (.int p3), .val (.long qw), .second, .val (.int p5), .val (.int p6), .val (.int ((((qw.toUInt64 >>> (((16 : Int32) * (p3 &&& (3 : Int32))) &&& 0x3f).toInt64.toUInt64).toInt64).toInt32) &&& (65535 : Int32))), .val (.int ((if (((p6.toUInt32 >>> (p3 &&& 31).toUInt32).toInt32) &&& (1 : Int32)) = (0 : Int32) then (((qw.toUInt64 >>> (((16 : Int32) * (p3 &&& (3 : Int32))) &&& 0x3f).toInt64.toUInt64).toInt64).toInt32 &&& (65535 : Int32)) else ((((qw.toUInt64 >>> (((16 : Int32) * (p3 &&& (3 : Int32))) &&& 0x3f).toInt64.toUInt64).toInt64).toInt32 &&& (65535 : Int32)) &&& (127 : Int32))).toUInt32.toUInt16.toUInt32.toInt32)), .val (.int (own_nib ((if (((p6.toUInt32 >>> (p3 &&& 31).toUInt32).toInt32) &&& (1 : Int32)) = (0 : Int32) then (((qw.toUInt64 >>> (((16 : Int32) * (p3 &&& (3 : Int32))) &&& 0x3f).toInt64.toUInt64).toInt64).toInt32 &&& (65535 : Int32)) else ((((qw.toUInt64 >>> (((16 : Int32) * (p3 &&& (3 : Int32))) &&& 0x3f).toInt64.toUInt64).toInt64).toInt32 &&& (65535 : Int32)) &&& (127 : Int32))).toUInt32.toUInt16.toUInt32.toInt32)))] [(.int (own_nib ((if (((p6.toUInt32 >>> (p3 &&& 31).toUInt32).toInt32) &&& (1 : Int32)) = (0 : Int32) then (((qw.toUInt64 >>> (((16 : Int32) * (p3 &&& (3 : Int32))) &&& 0x3f).toInt64.toUInt64).toInt64).toInt32 &&& (65535 : Int32)) else ((((qw.toUInt64 >>> (((16 : Int32) * (p3 &&& (3 : Int32))) &&& 0x3f).toInt64.toUInt64).toInt64).toInt32 &&& (65535 : Int32)) &&& (127 : Int32))).toUInt32.toUInt16.toUInt32.toInt32))), (.int p3), (.ref a2)])) (fun t k => ?_) ?_
    · show Steps p.tables e below (T4.setTop (mkF m 79 #[.val (.ref a1), .val (.ref a2), .val (.int p3), .val (.long qw), .second, .val (.int p5), .val (.int p6), .val (.int ((((qw.toUInt64 >>> (((16 : Int32) * (p3 &&& (3 : Int32))) &&& 0x3f).toInt64.toUInt64).toInt64).toInt32) &&& (65535 : Int32))), .val (.int ((if (((p6.toUInt32 >>> (p3 &&& 31).toUInt32).toInt32) &&& (1 : Int32)) = (0 : Int32) then (((qw.toUInt64 >>> (((16 : Int32) * (p3 &&& (3 : Int32))) &&& 0x3f).toInt64.toUInt64).toInt64).toInt32 &&& (65535 : Int32)) else ((((qw.toUInt64 >>> (((16 : Int32) * (p3 &&& (3 : Int32))) &&& 0x3f).toInt64.toUInt64).toInt64).toInt32 &&& (65535 : Int32)) &&& (127 : Int32))).toUInt32.toUInt16.toUInt32.toInt32)), .val (.int (own_nib ((if (((p6.toUInt32 >>> (p3 &&& 31).toUInt32).toInt32) &&& (1 : Int32)) = (0 : Int32) then (((qw.toUInt64 >>> (((16 : Int32) * (p3 &&& (3 : Int32))) &&& 0x3f).toInt64.toUInt64).toInt64).toInt32 &&& (65535 : Int32)) else ((((qw.toUInt64 >>> (((16 : Int32) * (p3 &&& (3 : Int32))) &&& 0x3f).toInt64.toUInt64).toInt64).toInt32 &&& (65535 : Int32)) &&& (127 : Int32))).toUInt32.toUInt16.toUInt32.toInt32)))] [])) _
      refine XS.aloadN X4.here hx rfl (hb hby d1_79) rfl rfl ?_
      refine XS.iloadN X4.here hx rfl (hb hby d1_80) rfl ?_
      refine XS.iload X4.here hx rfl (hb hby d1_81) rfl ?_
      exact k
    obtain ⟨cl5, Ar5, q5, S5, NN5, Hs5, G5⟩ := id ((V_n.other W4 (Ne.symm nee)))
    have hin5 : ¬ (p3 < 0 ∨ cl5.slots.size ≤ (p3).toNatClampNeg) := inb_of S5 ⟨hp1, hp2⟩
    obtain ⟨T5, h5, X5, e5, W5, st5⟩ := stI X4 hx hZ e4 Ar5 (j := p3) hin5 (g := (mkF m 83 #[.val (.ref a1), .val (.ref a2), .val (.int p3), .val (.long qw), .second, .val (.int p5), .val (.int p6), .val (.int ((((qw.toUInt64 >>> (((16 : Int32) * (p3 &&& (3 : Int32))) &&& 0x3f).toInt64.toUInt64).toInt64).toInt32) &&& (65535 : Int32))), .val (.int ((if (((p6.toUInt32 >>> (p3 &&& 31).toUInt32).toInt32) &&& (1 : Int32)) = (0 : Int32) then (((qw.toUInt64 >>> (((16 : Int32) * (p3 &&& (3 : Int32))) &&& 0x3f).toInt64.toUInt64).toInt64).toInt32 &&& (65535 : Int32)) else ((((qw.toUInt64 >>> (((16 : Int32) * (p3 &&& (3 : Int32))) &&& 0x3f).toInt64.toUInt64).toInt64).toInt32 &&& (65535 : Int32)) &&& (127 : Int32))).toUInt32.toUInt16.toUInt32.toInt32)), .val (.int (own_nib ((if (((p6.toUInt32 >>> (p3 &&& 31).toUInt32).toInt32) &&& (1 : Int32)) = (0 : Int32) then (((qw.toUInt64 >>> (((16 : Int32) * (p3 &&& (3 : Int32))) &&& 0x3f).toInt64.toUInt64).toInt64).toInt32 &&& (65535 : Int32)) else ((((qw.toUInt64 >>> (((16 : Int32) * (p3 &&& (3 : Int32))) &&& 0x3f).toInt64.toUInt64).toInt64).toInt32 &&& (65535 : Int32)) &&& (127 : Int32))).toUInt32.toUInt16.toUInt32.toInt32)))] [(.int (own_nib ((if (((p6.toUInt32 >>> (p3 &&& 31).toUInt32).toInt32) &&& (1 : Int32)) = (0 : Int32) then (((qw.toUInt64 >>> (((16 : Int32) * (p3 &&& (3 : Int32))) &&& 0x3f).toInt64.toUInt64).toInt64).toInt32 &&& (65535 : Int32)) else ((((qw.toUInt64 >>> (((16 : Int32) * (p3 &&& (3 : Int32))) &&& 0x3f).toInt64.toUInt64).toInt64).toInt32 &&& (65535 : Int32)) &&& (127 : Int32))).toUInt32.toUInt16.toUInt32.toInt32))), (.int p3), (.ref a2)])) rfl rfl (hb hby d1_83)
    have V5 := Arv.set Ar5 q5 S5 NN5 Hs5 G5 rfl W5 p3.toNatClampNeg rfl (by rw [lnn]; exact own_k8 hp1 hp2)
    have N5 := Fr.snoc X5 N4 g_a2
    have K5 : Keep h0 h5 [a1, a2] := K4.wr W5 (Or.inl (by simp))
    refine own_step st5 ?_
    show own_Go p e below s _ _ _ (T5.setTop (mkF m 84 #[.val (.ref a1), .val (.ref a2), .val (.int p3), .val (.long qw), .second, .val (.int p5), .val (.int p6), .val (.int ((((qw.toUInt64 >>> (((16 : Int32) * (p3 &&& (3 : Int32))) &&& 0x3f).toInt64.toUInt64).toInt64).toInt32) &&& (65535 : Int32))), .val (.int ((if (((p6.toUInt32 >>> (p3 &&& 31).toUInt32).toInt32) &&& (1 : Int32)) = (0 : Int32) then (((qw.toUInt64 >>> (((16 : Int32) * (p3 &&& (3 : Int32))) &&& 0x3f).toInt64.toUInt64).toInt64).toInt32 &&& (65535 : Int32)) else ((((qw.toUInt64 >>> (((16 : Int32) * (p3 &&& (3 : Int32))) &&& 0x3f).toInt64.toUInt64).toInt64).toInt32 &&& (65535 : Int32)) &&& (127 : Int32))).toUInt32.toUInt16.toUInt32.toInt32)), .val (.int (own_nib ((if (((p6.toUInt32 >>> (p3 &&& 31).toUInt32).toInt32) &&& (1 : Int32)) = (0 : Int32) then (((qw.toUInt64 >>> (((16 : Int32) * (p3 &&& (3 : Int32))) &&& 0x3f).toInt64.toUInt64).toInt64).toInt32 &&& (65535 : Int32)) else ((((qw.toUInt64 >>> (((16 : Int32) * (p3 &&& (3 : Int32))) &&& 0x3f).toInt64.toUInt64).toInt64).toInt32 &&& (65535 : Int32)) &&& (127 : Int32))).toUInt32.toUInt16.toUInt32.toInt32)))] []))
    exact own_retV X5 hx Bd.notSynchronized Bd.returns (hb hby d1_84) ⟨rfl, N5, by rw [e5]; exact K5, ⟨(nar .char ((if (((p6.toUInt32 >>> (p3 &&& 31).toUInt32).toInt32) &&& (1 : Int32)) = (0 : Int32) then (((qw.toUInt64 >>> (((16 : Int32) * (p3 &&& (3 : Int32))) &&& 0x3f).toInt64.toUInt64).toInt64).toInt32 &&& (65535 : Int32)) else ((((qw.toUInt64 >>> (((16 : Int32) * (p3 &&& (3 : Int32))) &&& 0x3f).toInt64.toUInt64).toInt64).toInt32 &&& (65535 : Int32)) &&& (127 : Int32))).toUInt32.toUInt16.toUInt32.toInt32)), own_idem _, by rw [e5]; exact (V4.other W5 nee), by rw [e5]; exact (by rw [own_cc]; exact V5)⟩⟩ (by decide) (by decide)
  · refine own_step (B := s₁.setTop (mkF m 30 #[.val (.ref a1), .val (.ref a2), .val (.int p3), .val (.long qw), .second, .val (.int p5), .val (.int p6), .val (.int ((((qw.toUInt64 >>> (((16 : Int32) * (p3 &&& (3 : Int32))) &&& 0x3f).toInt64.toUInt64).toInt64).toInt32) &&& (65535 : Int32))), .unset, .val (.int (((((qw.toUInt64 >>> (((16 : Int32) * (p3 &&& (3 : Int32))) &&& 0x3f).toInt64.toUInt64).toInt64).toInt32) &&& (65535 : Int32)) &&& (15 : Int32)))] [])) (fun t k => ?_) ?_
    · show Steps p.tables e below (s₁.setTop (mkF m 20 #[.val (.ref a1), .val (.ref a2), .val (.int p3), .val (.long qw), .second, .val (.int p5), .val (.int p6), .val (.int ((((qw.toUInt64 >>> (((16 : Int32) * (p3 &&& (3 : Int32))) &&& 0x3f).toInt64.toUInt64).toInt64).toInt32) &&& (65535 : Int32))), .unset, .unset] [(.int (((p5.toUInt32 >>> (p3 &&& 31).toUInt32).toInt32) &&& (1 : Int32)))])) _
      refine XS.ifNo X0.here hx rfl (hb hby d1_20) rfl ((if0 _ _).trans (feq hc20).1) ?_
      refine XS.iload X0.here hx rfl (hb hby d1_23) rfl ?_
      refine XS.bipush X0.here hx rfl (hb hby d1_25) ?_
      refine XS.iand X0.here hx rfl (hb hby d1_27) rfl ?_
      refine XS.istore X0.here hx rfl (hb hby d1_28) rfl (l' := #[.val (.ref a1), .val (.ref a2), .val (.int p3), .val (.long qw), .second, .val (.int p5), .val (.int p6), .val (.int ((((qw.toUInt64 >>> (((16 : Int32) * (p3 &&& (3 : Int32))) &&& 0x3f).toInt64.toUInt64).toInt64).toInt32) &&& (65535 : Int32))), .unset, .val (.int (((((qw.toUInt64 >>> (((16 : Int32) * (p3 &&& (3 : Int32))) &&& 0x3f).toInt64.toUInt64).toInt64).toInt32) &&& (65535 : Int32)) &&& (15 : Int32)))]) rfl ?_
      exact k
    obtain ⟨j, hj, ej⟩ := own_m15 (((qw.toUInt64 >>> (((16 : Int32) * (p3 &&& (3 : Int32))) &&& 0x3f).toInt64.toUInt64).toInt64).toInt32 &&& (65535 : Int32))
    rw [ej]
    show own_Go p e below s _ _ _ (s₁.setTop (mkF m 30 #[.val (.ref a1), .val (.ref a2), .val (.int p3), .val (.long qw), .second, .val (.int p5), .val (.int p6), .val (.int ((((qw.toUInt64 >>> (((16 : Int32) * (p3 &&& (3 : Int32))) &&& 0x3f).toInt64.toUInt64).toInt64).toInt32) &&& (65535 : Int32))), .unset, .val (.int (Int32.ofNat j))] []))
    have st6 := ldcAgain (s := s) (vm0 := s.vm) X0 hx hZ hown (hw _ (List.mem_of_getElem? (i := 16) rfl)) Lt (g := (mkF m 30 #[.val (.ref a1), .val (.ref a2), .val (.int p3), .val (.long qw), .second, .val (.int p5), .val (.int p6), .val (.int ((((qw.toUInt64 >>> (((16 : Int32) * (p3 &&& (3 : Int32))) &&& 0x3f).toInt64.toUInt64).toInt64).toInt32) &&& (65535 : Int32))), .unset, .val (.int (Int32.ofNat j))] [])) rfl (hb hby d1_30)
    refine own_step st6 ?_
    show own_Go p e below s _ _ _ (s₁.setTop (mkF m 32 #[.val (.ref a1), .val (.ref a2), .val (.int p3), .val (.long qw), .second, .val (.int p5), .val (.int p6), .val (.int ((((qw.toUInt64 >>> (((16 : Int32) * (p3 &&& (3 : Int32))) &&& 0x3f).toInt64.toUInt64).toInt64).toInt32) &&& (65535 : Int32))), .unset, .val (.int (Int32.ofNat j))] [(.ref sa)]))
    refine own_step (B := s₁.setTop (mkF m 34 #[.val (.ref a1), .val (.ref a2), .val (.int p3), .val (.long qw), .second, .val (.int p5), .val (.int p6), .val (.int ((((qw.toUInt64 >>> (((16 : Int32) * (p3 &&& (3 : Int32))) &&& 0x3f).toInt64.toUInt64).toInt64).toInt32) &&& (65535 : Int32))), .unset, .val (.int (Int32.ofNat j))] [(.int (Int32.ofNat j)), (.ref sa)])) (fun t k => ?_) ?_
    · show Steps p.tables e below (s₁.setTop (mkF m 32 #[.val (.ref a1), .val (.ref a2), .val (.int p3), .val (.long qw), .second, .val (.int p5), .val (.int p6), .val (.int ((((qw.toUInt64 >>> (((16 : Int32) * (p3 &&& (3 : Int32))) &&& 0x3f).toInt64.toUInt64).toInt64).toInt32) &&& (65535 : Int32))), .unset, .val (.int (Int32.ofNat j))] [(.ref sa)])) _
      refine XS.iload X0.here hx rfl (hb hby d1_32) rfl ?_
      exact k
    obtain ⟨cs7, As7, -, Ss7, Ns7, Hc7, -⟩ := id (V_b)
    have hi7 : ¬ (Int32.ofNat j < 0 ∨ cs7.slots.size ≤ (Int32.ofNat j).toNatClampNeg) := inb_of Ss7 ⟨own_j0 hj, own_j16 hj⟩
    have ht7 : cs7.slots[(Int32.ofNat j).toNatClampNeg]? = some (.int (own_hx (Int32.ofNat j))) := Has.at Hc7 hi7 (own_hat hj)
    obtain ⟨cq8, kq8, q8a, q8b, q8c⟩ := isOf hZ e0 P_0
    obtain ⟨_, _, ⟨T8, L8, k8, n8⟩, -, X8, ⟨Lc8, hQ8, l8, y8, z8⟩, st8⟩ := X0.virtualBack hx (y := (⟨"java/lang/String", "charAt", "(I)C"⟩ : MethodName)) (z := (⟨"java/lang/String", "charAt", "(I)C"⟩ : MethodName)) hown (mvT hZ (hw _ (List.mem_of_getElem? (i := 24) rfl))) (mvT hZ (hw _ (List.mem_of_getElem? (i := 25) rfl))) (notFace_of_selects (args := #[]) (mvT hZ (hw _ (List.mem_of_getElem? (i := 27) rfl)))) (mvT hZ (hw _ (List.mem_of_getElem? (i := 27) rfl))) (mvT hZ (hw _ (List.mem_of_getElem? (i := 26) rfl))) (by decide) (backOf (W := 0) (rm4 l Z a0 hw [] sa (Int32.ofNat j) cs vf b cs7 (16 : Int32) (own_hx (Int32.ofNat j)) h0 n0 Z0 P_0 P_1 P_2 As7 (len_of Ss7 Ns7) (own_j0 hj) (own_j16 hj) hi7 ht7 S_C hcs S_F hvf) hZ (hw _ (List.mem_of_getElem? (i := 28) rfl)) (hw _ (List.mem_of_getElem? (i := 17) rfl)) (by decide) (by decide) ) q8a q8c (g := (mkF m 34 #[.val (.ref a1), .val (.ref a2), .val (.int p3), .val (.long qw), .second, .val (.int p5), .val (.int p6), .val (.int ((((qw.toUInt64 >>> (((16 : Int32) * (p3 &&& (3 : Int32))) &&& 0x3f).toInt64.toUInt64).toInt64).toInt32) &&& (65535 : Int32))), .unset, .val (.int (Int32.ofNat j))] [(.int (Int32.ofNat j)), (.ref sa)])) rfl (by rw [hml]; rfl) (Steps.refl _) (argsL := [(.int (Int32.ofNat j))]) (rest := []) (lenOf pd_8 rfl) rfl (by show 2 * 0 + _ ≤ _; exact Nat.le_of_eq rfl) (hb hby d1_34) (fun _ _ => ⟨rfl, e0, (by decide : 0 + 0 ≤ _), (by decide : 0 + 0 ≤ _)⟩)
    dsimp only [Pt.U, Pt.locs, Pt.cells, Pt.slots] at X8 l8 y8 z8 st8 hQ8
    subst l8 y8 z8
    obtain ⟨rfl, N8q, e8⟩ := hQ8
    have N8 := Fr.app N0 N8q
    refine own_via st8 ?_
    show own_Go p e below s _ _ _ (T8.setTop (mkF m 37 #[.val (.ref a1), .val (.ref a2), .val (.int p3), .val (.long qw), .second, .val (.int p5), .val (.int p6), .val (.int ((((qw.toUInt64 >>> (((16 : Int32) * (p3 &&& (3 : Int32))) &&& 0x3f).toInt64.toUInt64).toInt64).toInt32) &&& (65535 : Int32))), .unset, .val (.int (Int32.ofNat j))] [(.int (own_ch (own_hx (Int32.ofNat j))))]))
    refine own_step (B := T8.setTop (mkF m 78 #[.val (.ref a1), .val (.ref a2), .val (.int p3), .val (.long qw), .second, .val (.int p5), .val (.int p6), .val (.int ((((qw.toUInt64 >>> (((16 : Int32) * (p3 &&& (3 : Int32))) &&& 0x3f).toInt64.toUInt64).toInt64).toInt32) &&& (65535 : Int32))), .val (.int (own_ch (own_hx (Int32.ofNat j)))), .val (.int (Int32.ofNat j))] [(.int (own_ch (own_hx (Int32.ofNat j)))), (.int p3), (.ref a1)])) (fun t k => ?_) ?_
    · show Steps p.tables e below (T8.setTop (mkF m 37 #[.val (.ref a1), .val (.ref a2), .val (.int p3), .val (.long qw), .second, .val (.int p5), .val (.int p6), .val (.int ((((qw.toUInt64 >>> (((16 : Int32) * (p3 &&& (3 : Int32))) &&& 0x3f).toInt64.toUInt64).toInt64).toInt32) &&& (65535 : Int32))), .unset, .val (.int (Int32.ofNat j))] [(.int (own_ch (own_hx (Int32.ofNat j))))])) _
      refine XS.istore X8.here hx rfl (hb hby d1_37) rfl (l' := #[.val (.ref a1), .val (.ref a2), .val (.int p3), .val (.long qw), .second, .val (.int p5), .val (.int p6), .val (.int ((((qw.toUInt64 >>> (((16 : Int32) * (p3 &&& (3 : Int32))) &&& 0x3f).toInt64.toUInt64).toInt64).toInt32) &&& (65535 : Int32))), .val (.int (own_ch (own_hx (Int32.ofNat j)))), .val (.int (Int32.ofNat j))]) rfl ?_
      refine XS.goto X8.here hx rfl (pc0 := 39) (pc' := 74) rfl (hb hby d1_39) (by decide) (by decide) ?_
      refine XS.aloadN X8.here hx rfl (hb hby d1_74) rfl rfl ?_
      refine XS.iloadN X8.here hx rfl (hb hby d1_75) rfl ?_
      refine XS.iload X8.here hx rfl (hb hby d1_76) rfl ?_
      exact k
    obtain ⟨cl9, Ar9, q9, S9, NN9, Hs9, G9⟩ := id (V_c)
    have hin9 : ¬ (p3 < 0 ∨ cl9.slots.size ≤ (p3).toNatClampNeg) := inb_of S9 ⟨hp1, hp2⟩
    obtain ⟨T9, h9, X9, e9, W9, st9⟩ := stC X8 hx hZ e8 Ar9 (j := p3) hin9 (g := (mkF m 78 #[.val (.ref a1), .val (.ref a2), .val (.int p3), .val (.long qw), .second, .val (.int p5), .val (.int p6), .val (.int ((((qw.toUInt64 >>> (((16 : Int32) * (p3 &&& (3 : Int32))) &&& 0x3f).toInt64.toUInt64).toInt64).toInt32) &&& (65535 : Int32))), .val (.int (own_ch (own_hx (Int32.ofNat j)))), .val (.int (Int32.ofNat j))] [(.int (own_ch (own_hx (Int32.ofNat j)))), (.int p3), (.ref a1)])) rfl rfl (hb hby d1_78)
    have V9 := Arv.set Ar9 q9 S9 NN9 Hs9 G9 (fits_nar_char _) W9 p3.toNatClampNeg rfl (by rw [lc]; exact own_k8 hp1 hp2)
    have N9 := Fr.snoc X9 N8 g_a1
    have K9 : Keep h0 h9 [a1, a2] := KK0.wr W9 (Or.inl (by simp))
    refine own_step st9 ?_
    show own_Go p e below s _ _ _ (T9.setTop (mkF m 79 #[.val (.ref a1), .val (.ref a2), .val (.int p3), .val (.long qw), .second, .val (.int p5), .val (.int p6), .val (.int ((((qw.toUInt64 >>> (((16 : Int32) * (p3 &&& (3 : Int32))) &&& 0x3f).toInt64.toUInt64).toInt64).toInt32) &&& (65535 : Int32))), .val (.int (own_ch (own_hx (Int32.ofNat j)))), .val (.int (Int32.ofNat j))] []))
    refine own_step (B := T9.setTop (mkF m 83 #[.val (.ref a1), .val (.ref a2), .val (.int p3), .val (.long qw), .second, .val (.int p5), .val (.int p6), .val (.int ((((qw.toUInt64 >>> (((16 : Int32) * (p3 &&& (3 : Int32))) &&& 0x3f).toInt64.toUInt64).toInt64).toInt32) &&& (65535 : Int32))), .val (.int (own_ch (own_hx (Int32.ofNat j)))), .val (.int (Int32.ofNat j))] [(.int (Int32.ofNat j)), (.int p3), (.ref a2)])) (fun t k => ?_) ?_
    · show Steps p.tables e below (T9.setTop (mkF m 79 #[.val (.ref a1), .val (.ref a2), .val (.int p3), .val (.long qw), .second, .val (.int p5), .val (.int p6), .val (.int ((((qw.toUInt64 >>> (((16 : Int32) * (p3 &&& (3 : Int32))) &&& 0x3f).toInt64.toUInt64).toInt64).toInt32) &&& (65535 : Int32))), .val (.int (own_ch (own_hx (Int32.ofNat j)))), .val (.int (Int32.ofNat j))] [])) _
      refine XS.aloadN X9.here hx rfl (hb hby d1_79) rfl rfl ?_
      refine XS.iloadN X9.here hx rfl (hb hby d1_80) rfl ?_
      refine XS.iload X9.here hx rfl (hb hby d1_81) rfl ?_
      exact k
    obtain ⟨cl10, Ar10, q10, S10, NN10, Hs10, G10⟩ := id ((V_n.other W9 (Ne.symm nee)))
    have hin10 : ¬ (p3 < 0 ∨ cl10.slots.size ≤ (p3).toNatClampNeg) := inb_of S10 ⟨hp1, hp2⟩
    obtain ⟨T10, h10, X10, e10, W10, st10⟩ := stI X9 hx hZ e9 Ar10 (j := p3) hin10 (g := (mkF m 83 #[.val (.ref a1), .val (.ref a2), .val (.int p3), .val (.long qw), .second, .val (.int p5), .val (.int p6), .val (.int ((((qw.toUInt64 >>> (((16 : Int32) * (p3 &&& (3 : Int32))) &&& 0x3f).toInt64.toUInt64).toInt64).toInt32) &&& (65535 : Int32))), .val (.int (own_ch (own_hx (Int32.ofNat j)))), .val (.int (Int32.ofNat j))] [(.int (Int32.ofNat j)), (.int p3), (.ref a2)])) rfl rfl (hb hby d1_83)
    have V10 := Arv.set Ar10 q10 S10 NN10 Hs10 G10 rfl W10 p3.toNatClampNeg rfl (by rw [lnn]; exact own_k8 hp1 hp2)
    have N10 := Fr.snoc X10 N9 g_a2
    have K10 : Keep h0 h10 [a1, a2] := K9.wr W10 (Or.inl (by simp))
    refine own_step st10 ?_
    show own_Go p e below s _ _ _ (T10.setTop (mkF m 84 #[.val (.ref a1), .val (.ref a2), .val (.int p3), .val (.long qw), .second, .val (.int p5), .val (.int p6), .val (.int ((((qw.toUInt64 >>> (((16 : Int32) * (p3 &&& (3 : Int32))) &&& 0x3f).toInt64.toUInt64).toInt64).toInt32) &&& (65535 : Int32))), .val (.int (own_ch (own_hx (Int32.ofNat j)))), .val (.int (Int32.ofNat j))] []))
    exact own_retV X10 hx Bd.notSynchronized Bd.returns (hb hby d1_84) ⟨rfl, N10, by rw [e10]; exact K10, ⟨(nar .char (own_ch (own_hx (Int32.ofNat j)))), own_idem _, by rw [e10]; exact (V9.other W10 nee), by rw [e10]; exact (by rw [own_hexn hj]; exact V10)⟩⟩ (by decide) (by decide)
theorem ef_1c (m : MethodId) (a1 : Addr) (a2 : Addr) (p3 : Int32) (qw : Int64) (p5 : Int32) (p6 : Int32) : entryFrame m #[(.ref a1), (.ref a2), (.int p3), (.long qw), (.int p5), (.int p6)] 10 = mkF m 0 #[.val (.ref a1), .val (.ref a2), .val (.int p3), .val (.long qw), .second, .val (.int p5), .val (.int p6), .unset, .unset, .unset] [] := by first | (simp [entryFrame, mkF, argsToLocals, Value.category]; done) | rfl
def Q1c (Z : State) (a1 : Addr) (a2 : Addr) (p3 : Int32) (qw : Int64) (p5 : Int32) (p6 : Int32) (kc : ClassId) (kn : ClassId) (vc : List Value) (vn : List Value) (cs : Int32) (vf : Value) (h0 : Heap) (n0 : Nat) (v : Option Value) (h : Heap) (vm : Vm) (L : List Loc) : Prop := v = none ∧ Fr n0 L ∧ Keep h0 h [a1, a2] ∧ (∃ x : Int32, nar .char x = x ∧ Arv Z h a1 kc .char (8 : Int32) (vc.set p3.toNatClampNeg (.int x)) (.int (0 : Int32)) ∧ Arv Z h a2 kn .int (8 : Int32) (vn.set p3.toNatClampNeg (.int (own_nib x))) (.int (0 : Int32))) ∧ (∃ (sa b : Addr) (k : ClassId), Exa Z h sa "java/lang/String" ∧ Fld Z h sa "java/lang/String" "coder" "B" (.int (0 : Int32)) ∧ Fld Z h sa "java/lang/String" "value" "[B" (.ref b) ∧ Arv Z h b k .byte (16 : Int32) [(.int (48 : Int32)), (.int (49 : Int32)), (.int (50 : Int32)), (.int (51 : Int32)), (.int (52 : Int32)), (.int (53 : Int32)), (.int (54 : Int32)), (.int (55 : Int32)), (.int (56 : Int32)), (.int (57 : Int32)), (.int (97 : Int32)), (.int (98 : Int32)), (.int (99 : Int32)), (.int (100 : Int32)), (.int (101 : Int32)), (.int (102 : Int32))] (.int 0) ∧ Lit (Z.setVm vm) "tidemark/RecordFormParseChecksumPinLaw" 22 sa)
set_option maxRecDepth 65536 in
set_option maxHeartbeats 40000000 in
theorem rm1c (l : Launch) (Z : State) (a0 : Array Value) (hw : ∀ d ∈ tables_1, d.before a0 Z = true) (ws : List Jvm.Cond) (a1 : Addr) (a2 : Addr) (p3 : Int32) (qw : Int64) (p5 : Int32) (p6 : Int32) (kc : ClassId) (kn : ClassId) (vc : List Value) (vn : List Value) (cs : Int32) (vf : Value) (h0 : Heap) (n0 : Nat) (Z0 : n0 ≤ h0.size) (V_c : Arv Z h0 a1 kc .char (8 : Int32) vc (.int (0 : Int32))) (lc : vc.length = 8) (V_n : Arv Z h0 a2 kn .int (8 : Int32) vn (.int (0 : Int32))) (lnn : vn.length = 8) (hp1 : ¬ (p3 < (0 : Int32))) (hp2 : p3 < (8 : Int32)) (nee : a1 ≠ a2) (g_a1 : n0 ≤ a1) (g_a2 : n0 ≤ a2) (hbt : ¬ ((((p5.toUInt32 >>> (p3 &&& 31).toUInt32).toInt32) &&& (1 : Int32)) = (0 : Int32))) (Ex0 : Ext Z.heap h0) (hcw : Jvm.Lit.compactW.before a0 Z = true) (hh0 : Jvm.Lit.constHeld Z "tidemark/RecordFormParseChecksumPinLaw" 22) (S_C : Sta Z h0 "java/lang/String" "COMPACT_STRINGS" "Z" (.int cs)) (hcs : ¬ (cs = (0 : Int32))) (S_F : Sta Z h0 "jdk/internal/util/Preconditions" "SIOOBE_FORMATTER" "Ljava/util/function/BiFunction;" vf) (hvf : vf.isRef = true) :
    MetFree l (⟨"tidemark/RecordFormParseChecksumPinLaw", "draw", "([C[IIJII)V"⟩ : MethodName) (head1 (Jvm.Cond.code (⟨"tidemark/RecordFormParseChecksumPinLaw", "draw", "([C[IIJII)V"⟩ : MethodName) method_3_code 10 none :: ws) ({ frames := 4, cells := 2, slots := 68, locals := 53 } : Room)) (fun a U => a = #[(.ref a1), (.ref a2), (.int p3), (.long qw), (.int p5), (.int p6)] ∧ Z.Warmed39 U.vm ∧ U.heap = h0 ∧ IB Z U.vm []) (fun _ _ _ _ _ => True) (fun _ U o U' => ∃ v L, o = .returned v ∧ Q1c Z a1 a2 p3 qw p5 p6 kc kn vc vn cs vf h0 n0 v U'.heap U'.vm L ∧ ReturnedEndW U o U' L ({ frames := 4, cells := 2, slots := 68, locals := 53 } : Room).cells ({ frames := 4, cells := 2, slots := 68, locals := 53 } : Room).slots) := by
  refine MetFree.of_bodySF (plainFor_of_name pn_7) hisR ?_
  intro p e s m args below meth c s₁ Bd hml0 hP hK
  obtain ⟨rfl, hZ, hh, I0⟩ := hP
  have hx := Bd.exec
  have hby := Bd.bytes
  have hml : c.maxLocals = 10 := hml0
  have hown : s.vm.findClass "tidemark/RecordFormParseChecksumPinLaw" = some m.cls := findClass_of_methodNamed Bd.named
  have hnm := (name_of_methodNamed Bd.named Bd.method).1
  have X0 : Stand p l e ({ frames := 4, cells := 2, slots := 68, locals := 53 } : Room) (s.setVm s.vm) m #[(.ref a1), (.ref a2), (.int p3), (.long qw), (.int p5), (.int p6)] below meth c s₁ [] 0 0 := Stand.of_body Bd
  have e0 : s₁.heap = h0 := by rw [← hh, Bd.state]; rfl
  have N0 := Fr.nil n0
  have hS0 : s.Since s.vm s.heap.size := (State.WarmedH.refl s).since _
  have hk0 : s.heap.size ≤ h0.size := by rw [hh]; exact Nat.le_refl _
  show own_GoL p e below s (Q1c Z a1 a2 p3 qw p5 p6 kc kn vc vn cs vf h0 n0) ({ frames := 4, cells := 2, slots := 68, locals := 53 } : Room).cells ({ frames := 4, cells := 2, slots := 68, locals := 53 } : Room).slots _
  refine own_stepL (B := s₁.setTop (mkF m 0 #[.val (.ref a1), .val (.ref a2), .val (.int p3), .val (.long qw), .second, .val (.int p5), .val (.int p6), .unset, .unset, .unset] [])) (fun t k => castTop (ef_1c m a1 a2 p3 qw p5 p6) k) ?_
  have KK0 : Keep h0 h0 [a1, a2] := Keep.refl h0 _
  have wS : ∀ a ∈ Bundle.stringAtoms, a.before a0 Z = true := by
    intro a ha
    simp only [Bundle.stringAtoms, Bundle.sN, List.mem_cons, List.not_mem_nil, or_false] at ha
    rcases ha with rfl | rfl | rfl | rfl | rfl | rfl | rfl
    · exact (hw _ (List.mem_of_getElem? (i := 17) rfl))
    · exact (hw _ (List.mem_of_getElem? (i := 18) rfl))
    · exact (hw _ (List.mem_of_getElem? (i := 19) rfl))
    · exact (hw _ (List.mem_of_getElem? (i := 20) rfl))
    · exact (hw _ (List.mem_of_getElem? (i := 21) rfl))
    · exact (hw _ (List.mem_of_getElem? (i := 22) rfl))
    · exact (hw _ (List.mem_of_getElem? (i := 23) rfl))
  have hkeep : ∀ (b : Addr) (cl : Cell), Z.heap[b]? = some cl → s.heap[b]? = some cl := fun b cl q => by rw [hh]; exact Ex0.2 b cl q
  refine own_stepL (B := s₁.setTop (mkF m 30 #[.val (.ref a1), .val (.ref a2), .val (.int p3), .val (.long qw), .second, .val (.int p5), .val (.int p6), .val (.int ((((qw.toUInt64 >>> (((16 : Int32) * (p3 &&& (3 : Int32))) &&& 0x3f).toInt64.toUInt64).toInt64).toInt32) &&& (65535 : Int32))), .unset, .val (.int (((((qw.toUInt64 >>> (((16 : Int32) * (p3 &&& (3 : Int32))) &&& 0x3f).toInt64.toUInt64).toInt64).toInt32) &&& (65535 : Int32)) &&& (15 : Int32)))] [])) (fun t k => ?_) ?_
  · show Steps p.tables e below (s₁.setTop (mkF m 0 #[.val (.ref a1), .val (.ref a2), .val (.int p3), .val (.long qw), .second, .val (.int p5), .val (.int p6), .unset, .unset, .unset] [])) _
    refine XS.lloadN X0.here hx rfl (hb hby d1_0) rfl ?_
    refine XS.bipush X0.here hx rfl (hb hby d1_1) ?_
    refine XS.iloadN X0.here hx rfl (hb hby d1_3) rfl ?_
    refine XS.iconst X0.here hx rfl (hb hby d1_4) ?_
    refine XS.iand X0.here hx rfl (hb hby d1_5) rfl ?_
    refine XS.imul X0.here hx rfl (hb hby d1_6) rfl ?_
    refine XS.lushr X0.here hx rfl (hb hby d1_7) rfl ?_
    refine XS.l2i X0.here hx rfl (hb hby d1_8) rfl ?_
    refine X0.ldcInt hx hown (mvT hZ (hw _ (List.mem_of_getElem? (i := 6) rfl))) (g := (mkF m 9 #[.val (.ref a1), .val (.ref a2), .val (.int p3), .val (.long qw), .second, .val (.int p5), .val (.int p6), .unset, .unset, .unset] [(.int (((qw.toUInt64 >>> (((16 : Int32) * (p3 &&& (3 : Int32))) &&& 0x3f).toInt64.toUInt64).toInt64).toInt32))])) rfl (hb hby d1_9) _ ?_
    refine XS.iand X0.here hx rfl (hb hby d1_11) rfl ?_
    refine XS.istore X0.here hx rfl (hb hby d1_12) rfl (l' := #[.val (.ref a1), .val (.ref a2), .val (.int p3), .val (.long qw), .second, .val (.int p5), .val (.int p6), .val (.int ((((qw.toUInt64 >>> (((16 : Int32) * (p3 &&& (3 : Int32))) &&& 0x3f).toInt64.toUInt64).toInt64).toInt32) &&& (65535 : Int32))), .unset, .unset]) rfl ?_
    refine XS.iload X0.here hx rfl (hb hby d1_14) rfl ?_
    refine XS.iloadN X0.here hx rfl (hb hby d1_16) rfl ?_
    refine XS.iushr X0.here hx rfl (hb hby d1_17) rfl ?_
    refine XS.iconst X0.here hx rfl (hb hby d1_18) ?_
    refine XS.iand X0.here hx rfl (hb hby d1_19) rfl ?_
    refine XS.ifNo X0.here hx rfl (hb hby d1_20) rfl ((if0 _ _).trans (feq hbt).1) ?_
    refine XS.iload X0.here hx rfl (hb hby d1_23) rfl ?_
    refine XS.bipush X0.here hx rfl (hb hby d1_25) ?_
    refine XS.iand X0.here hx rfl (hb hby d1_27) rfl ?_
    refine XS.istore X0.here hx rfl (hb hby d1_28) rfl (l' := #[.val (.ref a1), .val (.ref a2), .val (.int p3), .val (.long qw), .second, .val (.int p5), .val (.int p6), .val (.int ((((qw.toUInt64 >>> (((16 : Int32) * (p3 &&& (3 : Int32))) &&& 0x3f).toInt64.toUInt64).toInt64).toInt32) &&& (65535 : Int32))), .unset, .val (.int (((((qw.toUInt64 >>> (((16 : Int32) * (p3 &&& (3 : Int32))) &&& 0x3f).toInt64.toUInt64).toInt64).toInt32) &&& (65535 : Int32)) &&& (15 : Int32)))]) rfl ?_
    exact k
  obtain ⟨j, hj, ej⟩ := own_m15 (((qw.toUInt64 >>> (((16 : Int32) * (p3 &&& (3 : Int32))) &&& 0x3f).toInt64.toUInt64).toInt64).toInt32 &&& (65535 : Int32))
  rw [ej]
  show own_GoL p e below s _ _ _ (s₁.setTop (mkF m 30 #[.val (.ref a1), .val (.ref a2), .val (.int p3), .val (.long qw), .second, .val (.int p5), .val (.int p6), .val (.int ((((qw.toUInt64 >>> (((16 : Int32) * (p3 &&& (3 : Int32))) &&& 0x3f).toInt64.toUInt64).toInt64).toInt32) &&& (65535 : Int32))), .unset, .val (.int (Int32.ofNat j))] []))
  obtain ⟨sa1, T1, h1, kn1, sb1, sk1, X1, e1, E1, hS1, hk1, hZ, hown, Es1, Fc1, Fv1, Vs1, la1, lb1, I1, Lt1, st1⟩ := ldcSVL X0 hx hZ hown (hw _ (List.mem_of_getElem? (i := 16) rfl)) wS e0 hS0 hk0 (Fr.nil _) hkeep I0 (by decide) hh0 hcw (vs := [(.int (48 : Int32)), (.int (49 : Int32)), (.int (50 : Int32)), (.int (51 : Int32)), (.int (52 : Int32)), (.int (53 : Int32)), (.int (54 : Int32)), (.int (55 : Int32)), (.int (56 : Int32)), (.int (57 : Int32)), (.int (97 : Int32)), (.int (98 : Int32)), (.int (99 : Int32)), (.int (100 : Int32)), (.int (101 : Int32)), (.int (102 : Int32))]) (z := (16 : Int32)) ⟨by decide, by decide⟩ (by decide) rfl (g := (mkF m 30 #[.val (.ref a1), .val (.ref a2), .val (.int p3), .val (.long qw), .second, .val (.int p5), .val (.int p6), .val (.int ((((qw.toUInt64 >>> (((16 : Int32) * (p3 &&& (3 : Int32))) &&& 0x3f).toInt64.toUInt64).toInt64).toInt32) &&& (65535 : Int32))), .unset, .val (.int (Int32.ofNat j))] [])) rfl (hb hby d1_30) (n := 64) (by decide) (by decide) (by decide) (by decide)
  have K1 : Keep h0 h1 [a1, a2] := KK0.ext E1
  refine own_stepL st1 ?_
  show own_GoL p e below s _ _ _ (T1.setTop (mkF m 32 #[.val (.ref a1), .val (.ref a2), .val (.int p3), .val (.long qw), .second, .val (.int p5), .val (.int p6), .val (.int ((((qw.toUInt64 >>> (((16 : Int32) * (p3 &&& (3 : Int32))) &&& 0x3f).toInt64.toUInt64).toInt64).toInt32) &&& (65535 : Int32))), .unset, .val (.int (Int32.ofNat j))] [(.ref sa1)]))
  refine own_stepL (B := T1.setTop (mkF m 34 #[.val (.ref a1), .val (.ref a2), .val (.int p3), .val (.long qw), .second, .val (.int p5), .val (.int p6), .val (.int ((((qw.toUInt64 >>> (((16 : Int32) * (p3 &&& (3 : Int32))) &&& 0x3f).toInt64.toUInt64).toInt64).toInt32) &&& (65535 : Int32))), .unset, .val (.int (Int32.ofNat j))] [(.int (Int32.ofNat j)), (.ref sa1)])) (fun t k => ?_) ?_
  · show Steps p.tables e below (T1.setTop (mkF m 32 #[.val (.ref a1), .val (.ref a2), .val (.int p3), .val (.long qw), .second, .val (.int p5), .val (.int p6), .val (.int ((((qw.toUInt64 >>> (((16 : Int32) * (p3 &&& (3 : Int32))) &&& 0x3f).toInt64.toUInt64).toInt64).toInt32) &&& (65535 : Int32))), .unset, .val (.int (Int32.ofNat j))] [(.ref sa1)])) _
    refine XS.iload X1.here hx rfl (hb hby d1_32) rfl ?_
    exact k
  obtain ⟨cs2, As2, -, Ss2, Ns2, Hc2, -⟩ := id (Vs1)
  have hi2 : ¬ (Int32.ofNat j < 0 ∨ cs2.slots.size ≤ (Int32.ofNat j).toNatClampNeg) := inb_of Ss2 ⟨own_j0 hj, own_j16 hj⟩
  have ht2 : cs2.slots[(Int32.ofNat j).toNatClampNeg]? = some (.int (own_hx (Int32.ofNat j))) := Has.at Hc2 hi2 (own_hat hj)
  obtain ⟨cq3, kq3, q3a, q3b, q3c⟩ := isOf hZ e1 Es1
  obtain ⟨_, _, ⟨T3, L3, k3, n3⟩, -, X3, ⟨Lc3, hQ3, l3, y3, z3⟩, st3⟩ := X1.virtualBack hx (y := (⟨"java/lang/String", "charAt", "(I)C"⟩ : MethodName)) (z := (⟨"java/lang/String", "charAt", "(I)C"⟩ : MethodName)) hown (mvT hZ (hw _ (List.mem_of_getElem? (i := 24) rfl))) (mvT hZ (hw _ (List.mem_of_getElem? (i := 25) rfl))) (notFace_of_selects (args := #[]) (mvT hZ (hw _ (List.mem_of_getElem? (i := 27) rfl)))) (mvT hZ (hw _ (List.mem_of_getElem? (i := 27) rfl))) (mvT hZ (hw _ (List.mem_of_getElem? (i := 26) rfl))) (by decide) (backOf (W := 0) (rm4 l Z a0 hw [] sa1 (Int32.ofNat j) cs vf sb1 cs2 (16 : Int32) (own_hx (Int32.ofNat j)) h1 n0 (Nat.le_trans Z0 E1.1) Es1 Fc1 Fv1 As2 (len_of Ss2 Ns2) (own_j0 hj) (own_j16 hj) hi2 ht2 (S_C.ext E1) hcs (S_F.ext E1) hvf) hZ (hw _ (List.mem_of_getElem? (i := 28) rfl)) (hw _ (List.mem_of_getElem? (i := 17) rfl)) (by decide) (by decide) ) q3a q3c (g := (mkF m 34 #[.val (.ref a1), .val (.ref a2), .val (.int p3), .val (.long qw), .second, .val (.int p5), .val (.int p6), .val (.int ((((qw.toUInt64 >>> (((16 : Int32) * (p3 &&& (3 : Int32))) &&& 0x3f).toInt64.toUInt64).toInt64).toInt32) &&& (65535 : Int32))), .unset, .val (.int (Int32.ofNat j))] [(.int (Int32.ofNat j)), (.ref sa1)])) rfl (by rw [hml]; rfl) (Steps.refl _) (argsL := [(.int (Int32.ofNat j))]) (rest := []) (lenOf pd_8 rfl) rfl (by show 2 * 0 + _ ≤ _; exact Nat.le_of_eq rfl) (hb hby d1_34) (fun _ _ => ⟨rfl, e1, (by decide : 2 + 0 ≤ _), (by decide : 68 + 0 ≤ _)⟩)
  dsimp only [Pt.U, Pt.locs, Pt.cells, Pt.slots] at X3 l3 y3 z3 st3 hQ3
  subst l3 y3 z3
  obtain ⟨rfl, N3q, e3⟩ := hQ3
  have N3 := Fr.app N0 N3q
  refine own_viaL st3 ?_
  show own_GoL p e below s _ _ _ (T3.setTop (mkF m 37 #[.val (.ref a1), .val (.ref a2), .val (.int p3), .val (.long qw), .second, .val (.int p5), .val (.int p6), .val (.int ((((qw.toUInt64 >>> (((16 : Int32) * (p3 &&& (3 : Int32))) &&& 0x3f).toInt64.toUInt64).toInt64).toInt32) &&& (65535 : Int32))), .unset, .val (.int (Int32.ofNat j))] [(.int (own_ch (own_hx (Int32.ofNat j))))]))
  refine own_stepL (B := T3.setTop (mkF m 78 #[.val (.ref a1), .val (.ref a2), .val (.int p3), .val (.long qw), .second, .val (.int p5), .val (.int p6), .val (.int ((((qw.toUInt64 >>> (((16 : Int32) * (p3 &&& (3 : Int32))) &&& 0x3f).toInt64.toUInt64).toInt64).toInt32) &&& (65535 : Int32))), .val (.int (own_ch (own_hx (Int32.ofNat j)))), .val (.int (Int32.ofNat j))] [(.int (own_ch (own_hx (Int32.ofNat j)))), (.int p3), (.ref a1)])) (fun t k => ?_) ?_
  · show Steps p.tables e below (T3.setTop (mkF m 37 #[.val (.ref a1), .val (.ref a2), .val (.int p3), .val (.long qw), .second, .val (.int p5), .val (.int p6), .val (.int ((((qw.toUInt64 >>> (((16 : Int32) * (p3 &&& (3 : Int32))) &&& 0x3f).toInt64.toUInt64).toInt64).toInt32) &&& (65535 : Int32))), .unset, .val (.int (Int32.ofNat j))] [(.int (own_ch (own_hx (Int32.ofNat j))))])) _
    refine XS.istore X3.here hx rfl (hb hby d1_37) rfl (l' := #[.val (.ref a1), .val (.ref a2), .val (.int p3), .val (.long qw), .second, .val (.int p5), .val (.int p6), .val (.int ((((qw.toUInt64 >>> (((16 : Int32) * (p3 &&& (3 : Int32))) &&& 0x3f).toInt64.toUInt64).toInt64).toInt32) &&& (65535 : Int32))), .val (.int (own_ch (own_hx (Int32.ofNat j)))), .val (.int (Int32.ofNat j))]) rfl ?_
    refine XS.goto X3.here hx rfl (pc0 := 39) (pc' := 74) rfl (hb hby d1_39) (by decide) (by decide) ?_
    refine XS.aloadN X3.here hx rfl (hb hby d1_74) rfl rfl ?_
    refine XS.iloadN X3.here hx rfl (hb hby d1_75) rfl ?_
    refine XS.iload X3.here hx rfl (hb hby d1_76) rfl ?_
    exact k
  obtain ⟨cl4, Ar4, q4, S4, NN4, Hs4, G4⟩ := id ((V_c.ext E1))
  have hin4 : ¬ (p3 < 0 ∨ cl4.slots.size ≤ (p3).toNatClampNeg) := inb_of S4 ⟨hp1, hp2⟩
  obtain ⟨T4, h4, X4, e4, W4, st4⟩ := stC X3 hx hZ e3 Ar4 (j := p3) hin4 (g := (mkF m 78 #[.val (.ref a1), .val (.ref a2), .val (.int p3), .val (.long qw), .second, .val (.int p5), .val (.int p6), .val (.int ((((qw.toUInt64 >>> (((16 : Int32) * (p3 &&& (3 : Int32))) &&& 0x3f).toInt64.toUInt64).toInt64).toInt32) &&& (65535 : Int32))), .val (.int (own_ch (own_hx (Int32.ofNat j)))), .val (.int (Int32.ofNat j))] [(.int (own_ch (own_hx (Int32.ofNat j)))), (.int p3), (.ref a1)])) rfl rfl (hb hby d1_78)
  have V4 := Arv.set Ar4 q4 S4 NN4 Hs4 G4 (fits_nar_char _) W4 p3.toNatClampNeg rfl (by rw [lc]; exact own_k8 hp1 hp2)
  have N4 := Fr.snoc X4 N3 g_a1
  have K4 : Keep h0 h4 [a1, a2] := K1.wr W4 (Or.inl (by simp))
  refine own_stepL st4 ?_
  show own_GoL p e below s _ _ _ (T4.setTop (mkF m 79 #[.val (.ref a1), .val (.ref a2), .val (.int p3), .val (.long qw), .second, .val (.int p5), .val (.int p6), .val (.int ((((qw.toUInt64 >>> (((16 : Int32) * (p3 &&& (3 : Int32))) &&& 0x3f).toInt64.toUInt64).toInt64).toInt32) &&& (65535 : Int32))), .val (.int (own_ch (own_hx (Int32.ofNat j)))), .val (.int (Int32.ofNat j))] []))
  refine own_stepL (B := T4.setTop (mkF m 83 #[.val (.ref a1), .val (.ref a2), .val (.int p3), .val (.long qw), .second, .val (.int p5), .val (.int p6), .val (.int ((((qw.toUInt64 >>> (((16 : Int32) * (p3 &&& (3 : Int32))) &&& 0x3f).toInt64.toUInt64).toInt64).toInt32) &&& (65535 : Int32))), .val (.int (own_ch (own_hx (Int32.ofNat j)))), .val (.int (Int32.ofNat j))] [(.int (Int32.ofNat j)), (.int p3), (.ref a2)])) (fun t k => ?_) ?_
  · show Steps p.tables e below (T4.setTop (mkF m 79 #[.val (.ref a1), .val (.ref a2), .val (.int p3), .val (.long qw), .second, .val (.int p5), .val (.int p6), .val (.int ((((qw.toUInt64 >>> (((16 : Int32) * (p3 &&& (3 : Int32))) &&& 0x3f).toInt64.toUInt64).toInt64).toInt32) &&& (65535 : Int32))), .val (.int (own_ch (own_hx (Int32.ofNat j)))), .val (.int (Int32.ofNat j))] [])) _
    refine XS.aloadN X4.here hx rfl (hb hby d1_79) rfl rfl ?_
    refine XS.iloadN X4.here hx rfl (hb hby d1_80) rfl ?_
    refine XS.iload X4.here hx rfl (hb hby d1_81) rfl ?_
    exact k
  obtain ⟨cl5, Ar5, q5, S5, NN5, Hs5, G5⟩ := id (((V_n.ext E1).other W4 (Ne.symm nee)))
  have hin5 : ¬ (p3 < 0 ∨ cl5.slots.size ≤ (p3).toNatClampNeg) := inb_of S5 ⟨hp1, hp2⟩
  obtain ⟨T5, h5, X5, e5, W5, st5⟩ := stI X4 hx hZ e4 Ar5 (j := p3) hin5 (g := (mkF m 83 #[.val (.ref a1), .val (.ref a2), .val (.int p3), .val (.long qw), .second, .val (.int p5), .val (.int p6), .val (.int ((((qw.toUInt64 >>> (((16 : Int32) * (p3 &&& (3 : Int32))) &&& 0x3f).toInt64.toUInt64).toInt64).toInt32) &&& (65535 : Int32))), .val (.int (own_ch (own_hx (Int32.ofNat j)))), .val (.int (Int32.ofNat j))] [(.int (Int32.ofNat j)), (.int p3), (.ref a2)])) rfl rfl (hb hby d1_83)
  have V5 := Arv.set Ar5 q5 S5 NN5 Hs5 G5 rfl W5 p3.toNatClampNeg rfl (by rw [lnn]; exact own_k8 hp1 hp2)
  have N5 := Fr.snoc X5 N4 g_a2
  have K5 : Keep h0 h5 [a1, a2] := K4.wr W5 (Or.inl (by simp))
  refine own_stepL st5 ?_
  show own_GoL p e below s _ _ _ (T5.setTop (mkF m 84 #[.val (.ref a1), .val (.ref a2), .val (.int p3), .val (.long qw), .second, .val (.int p5), .val (.int p6), .val (.int ((((qw.toUInt64 >>> (((16 : Int32) * (p3 &&& (3 : Int32))) &&& 0x3f).toInt64.toUInt64).toInt64).toInt32) &&& (65535 : Int32))), .val (.int (own_ch (own_hx (Int32.ofNat j)))), .val (.int (Int32.ofNat j))] []))
  exact own_retVL X5 hS1 (by rw [e5]; exact (Nat.le_trans (Nat.le_trans hk1 (Keep.of_wr W4).1) (Keep.of_wr W5).1)) hx Bd.notSynchronized Bd.returns (hb hby d1_84) ⟨rfl, N5, by rw [e5]; exact K5, ⟨(nar .char (own_ch (own_hx (Int32.ofNat j)))), own_idem _, by rw [e5]; exact (V4.other W5 nee), by rw [e5]; exact (by rw [own_hexn hj]; exact V5)⟩, sa1, sb1, sk1, by rw [e5]; exact ((Es1.wr W4).wr W5), by rw [e5]; exact ((Fc1.other W4 (Or.inl (Exa.neArv Es1 (V_c.ext E1) (hw _ (List.mem_of_getElem? (i := 18) rfl))))).other W5 (Or.inl (Exa.neArv Es1 (V_n.ext E1) (hw _ (List.mem_of_getElem? (i := 18) rfl))))), by rw [e5]; exact ((Fv1.other W4 (Or.inl (Exa.neArv Es1 (V_c.ext E1) (hw _ (List.mem_of_getElem? (i := 18) rfl))))).other W5 (Or.inl (Exa.neArv Es1 (V_n.ext E1) (hw _ (List.mem_of_getElem? (i := 18) rfl))))), by rw [e5]; exact ((Vs1.other W4 (arv_ne Vs1 (V_c.ext E1) (Or.inl (by decide)))).other W5 (arv_ne Vs1 (V_n.ext E1) (Or.inl (by decide)))), Lit.stays Lt1 X5.warmed.wide⟩ (by decide) (by decide)
theorem d3_0 : decode prog_62_method_15_code 0 = .ok (.iload_n 2, 1) := by decide +kernel
theorem d3_1 : decode prog_62_method_15_code 1 = .ok (.iload_n 1, 1) := by decide +kernel
theorem d3_2 : decode prog_62_method_15_code 2 = .ok (.isub, 1) := by decide +kernel
theorem d3_3 : decode prog_62_method_15_code 3 = .ok (.bipush 8, 2) := by decide +kernel
theorem d3_5 : decode prog_62_method_15_code 5 = .ok (.if_icmp .eq 7, 3) := by decide +kernel
theorem d3_8 : decode prog_62_method_15_code 8 = .ok (.ldc2_w 156, 3) := by decide +kernel
theorem d3_11 : decode prog_62_method_15_code 11 = .ok (.lreturn, 1) := by decide +kernel
theorem d3_12 : decode prog_62_method_15_code 12 = .ok (.lconst 0, 1) := by decide +kernel
theorem d3_13 : decode prog_62_method_15_code 13 = .ok (.lstore_n 3, 1) := by decide +kernel
theorem d3_14 : decode prog_62_method_15_code 14 = .ok (.iload_n 1, 1) := by decide +kernel
theorem d3_15 : decode prog_62_method_15_code 15 = .ok (.istore 5, 2) := by decide +kernel
theorem d3_17 : decode prog_62_method_15_code 17 = .ok (.iload 5, 2) := by decide +kernel
theorem d3_19 : decode prog_62_method_15_code 19 = .ok (.iload_n 2, 1) := by decide +kernel
theorem d3_20 : decode prog_62_method_15_code 20 = .ok (.if_icmp .ge 78, 3) := by decide +kernel
theorem d3_23 : decode prog_62_method_15_code 23 = .ok (.aload_n 0, 1) := by decide +kernel
theorem d3_24 : decode prog_62_method_15_code 24 = .ok (.iload 5, 2) := by decide +kernel
theorem d3_26 : decode prog_62_method_15_code 26 = .ok (.caload, 1) := by decide +kernel
theorem d3_27 : decode prog_62_method_15_code 27 = .ok (.istore 6, 2) := by decide +kernel
theorem d3_29 : decode prog_62_method_15_code 29 = .ok (.iload 6, 2) := by decide +kernel
theorem d3_31 : decode prog_62_method_15_code 31 = .ok (.bipush 48, 2) := by decide +kernel
theorem d3_33 : decode prog_62_method_15_code 33 = .ok (.if_icmp .lt 20, 3) := by decide +kernel
theorem d3_36 : decode prog_62_method_15_code 36 = .ok (.iload 6, 2) := by decide +kernel
theorem d3_38 : decode prog_62_method_15_code 38 = .ok (.bipush 57, 2) := by decide +kernel
theorem d3_40 : decode prog_62_method_15_code 40 = .ok (.if_icmp .gt 13, 3) := by decide +kernel
theorem d3_43 : decode prog_62_method_15_code 43 = .ok (.iload 6, 2) := by decide +kernel
theorem d3_45 : decode prog_62_method_15_code 45 = .ok (.bipush 48, 2) := by decide +kernel
theorem d3_47 : decode prog_62_method_15_code 47 = .ok (.isub, 1) := by decide +kernel
theorem d3_48 : decode prog_62_method_15_code 48 = .ok (.istore 7, 2) := by decide +kernel
theorem d3_50 : decode prog_62_method_15_code 50 = .ok (.goto 34, 3) := by decide +kernel
theorem d3_53 : decode prog_62_method_15_code 53 = .ok (.iload 6, 2) := by decide +kernel
theorem d3_55 : decode prog_62_method_15_code 55 = .ok (.bipush 97, 2) := by decide +kernel
theorem d3_57 : decode prog_62_method_15_code 57 = .ok (.if_icmp .lt 23, 3) := by decide +kernel
theorem d3_60 : decode prog_62_method_15_code 60 = .ok (.iload 6, 2) := by decide +kernel
theorem d3_62 : decode prog_62_method_15_code 62 = .ok (.bipush 102, 2) := by decide +kernel
theorem d3_64 : decode prog_62_method_15_code 64 = .ok (.if_icmp .gt 16, 3) := by decide +kernel
theorem d3_67 : decode prog_62_method_15_code 67 = .ok (.iload 6, 2) := by decide +kernel
theorem d3_69 : decode prog_62_method_15_code 69 = .ok (.bipush 97, 2) := by decide +kernel
theorem d3_71 : decode prog_62_method_15_code 71 = .ok (.isub, 1) := by decide +kernel
theorem d3_72 : decode prog_62_method_15_code 72 = .ok (.bipush 10, 2) := by decide +kernel
theorem d3_74 : decode prog_62_method_15_code 74 = .ok (.iadd, 1) := by decide +kernel
theorem d3_75 : decode prog_62_method_15_code 75 = .ok (.istore 7, 2) := by decide +kernel
theorem d3_77 : decode prog_62_method_15_code 77 = .ok (.goto 7, 3) := by decide +kernel
theorem d3_80 : decode prog_62_method_15_code 80 = .ok (.ldc2_w 156, 3) := by decide +kernel
theorem d3_83 : decode prog_62_method_15_code 83 = .ok (.lreturn, 1) := by decide +kernel
theorem d3_84 : decode prog_62_method_15_code 84 = .ok (.lload_n 3, 1) := by decide +kernel
theorem d3_85 : decode prog_62_method_15_code 85 = .ok (.iconst 4, 1) := by decide +kernel
theorem d3_86 : decode prog_62_method_15_code 86 = .ok (.lshl, 1) := by decide +kernel
theorem d3_87 : decode prog_62_method_15_code 87 = .ok (.iload 7, 2) := by decide +kernel
theorem d3_89 : decode prog_62_method_15_code 89 = .ok (.i2l, 1) := by decide +kernel
theorem d3_90 : decode prog_62_method_15_code 90 = .ok (.lor, 1) := by decide +kernel
theorem d3_91 : decode prog_62_method_15_code 91 = .ok (.lstore_n 3, 1) := by decide +kernel
theorem d3_92 : decode prog_62_method_15_code 92 = .ok (.iinc 5 1, 3) := by decide +kernel
theorem d3_95 : decode prog_62_method_15_code 95 = .ok (.goto (-78), 3) := by decide +kernel
theorem d3_98 : decode prog_62_method_15_code 98 = .ok (.lload_n 3, 1) := by decide +kernel
theorem d3_99 : decode prog_62_method_15_code 99 = .ok (.lreturn, 1) := by decide +kernel
theorem pn_10 : plainName "tidemark/RecordForm" = true := by first | (simp [plainName, overriddenIn]; done) | decide +kernel
set_option maxRecDepth 65536 in
set_option maxHeartbeats 40000000 in
theorem own_loop {p : Program} {l : Launch} {e : Env} {R : Room} {s : State} {m : MethodId} {args : Array Value} {below : List Frame} {meth : Method} {c : Code} {locs : List Loc} {cells slots : Nat} {Z : State} {a0 : Array Value} {h0 : Heap} {a1 : Addr} {cl : Cell} {f : Nat → Int32} {n1 : Nat} {C S : Nat} {Q : Option Value → Heap → List Loc → Prop}
    (hx : p.tables.exec = Jvm.exec) (hZ : Z.Warmed39 s.vm) (hw : ∀ d ∈ tables_1, d.before a0 Z = true) (hby : c.code = prog_62_method_15_code) (hml : c.maxLocals = 8) (hown : s.vm.findClass "tidemark/RecordForm" = some m.cls) (hlk : meth.locks = false) (hret : meth.sig.returnType = some .long) (hC : cells ≤ C) (hS : slots ≤ S) (Ar : Arr Z h0 a1 cl .char) (hs : cl.slots.size = 12) (hf : ∀ j : Nat, j < 12 → cl.slots[j]? = some (.int (f j))) (h1 : n1 < 4) :
    ∀ (k i : Nat) (acc : Int64) (T : State) (s6 s7 : Slot), Stand p l e R s m args below meth c T locs cells slots → T.heap = h0 → One s6 → One s7 → i + k = n1 + 8 → Q (some (.long (own_pc f i k acc))) h0 locs →
      own_Go p e below s Q C S (T.setTop (mkF m 17 #[.val (.ref a1), .val (.int (Int32.ofNat n1)), .val (.int (Int32.ofNat (n1 + 8))), .val (.long acc), .second, .val (.int (Int32.ofNat i)), s6, s7] [])) := by
  intro k
  induction k with
  | zero =>
    intro i acc T s6 s7 X e0 h6 h7 hik hQ
    have hlt : ¬ (Int32.ofNat i < (Int32.ofNat (n1 + 8))) := by rw [own_lt (by omega) (by omega)]; omega
    refine own_step (B := T.setTop (mkF m 99 #[.val (.ref a1), .val (.int (Int32.ofNat n1)), .val (.int (Int32.ofNat (n1 + 8))), .val (.long acc), .second, .val (.int (Int32.ofNat i)), s6, s7] [(.long acc)])) (fun t k => ?_) ?_
    · show Steps p.tables e below (T.setTop (mkF m 17 #[.val (.ref a1), .val (.int (Int32.ofNat n1)), .val (.int (Int32.ofNat (n1 + 8))), .val (.long acc), .second, .val (.int (Int32.ofNat i)), s6, s7] [])) _
      refine XS.iload X.here hx rfl (hb hby d3_17) rfl ?_
      refine XS.iloadN X.here hx rfl (hb hby d3_19) rfl ?_
      refine XS.icmpYes X.here hx rfl (pc0 := 20) (pc' := 98) rfl (hb hby d3_20) rfl (flt hlt).2.1 (by decide) (by decide) ?_
      refine XS.lloadN X.here hx rfl (hb hby d3_98) rfl ?_
      exact k
    exact own_retJ X hx hlk hret (hb hby d3_99) (by rw [e0]; exact hQ) hC hS
  | succ k ih =>
    intro i acc T s6 s7 X e0 h6 h7 hik hQ
    have hlt : Int32.ofNat i < (Int32.ofNat (n1 + 8)) := by rw [own_lt (by omega) (by omega)]; omega
    refine own_step (B := T.setTop (mkF m 33 #[.val (.ref a1), .val (.int (Int32.ofNat n1)), .val (.int (Int32.ofNat (n1 + 8))), .val (.long acc), .second, .val (.int (Int32.ofNat i)), .val (.int (f i)), s7] [(.int (48 : Int32)), (.int (f i))])) (fun t k => ?_) ?_
    · show Steps p.tables e below (T.setTop (mkF m 17 #[.val (.ref a1), .val (.int (Int32.ofNat n1)), .val (.int (Int32.ofNat (n1 + 8))), .val (.long acc), .second, .val (.int (Int32.ofNat i)), s6, s7] [])) _
      refine XS.iload X.here hx rfl (hb hby d3_17) rfl ?_
      refine XS.iloadN X.here hx rfl (hb hby d3_19) rfl ?_
      refine XS.icmpNo X.here hx rfl (hb hby d3_20) rfl (tlt hlt).2.1 ?_
      refine XS.aloadN X.here hx rfl (hb hby d3_23) rfl rfl ?_
      refine XS.iload X.here hx rfl (hb hby d3_24) rfl ?_
      refine X.caload hx (j := (Int32.ofNat i)) (v := (.int (f i))) (by rw [e0]; exact Ar.1) (State.isArrayOf_alike hZ.alike Ar.2.1) Ar.2.2 (own_in hs (by omega) (by decide)) (by rw [own_nat (by omega)]; exact hf i (by omega)) (g := (mkF m 26 #[.val (.ref a1), .val (.int (Int32.ofNat n1)), .val (.int (Int32.ofNat (n1 + 8))), .val (.long acc), .second, .val (.int (Int32.ofNat i)), s6, s7] [(.int (Int32.ofNat i)), (.ref a1)])) rfl rfl (hb hby d3_26) _ ?_
      refine XS.istore X.here hx rfl (hb hby d3_27) rfl (l' := #[.val (.ref a1), .val (.int (Int32.ofNat n1)), .val (.int (Int32.ofNat (n1 + 8))), .val (.long acc), .second, .val (.int (Int32.ofNat i)), .val (.int (f i)), s7]) (own_st6 h6 _) ?_
      refine XS.iload X.here hx rfl (hb hby d3_29) rfl ?_
      refine XS.bipush X.here hx rfl (hb hby d3_31) ?_
      exact k
    by_cases hc33 : (f i) < (48 : Int32)
    · refine own_step (B := T.setTop (mkF m 57 #[.val (.ref a1), .val (.int (Int32.ofNat n1)), .val (.int (Int32.ofNat (n1 + 8))), .val (.long acc), .second, .val (.int (Int32.ofNat i)), .val (.int (f i)), s7] [(.int (97 : Int32)), (.int (f i))])) (fun t k => ?_) ?_
      · show Steps p.tables e below (T.setTop (mkF m 33 #[.val (.ref a1), .val (.int (Int32.ofNat n1)), .val (.int (Int32.ofNat (n1 + 8))), .val (.long acc), .second, .val (.int (Int32.ofNat i)), .val (.int (f i)), s7] [(.int (48 : Int32)), (.int (f i))])) _
        refine XS.icmpYes X.here hx rfl (pc0 := 33) (pc' := 53) rfl (hb hby d3_33) rfl (tlt hc33).1 (by decide) (by decide) ?_
        refine XS.iload X.here hx rfl (hb hby d3_53) rfl ?_
        refine XS.bipush X.here hx rfl (hb hby d3_55) ?_
        exact k
      by_cases hc57 : (f i) < (97 : Int32)
      · refine own_step (B := T.setTop (mkF m 83 #[.val (.ref a1), .val (.int (Int32.ofNat n1)), .val (.int (Int32.ofNat (n1 + 8))), .val (.long acc), .second, .val (.int (Int32.ofNat i)), .val (.int (f i)), s7] [(.long (-1 : Int64))])) (fun t k => ?_) ?_
        · show Steps p.tables e below (T.setTop (mkF m 57 #[.val (.ref a1), .val (.int (Int32.ofNat n1)), .val (.int (Int32.ofNat (n1 + 8))), .val (.long acc), .second, .val (.int (Int32.ofNat i)), .val (.int (f i)), s7] [(.int (97 : Int32)), (.int (f i))])) _
          refine XS.icmpYes X.here hx rfl (pc0 := 57) (pc' := 80) rfl (hb hby d3_57) rfl (tlt hc57).1 (by decide) (by decide) ?_
          refine X.ldc2Long hx hown (mvT hZ (hw _ (List.mem_of_getElem? (i := 14) rfl))) (g := (mkF m 80 #[.val (.ref a1), .val (.int (Int32.ofNat n1)), .val (.int (Int32.ofNat (n1 + 8))), .val (.long acc), .second, .val (.int (Int32.ofNat i)), .val (.int (f i)), s7] [])) rfl (hb hby d3_80) _ ?_
          exact k
        have en : own_nib (f i) = -1 := by simp [own_nib, hc33, hc57]
        exact own_retJ X hx hlk hret (hb hby d3_83) (by rw [e0]; have e : own_pc f i (k + 1) acc = -1 := if_pos (by rw [en]; decide); rw [e] at hQ; exact hQ) hC hS
      · refine own_step (B := T.setTop (mkF m 64 #[.val (.ref a1), .val (.int (Int32.ofNat n1)), .val (.int (Int32.ofNat (n1 + 8))), .val (.long acc), .second, .val (.int (Int32.ofNat i)), .val (.int (f i)), s7] [(.int (102 : Int32)), (.int (f i))])) (fun t k => ?_) ?_
        · show Steps p.tables e below (T.setTop (mkF m 57 #[.val (.ref a1), .val (.int (Int32.ofNat n1)), .val (.int (Int32.ofNat (n1 + 8))), .val (.long acc), .second, .val (.int (Int32.ofNat i)), .val (.int (f i)), s7] [(.int (97 : Int32)), (.int (f i))])) _
          refine XS.icmpNo X.here hx rfl (hb hby d3_57) rfl (flt hc57).1 ?_
          refine XS.iload X.here hx rfl (hb hby d3_60) rfl ?_
          refine XS.bipush X.here hx rfl (hb hby d3_62) ?_
          exact k
        by_cases hc64 : (102 : Int32) < (f i)
        · refine own_step (B := T.setTop (mkF m 83 #[.val (.ref a1), .val (.int (Int32.ofNat n1)), .val (.int (Int32.ofNat (n1 + 8))), .val (.long acc), .second, .val (.int (Int32.ofNat i)), .val (.int (f i)), s7] [(.long (-1 : Int64))])) (fun t k => ?_) ?_
          · show Steps p.tables e below (T.setTop (mkF m 64 #[.val (.ref a1), .val (.int (Int32.ofNat n1)), .val (.int (Int32.ofNat (n1 + 8))), .val (.long acc), .second, .val (.int (Int32.ofNat i)), .val (.int (f i)), s7] [(.int (102 : Int32)), (.int (f i))])) _
            refine XS.icmpYes X.here hx rfl (pc0 := 64) (pc' := 80) rfl (hb hby d3_64) rfl (tlt hc64).2.2.1 (by decide) (by decide) ?_
            refine X.ldc2Long hx hown (mvT hZ (hw _ (List.mem_of_getElem? (i := 14) rfl))) (g := (mkF m 80 #[.val (.ref a1), .val (.int (Int32.ofNat n1)), .val (.int (Int32.ofNat (n1 + 8))), .val (.long acc), .second, .val (.int (Int32.ofNat i)), .val (.int (f i)), s7] [])) rfl (hb hby d3_80) _ ?_
            exact k
          have en : own_nib (f i) = -1 := by simp [own_nib, hc33, hc57, hc64]
          exact own_retJ X hx hlk hret (hb hby d3_83) (by rw [e0]; have e : own_pc f i (k + 1) acc = -1 := if_pos (by rw [en]; decide); rw [e] at hQ; exact hQ) hC hS
        · refine own_step (B := T.setTop (mkF m 17 #[.val (.ref a1), .val (.int (Int32.ofNat n1)), .val (.int (Int32.ofNat (n1 + 8))), .val (.long ((acc <<< ((4 : Int32) &&& 0x3f).toInt64) ||| ((((f i) - (97 : Int32)) + (10 : Int32)).toInt64))), .second, .val (.int ((Int32.ofNat i) + (1 : Int32))), .val (.int (f i)), .val (.int (((f i) - (97 : Int32)) + (10 : Int32)))] [])) (fun t k => ?_) ?_
          · show Steps p.tables e below (T.setTop (mkF m 64 #[.val (.ref a1), .val (.int (Int32.ofNat n1)), .val (.int (Int32.ofNat (n1 + 8))), .val (.long acc), .second, .val (.int (Int32.ofNat i)), .val (.int (f i)), s7] [(.int (102 : Int32)), (.int (f i))])) _
            refine XS.icmpNo X.here hx rfl (hb hby d3_64) rfl (flt hc64).2.2.1 ?_
            refine XS.iload X.here hx rfl (hb hby d3_67) rfl ?_
            refine XS.bipush X.here hx rfl (hb hby d3_69) ?_
            refine XS.isub X.here hx rfl (hb hby d3_71) rfl ?_
            refine XS.bipush X.here hx rfl (hb hby d3_72) ?_
            refine XS.iadd X.here hx rfl (hb hby d3_74) rfl ?_
            refine XS.istore X.here hx rfl (hb hby d3_75) rfl (l' := #[.val (.ref a1), .val (.int (Int32.ofNat n1)), .val (.int (Int32.ofNat (n1 + 8))), .val (.long acc), .second, .val (.int (Int32.ofNat i)), .val (.int (f i)), .val (.int (((f i) - (97 : Int32)) + (10 : Int32)))]) (own_st7 h7 _) ?_
            refine XS.goto X.here hx rfl (pc0 := 77) (pc' := 84) rfl (hb hby d3_77) (by decide) (by decide) ?_
            refine XS.lloadN X.here hx rfl (hb hby d3_84) rfl ?_
            refine XS.iconst X.here hx rfl (hb hby d3_85) ?_
            refine XS.lshl X.here hx rfl (hb hby d3_86) rfl ?_
            refine XS.iload X.here hx rfl (hb hby d3_87) rfl ?_
            refine XS.i2l X.here hx rfl (hb hby d3_89) rfl ?_
            refine XS.lor X.here hx rfl (hb hby d3_90) rfl ?_
            refine XS.lstoreN X.here hx rfl (hb hby d3_91) rfl (l' := #[.val (.ref a1), .val (.int (Int32.ofNat n1)), .val (.int (Int32.ofNat (n1 + 8))), .val (.long ((acc <<< ((4 : Int32) &&& 0x3f).toInt64) ||| ((((f i) - (97 : Int32)) + (10 : Int32)).toInt64))), .second, .val (.int (Int32.ofNat i)), .val (.int (f i)), .val (.int (((f i) - (97 : Int32)) + (10 : Int32)))]) rfl ?_
            refine XS.iinc X.here hx rfl (hb hby d3_92) rfl (l' := #[.val (.ref a1), .val (.int (Int32.ofNat n1)), .val (.int (Int32.ofNat (n1 + 8))), .val (.long ((acc <<< ((4 : Int32) &&& 0x3f).toInt64) ||| ((((f i) - (97 : Int32)) + (10 : Int32)).toInt64))), .second, .val (.int ((Int32.ofNat i) + (1 : Int32))), .val (.int (f i)), .val (.int (((f i) - (97 : Int32)) + (10 : Int32)))]) rfl ?_
            refine XS.goto X.here hx rfl (pc0 := 95) (pc' := 17) rfl (hb hby d3_95) (by decide) (by decide) ?_
            exact k
          rw [own_succ i]
          have en : own_nib (f i) = (((f i) - (97 : Int32)) + (10 : Int32)) := by simp [own_nib, hc33, hc57, hc64]
          have hp : ¬ (own_nib (f i) < 0) := by rw [en]; exact own_dig2 hc57 hc64 
          exact ih (i + 1) (own_nx acc ((((f i) - (97 : Int32)) + (10 : Int32))).toInt64) T (.val (.int (f i))) (.val (.int (((f i) - (97 : Int32)) + (10 : Int32)))) X e0 (One.val rfl) (One.val rfl) (by omega) (by rw [← en]; have e : own_pc f i (k + 1) acc = own_pc f (i + 1) k (own_nx acc (own_nib (f i)).toInt64) := if_neg hp; rw [← e]; exact hQ)
    · refine own_step (B := T.setTop (mkF m 40 #[.val (.ref a1), .val (.int (Int32.ofNat n1)), .val (.int (Int32.ofNat (n1 + 8))), .val (.long acc), .second, .val (.int (Int32.ofNat i)), .val (.int (f i)), s7] [(.int (57 : Int32)), (.int (f i))])) (fun t k => ?_) ?_
      · show Steps p.tables e below (T.setTop (mkF m 33 #[.val (.ref a1), .val (.int (Int32.ofNat n1)), .val (.int (Int32.ofNat (n1 + 8))), .val (.long acc), .second, .val (.int (Int32.ofNat i)), .val (.int (f i)), s7] [(.int (48 : Int32)), (.int (f i))])) _
        refine XS.icmpNo X.here hx rfl (hb hby d3_33) rfl (flt hc33).1 ?_
        refine XS.iload X.here hx rfl (hb hby d3_36) rfl ?_
        refine XS.bipush X.here hx rfl (hb hby d3_38) ?_
        exact k
      by_cases hc40 : (57 : Int32) < (f i)
      · refine own_step (B := T.setTop (mkF m 57 #[.val (.ref a1), .val (.int (Int32.ofNat n1)), .val (.int (Int32.ofNat (n1 + 8))), .val (.long acc), .second, .val (.int (Int32.ofNat i)), .val (.int (f i)), s7] [(.int (97 : Int32)), (.int (f i))])) (fun t k => ?_) ?_
        · show Steps p.tables e below (T.setTop (mkF m 40 #[.val (.ref a1), .val (.int (Int32.ofNat n1)), .val (.int (Int32.ofNat (n1 + 8))), .val (.long acc), .second, .val (.int (Int32.ofNat i)), .val (.int (f i)), s7] [(.int (57 : Int32)), (.int (f i))])) _
          refine XS.icmpYes X.here hx rfl (pc0 := 40) (pc' := 53) rfl (hb hby d3_40) rfl (tlt hc40).2.2.1 (by decide) (by decide) ?_
          refine XS.iload X.here hx rfl (hb hby d3_53) rfl ?_
          refine XS.bipush X.here hx rfl (hb hby d3_55) ?_
          exact k
        by_cases hc57 : (f i) < (97 : Int32)
        · refine own_step (B := T.setTop (mkF m 83 #[.val (.ref a1), .val (.int (Int32.ofNat n1)), .val (.int (Int32.ofNat (n1 + 8))), .val (.long acc), .second, .val (.int (Int32.ofNat i)), .val (.int (f i)), s7] [(.long (-1 : Int64))])) (fun t k => ?_) ?_
          · show Steps p.tables e below (T.setTop (mkF m 57 #[.val (.ref a1), .val (.int (Int32.ofNat n1)), .val (.int (Int32.ofNat (n1 + 8))), .val (.long acc), .second, .val (.int (Int32.ofNat i)), .val (.int (f i)), s7] [(.int (97 : Int32)), (.int (f i))])) _
            refine XS.icmpYes X.here hx rfl (pc0 := 57) (pc' := 80) rfl (hb hby d3_57) rfl (tlt hc57).1 (by decide) (by decide) ?_
            refine X.ldc2Long hx hown (mvT hZ (hw _ (List.mem_of_getElem? (i := 14) rfl))) (g := (mkF m 80 #[.val (.ref a1), .val (.int (Int32.ofNat n1)), .val (.int (Int32.ofNat (n1 + 8))), .val (.long acc), .second, .val (.int (Int32.ofNat i)), .val (.int (f i)), s7] [])) rfl (hb hby d3_80) _ ?_
            exact k
          have en : own_nib (f i) = -1 := by simp [own_nib, hc33, hc40, hc57]
          exact own_retJ X hx hlk hret (hb hby d3_83) (by rw [e0]; have e : own_pc f i (k + 1) acc = -1 := if_pos (by rw [en]; decide); rw [e] at hQ; exact hQ) hC hS
        · refine own_step (B := T.setTop (mkF m 64 #[.val (.ref a1), .val (.int (Int32.ofNat n1)), .val (.int (Int32.ofNat (n1 + 8))), .val (.long acc), .second, .val (.int (Int32.ofNat i)), .val (.int (f i)), s7] [(.int (102 : Int32)), (.int (f i))])) (fun t k => ?_) ?_
          · show Steps p.tables e below (T.setTop (mkF m 57 #[.val (.ref a1), .val (.int (Int32.ofNat n1)), .val (.int (Int32.ofNat (n1 + 8))), .val (.long acc), .second, .val (.int (Int32.ofNat i)), .val (.int (f i)), s7] [(.int (97 : Int32)), (.int (f i))])) _
            refine XS.icmpNo X.here hx rfl (hb hby d3_57) rfl (flt hc57).1 ?_
            refine XS.iload X.here hx rfl (hb hby d3_60) rfl ?_
            refine XS.bipush X.here hx rfl (hb hby d3_62) ?_
            exact k
          by_cases hc64 : (102 : Int32) < (f i)
          · refine own_step (B := T.setTop (mkF m 83 #[.val (.ref a1), .val (.int (Int32.ofNat n1)), .val (.int (Int32.ofNat (n1 + 8))), .val (.long acc), .second, .val (.int (Int32.ofNat i)), .val (.int (f i)), s7] [(.long (-1 : Int64))])) (fun t k => ?_) ?_
            · show Steps p.tables e below (T.setTop (mkF m 64 #[.val (.ref a1), .val (.int (Int32.ofNat n1)), .val (.int (Int32.ofNat (n1 + 8))), .val (.long acc), .second, .val (.int (Int32.ofNat i)), .val (.int (f i)), s7] [(.int (102 : Int32)), (.int (f i))])) _
              refine XS.icmpYes X.here hx rfl (pc0 := 64) (pc' := 80) rfl (hb hby d3_64) rfl (tlt hc64).2.2.1 (by decide) (by decide) ?_
              refine X.ldc2Long hx hown (mvT hZ (hw _ (List.mem_of_getElem? (i := 14) rfl))) (g := (mkF m 80 #[.val (.ref a1), .val (.int (Int32.ofNat n1)), .val (.int (Int32.ofNat (n1 + 8))), .val (.long acc), .second, .val (.int (Int32.ofNat i)), .val (.int (f i)), s7] [])) rfl (hb hby d3_80) _ ?_
              exact k
            have en : own_nib (f i) = -1 := by simp [own_nib, hc33, hc40, hc57, hc64]
            exact own_retJ X hx hlk hret (hb hby d3_83) (by rw [e0]; have e : own_pc f i (k + 1) acc = -1 := if_pos (by rw [en]; decide); rw [e] at hQ; exact hQ) hC hS
          · refine own_step (B := T.setTop (mkF m 17 #[.val (.ref a1), .val (.int (Int32.ofNat n1)), .val (.int (Int32.ofNat (n1 + 8))), .val (.long ((acc <<< ((4 : Int32) &&& 0x3f).toInt64) ||| ((((f i) - (97 : Int32)) + (10 : Int32)).toInt64))), .second, .val (.int ((Int32.ofNat i) + (1 : Int32))), .val (.int (f i)), .val (.int (((f i) - (97 : Int32)) + (10 : Int32)))] [])) (fun t k => ?_) ?_
            · show Steps p.tables e below (T.setTop (mkF m 64 #[.val (.ref a1), .val (.int (Int32.ofNat n1)), .val (.int (Int32.ofNat (n1 + 8))), .val (.long acc), .second, .val (.int (Int32.ofNat i)), .val (.int (f i)), s7] [(.int (102 : Int32)), (.int (f i))])) _
              refine XS.icmpNo X.here hx rfl (hb hby d3_64) rfl (flt hc64).2.2.1 ?_
              refine XS.iload X.here hx rfl (hb hby d3_67) rfl ?_
              refine XS.bipush X.here hx rfl (hb hby d3_69) ?_
              refine XS.isub X.here hx rfl (hb hby d3_71) rfl ?_
              refine XS.bipush X.here hx rfl (hb hby d3_72) ?_
              refine XS.iadd X.here hx rfl (hb hby d3_74) rfl ?_
              refine XS.istore X.here hx rfl (hb hby d3_75) rfl (l' := #[.val (.ref a1), .val (.int (Int32.ofNat n1)), .val (.int (Int32.ofNat (n1 + 8))), .val (.long acc), .second, .val (.int (Int32.ofNat i)), .val (.int (f i)), .val (.int (((f i) - (97 : Int32)) + (10 : Int32)))]) (own_st7 h7 _) ?_
              refine XS.goto X.here hx rfl (pc0 := 77) (pc' := 84) rfl (hb hby d3_77) (by decide) (by decide) ?_
              refine XS.lloadN X.here hx rfl (hb hby d3_84) rfl ?_
              refine XS.iconst X.here hx rfl (hb hby d3_85) ?_
              refine XS.lshl X.here hx rfl (hb hby d3_86) rfl ?_
              refine XS.iload X.here hx rfl (hb hby d3_87) rfl ?_
              refine XS.i2l X.here hx rfl (hb hby d3_89) rfl ?_
              refine XS.lor X.here hx rfl (hb hby d3_90) rfl ?_
              refine XS.lstoreN X.here hx rfl (hb hby d3_91) rfl (l' := #[.val (.ref a1), .val (.int (Int32.ofNat n1)), .val (.int (Int32.ofNat (n1 + 8))), .val (.long ((acc <<< ((4 : Int32) &&& 0x3f).toInt64) ||| ((((f i) - (97 : Int32)) + (10 : Int32)).toInt64))), .second, .val (.int (Int32.ofNat i)), .val (.int (f i)), .val (.int (((f i) - (97 : Int32)) + (10 : Int32)))]) rfl ?_
              refine XS.iinc X.here hx rfl (hb hby d3_92) rfl (l' := #[.val (.ref a1), .val (.int (Int32.ofNat n1)), .val (.int (Int32.ofNat (n1 + 8))), .val (.long ((acc <<< ((4 : Int32) &&& 0x3f).toInt64) ||| ((((f i) - (97 : Int32)) + (10 : Int32)).toInt64))), .second, .val (.int ((Int32.ofNat i) + (1 : Int32))), .val (.int (f i)), .val (.int (((f i) - (97 : Int32)) + (10 : Int32)))]) rfl ?_
              refine XS.goto X.here hx rfl (pc0 := 95) (pc' := 17) rfl (hb hby d3_95) (by decide) (by decide) ?_
              exact k
            rw [own_succ i]
            have en : own_nib (f i) = (((f i) - (97 : Int32)) + (10 : Int32)) := by simp [own_nib, hc33, hc40, hc57, hc64]
            have hp : ¬ (own_nib (f i) < 0) := by rw [en]; exact own_dig2 hc57 hc64 
            exact ih (i + 1) (own_nx acc ((((f i) - (97 : Int32)) + (10 : Int32))).toInt64) T (.val (.int (f i))) (.val (.int (((f i) - (97 : Int32)) + (10 : Int32)))) X e0 (One.val rfl) (One.val rfl) (by omega) (by rw [← en]; have e : own_pc f i (k + 1) acc = own_pc f (i + 1) k (own_nx acc (own_nib (f i)).toInt64) := if_neg hp; rw [← e]; exact hQ)
      · refine own_step (B := T.setTop (mkF m 17 #[.val (.ref a1), .val (.int (Int32.ofNat n1)), .val (.int (Int32.ofNat (n1 + 8))), .val (.long ((acc <<< ((4 : Int32) &&& 0x3f).toInt64) ||| (((f i) - (48 : Int32)).toInt64))), .second, .val (.int ((Int32.ofNat i) + (1 : Int32))), .val (.int (f i)), .val (.int ((f i) - (48 : Int32)))] [])) (fun t k => ?_) ?_
        · show Steps p.tables e below (T.setTop (mkF m 40 #[.val (.ref a1), .val (.int (Int32.ofNat n1)), .val (.int (Int32.ofNat (n1 + 8))), .val (.long acc), .second, .val (.int (Int32.ofNat i)), .val (.int (f i)), s7] [(.int (57 : Int32)), (.int (f i))])) _
          refine XS.icmpNo X.here hx rfl (hb hby d3_40) rfl (flt hc40).2.2.1 ?_
          refine XS.iload X.here hx rfl (hb hby d3_43) rfl ?_
          refine XS.bipush X.here hx rfl (hb hby d3_45) ?_
          refine XS.isub X.here hx rfl (hb hby d3_47) rfl ?_
          refine XS.istore X.here hx rfl (hb hby d3_48) rfl (l' := #[.val (.ref a1), .val (.int (Int32.ofNat n1)), .val (.int (Int32.ofNat (n1 + 8))), .val (.long acc), .second, .val (.int (Int32.ofNat i)), .val (.int (f i)), .val (.int ((f i) - (48 : Int32)))]) (own_st7 h7 _) ?_
          refine XS.goto X.here hx rfl (pc0 := 50) (pc' := 84) rfl (hb hby d3_50) (by decide) (by decide) ?_
          refine XS.lloadN X.here hx rfl (hb hby d3_84) rfl ?_
          refine XS.iconst X.here hx rfl (hb hby d3_85) ?_
          refine XS.lshl X.here hx rfl (hb hby d3_86) rfl ?_
          refine XS.iload X.here hx rfl (hb hby d3_87) rfl ?_
          refine XS.i2l X.here hx rfl (hb hby d3_89) rfl ?_
          refine XS.lor X.here hx rfl (hb hby d3_90) rfl ?_
          refine XS.lstoreN X.here hx rfl (hb hby d3_91) rfl (l' := #[.val (.ref a1), .val (.int (Int32.ofNat n1)), .val (.int (Int32.ofNat (n1 + 8))), .val (.long ((acc <<< ((4 : Int32) &&& 0x3f).toInt64) ||| (((f i) - (48 : Int32)).toInt64))), .second, .val (.int (Int32.ofNat i)), .val (.int (f i)), .val (.int ((f i) - (48 : Int32)))]) rfl ?_
          refine XS.iinc X.here hx rfl (hb hby d3_92) rfl (l' := #[.val (.ref a1), .val (.int (Int32.ofNat n1)), .val (.int (Int32.ofNat (n1 + 8))), .val (.long ((acc <<< ((4 : Int32) &&& 0x3f).toInt64) ||| (((f i) - (48 : Int32)).toInt64))), .second, .val (.int ((Int32.ofNat i) + (1 : Int32))), .val (.int (f i)), .val (.int ((f i) - (48 : Int32)))]) rfl ?_
          refine XS.goto X.here hx rfl (pc0 := 95) (pc' := 17) rfl (hb hby d3_95) (by decide) (by decide) ?_
          exact k
        rw [own_succ i]
        have en : own_nib (f i) = ((f i) - (48 : Int32)) := by simp [own_nib, hc33, hc40]
        have hp : ¬ (own_nib (f i) < 0) := by rw [en]; exact own_dig1 hc33 hc40 
        exact ih (i + 1) (own_nx acc (((f i) - (48 : Int32))).toInt64) T (.val (.int (f i))) (.val (.int ((f i) - (48 : Int32)))) X e0 (One.val rfl) (One.val rfl) (by omega) (by rw [← en]; have e : own_pc f i (k + 1) acc = own_pc f (i + 1) k (own_nx acc (own_nib (f i)).toInt64) := if_neg hp; rw [← e]; exact hQ)
theorem ef_3 (m : MethodId) (a1 : Addr) (p2 : Int32) (p3 : Int32) : entryFrame m #[(.ref a1), (.int p2), (.int p3)] 8 = mkF m 0 #[.val (.ref a1), .val (.int p2), .val (.int p3), .unset, .unset, .unset, .unset, .unset] [] := by first | (simp [entryFrame, mkF, argsToLocals, Value.category]; done) | rfl
def Q3 (Z : State) (a1 : Addr) (p2 : Int32) (p3 : Int32) (cl : Cell) (f : Nat → Int32) (n1 : Nat) (h0 : Heap) (n0 : Nat) (v : Option Value) (h : Heap) (L : List Loc) : Prop := v = some (.long (if p3 - p2 = (8 : Int32) then own_pc f n1 8 0 else -1)) ∧ Fr n0 L ∧ h = h0
set_option maxRecDepth 65536 in
set_option maxHeartbeats 40000000 in
theorem rm3 (l : Launch) (Z : State) (a0 : Array Value) (hw : ∀ d ∈ tables_1, d.before a0 Z = true) (ws : List Jvm.Cond) (a1 : Addr) (p2 : Int32) (p3 : Int32) (cl : Cell) (f : Nat → Int32) (n1 : Nat) (h0 : Heap) (n0 : Nat) (Z0 : n0 ≤ h0.size) (Ar : Arr Z h0 a1 cl .char) (hs : cl.slots.size = 12) (hf : ∀ j : Nat, j < 12 → cl.slots[j]? = some (.int (f j))) (h1 : n1 < 4) (e2 : p2 = Int32.ofNat n1) :
    MetFree l (⟨"tidemark/RecordForm", "parseChecksum", "([CII)J"⟩ : MethodName) (head1 (Jvm.Cond.code (⟨"tidemark/RecordForm", "parseChecksum", "([CII)J"⟩ : MethodName) prog_62_method_15_code 8 (some .long) :: ws) ({ frames := 0, cells := 0, slots := 0, locals := 0 } : Room)) (fun a U => a = #[(.ref a1), (.int p2), (.int p3)] ∧ Z.Warmed39 U.vm ∧ U.heap = h0) (fun _ _ _ _ _ => True) (fun _ U o U' => ∃ v L, o = .returned v ∧ Q3 Z a1 p2 p3 cl f n1 h0 n0 v U'.heap L ∧ FrameEnd U o U' L ({ frames := 0, cells := 0, slots := 0, locals := 0 } : Room).cells ({ frames := 0, cells := 0, slots := 0, locals := 0 } : Room).slots) := by
  refine MetFree.of_bodySF (plainFor_of_name pn_10) hisR ?_
  intro p e s m args below meth c s₁ Bd hml0 hP hK
  obtain ⟨rfl, hZ, hh⟩ := hP
  have hx := Bd.exec
  have hby := Bd.bytes
  have hml : c.maxLocals = 8 := hml0
  have hown : s.vm.findClass "tidemark/RecordForm" = some m.cls := findClass_of_methodNamed Bd.named
  have hnm := (name_of_methodNamed Bd.named Bd.method).1
  have X0 : Stand p l e ({ frames := 0, cells := 0, slots := 0, locals := 0 } : Room) s m #[(.ref a1), (.int p2), (.int p3)] below meth c s₁ [] 0 0 := Stand.of_body Bd
  have e0 : s₁.heap = h0 := by rw [← hh, Bd.state]; rfl
  have N0 := Fr.nil n0
  skip
  show own_Go p e below s (Q3 Z a1 p2 p3 cl f n1 h0 n0) ({ frames := 0, cells := 0, slots := 0, locals := 0 } : Room).cells ({ frames := 0, cells := 0, slots := 0, locals := 0 } : Room).slots _
  refine own_step (B := s₁.setTop (mkF m 0 #[.val (.ref a1), .val (.int p2), .val (.int p3), .unset, .unset, .unset, .unset, .unset] [])) (fun t k => castTop (ef_3 m a1 p2 p3) k) ?_
  subst e2
  refine own_step (B := s₁.setTop (mkF m 5 #[.val (.ref a1), .val (.int (Int32.ofNat n1)), .val (.int p3), .unset, .unset, .unset, .unset, .unset] [(.int (8 : Int32)), (.int (p3 - (Int32.ofNat n1)))])) (fun t k => ?_) ?_
  · show Steps p.tables e below (s₁.setTop (mkF m 0 #[.val (.ref a1), .val (.int (Int32.ofNat n1)), .val (.int p3), .unset, .unset, .unset, .unset, .unset] [])) _
    refine XS.iloadN X0.here hx rfl (hb hby d3_0) rfl ?_
    refine XS.iloadN X0.here hx rfl (hb hby d3_1) rfl ?_
    refine XS.isub X0.here hx rfl (hb hby d3_2) rfl ?_
    refine XS.bipush X0.here hx rfl (hb hby d3_3) ?_
    exact k
  by_cases hq : (p3 - (Int32.ofNat n1)) = (8 : Int32)
  · refine own_step (B := s₁.setTop (mkF m 17 #[.val (.ref a1), .val (.int (Int32.ofNat n1)), .val (.int p3), .val (.long (0 : Int64)), .second, .val (.int (Int32.ofNat n1)), .unset, .unset] [])) (fun t k => ?_) ?_
    · show Steps p.tables e below (s₁.setTop (mkF m 5 #[.val (.ref a1), .val (.int (Int32.ofNat n1)), .val (.int p3), .unset, .unset, .unset, .unset, .unset] [(.int (8 : Int32)), (.int (p3 - (Int32.ofNat n1)))])) _
      refine XS.icmpYes X0.here hx rfl (pc0 := 5) (pc' := 12) rfl (hb hby d3_5) rfl (teq hq).1 (by decide) (by decide) ?_
      refine XS.lconst X0.here hx rfl (hb hby d3_12) ?_
      refine XS.lstoreN X0.here hx rfl (hb hby d3_13) rfl (l' := #[.val (.ref a1), .val (.int (Int32.ofNat n1)), .val (.int p3), .val (.long (0 : Int64)), .second, .unset, .unset, .unset]) rfl ?_
      refine XS.iloadN X0.here hx rfl (hb hby d3_14) rfl ?_
      refine XS.istore X0.here hx rfl (hb hby d3_15) rfl (l' := #[.val (.ref a1), .val (.int (Int32.ofNat n1)), .val (.int p3), .val (.long (0 : Int64)), .second, .val (.int (Int32.ofNat n1)), .unset, .unset]) rfl ?_
      exact k
    have e3 : p3 = (Int32.ofNat (n1 + 8)) := own_e3 hq
    subst e3
    exact own_loop hx hZ hw hby hml hown Bd.notSynchronized Bd.returns (Nat.le_refl _) (Nat.le_refl _) Ar hs hf h1 8 n1 0 s₁ .unset .unset X0 e0 One.u One.u rfl ⟨by rw [if_pos hq], N0, rfl⟩
  · refine own_step (B := s₁.setTop (mkF m 11 #[.val (.ref a1), .val (.int (Int32.ofNat n1)), .val (.int p3), .unset, .unset, .unset, .unset, .unset] [(.long (-1 : Int64))])) (fun t k => ?_) ?_
    · show Steps p.tables e below (s₁.setTop (mkF m 5 #[.val (.ref a1), .val (.int (Int32.ofNat n1)), .val (.int p3), .unset, .unset, .unset, .unset, .unset] [(.int (8 : Int32)), (.int (p3 - (Int32.ofNat n1)))])) _
      refine XS.icmpNo X0.here hx rfl (hb hby d3_5) rfl (feq hq).1 ?_
      refine X0.ldc2Long hx hown (mvT hZ (hw _ (List.mem_of_getElem? (i := 14) rfl))) (g := (mkF m 8 #[.val (.ref a1), .val (.int (Int32.ofNat n1)), .val (.int p3), .unset, .unset, .unset, .unset, .unset] [])) rfl (hb hby d3_8) _ ?_
      exact k
    exact own_retJ X0 hx Bd.notSynchronized Bd.returns (hb hby d3_11) ⟨by rw [if_neg hq], N0, e0⟩ (by decide) (by decide)
theorem pd_11 : parseMethodDescriptor "([C[IIJII)V" = some ⟨[(.array .char), (.array .int), .int, .long, .int, .int], none⟩ := by decide +kernel
theorem pd_12 : parseMethodDescriptor "([CII)J" = some ⟨[(.array .char), .int, .int], some .long⟩ := by decide +kernel
theorem ef_0 (m : MethodId) (wa : Int64) (wb : Int64) (mode : Int32) (narrow : Int32) : entryFrame m #[(.long wa), (.long wb), (.int mode), (.int narrow)] maxLocals = mkF m 0 #[.val (.long wa), .second, .val (.long wb), .second, .val (.int mode), .val (.int narrow), .unset, .unset, .unset, .unset, .unset, .unset, .unset, .unset, .unset, .unset] [] := by first | (simp [entryFrame, mkF, argsToLocals, Value.category, maxLocals]; done) | rfl
def Q0 (Z : State) (wa : Int64) (wb : Int64) (mode : Int32) (narrow : Int32) (cs : Int32) (vf : Value) (h0 : Heap) (n0 : Nat) (v : Option Value) (h : Heap) (L : List Loc) : Prop := v = some (.int (1 : Int32)) ∧ Fr n0 L
set_option maxRecDepth 65536 in
set_option maxHeartbeats 40000000 in
theorem rm0 (l : Launch) (Z : State) (a0 : Array Value) (hw : ∀ d ∈ tables_1, d.before a0 Z = true) (ws : List Jvm.Cond) (wa : Int64) (wb : Int64) (mode : Int32) (narrow : Int32) (cs : Int32) (vf : Value) (h0 : Heap) (n0 : Nat) (Z0 : n0 ≤ h0.size) (O0 : Old Z n0 h0) (hn0 : n0 = h0.size) (hcw : Jvm.Lit.compactW.before a0 Z = true) (hh0 : Jvm.Lit.constHeld Z "tidemark/RecordFormParseChecksumPinLaw" 22) (S_C : Sta Z h0 "java/lang/String" "COMPACT_STRINGS" "Z" (.int cs)) (hcs : ¬ (cs = (0 : Int32))) (S_F : Sta Z h0 "jdk/internal/util/Preconditions" "SIOOBE_FORMATTER" "Ljava/util/function/BiFunction;" vf) (hvf : vf.isRef = true) :
    MetFree l x (head1 (Jvm.Cond.code x code maxLocals ret :: ws) room_1) (fun a U => a = #[(.long wa), (.long wb), (.int mode), (.int narrow)] ∧ Z.Warmed39 U.vm ∧ U.heap = h0 ∧ IB Z U.vm []) (fun _ _ _ _ _ => True) (fun _ U o U' => ∃ v L, o = .returned v ∧ Q0 Z wa wb mode narrow cs vf h0 n0 v U'.heap L ∧ ReturnedEndW U o U' L room_1.cells room_1.slots) := by
  refine MetFree.of_bodySF (plainFor_of_name pn_7) hisR ?_
  intro p e s m args below meth c s₁ Bd hml0 hP hK
  obtain ⟨rfl, hZ, hh, I0⟩ := hP
  have hx := Bd.exec
  have hby := Bd.bytes
  have hml : c.maxLocals = 16 := hml0
  have hown : s.vm.findClass "tidemark/RecordFormParseChecksumPinLaw" = some m.cls := findClass_of_methodNamed Bd.named
  have hnm := (name_of_methodNamed Bd.named Bd.method).1
  have X0 : Stand p l e room_1 (s.setVm s.vm) m #[(.long wa), (.long wb), (.int mode), (.int narrow)] below meth c s₁ [] 0 0 := Stand.of_body Bd
  have e0 : s₁.heap = h0 := by rw [← hh, Bd.state]; rfl
  have N0 := Fr.nil n0
  have hS0 : s.Since s.vm s.heap.size := (State.WarmedH.refl s).since _
  have hk0 : s.heap.size ≤ h0.size := by rw [hh]; exact Nat.le_refl _
  show own_GoW p e below s (Q0 Z wa wb mode narrow cs vf h0 n0) room_1.cells room_1.slots _
  refine own_stepW (B := s₁.setTop (mkF m 0 #[.val (.long wa), .second, .val (.long wb), .second, .val (.int mode), .val (.int narrow), .unset, .unset, .unset, .unset, .unset, .unset, .unset, .unset, .unset, .unset] [])) (fun t k => castTop (ef_0 m wa wb mode narrow) k) ?_
  have tail : ∀ (ac an : Addr) (kc kn : ClassId) (Tc : State) (hc : Heap) (lc : List Loc) (kq : Nat) (vmc : Vm) (x0 x1 x2 x3 x4 x5 x6 x7 : Int32), (Stand p l e room_1 (s.setVm vmc) m #[(.long wa), (.long wb), (.int mode), (.int narrow)] below meth c Tc lc 4 84) → (Tc.heap = hc) → (s.Since vmc kq) → (kq ≤ hc.size) → (Z.Warmed39 (s.setVm vmc).vm) → ((s.setVm vmc).vm.findClass "tidemark/RecordFormParseChecksumPinLaw" = some m.cls) → (Fr n0 lc) → (Keep h0 hc []) → (h0.size ≤ ac) → (h0.size ≤ an) → (ac ≠ an) → (Arv Z hc ac kc .char (8 : Int32) [(.int x0), (.int x1), (.int x2), (.int x3), (.int x4), (.int x5), (.int x6), (.int x7)] (.int (0 : Int32))) → (Arv Z hc an kn .int (8 : Int32) [(.int (own_nib x0)), (.int (own_nib x1)), (.int (own_nib x2)), (.int (own_nib x3)), (.int (own_nib x4)), (.int (own_nib x5)), (.int (own_nib x6)), (.int (own_nib x7))] (.int (0 : Int32))) → (nar .char x0 = x0) → (nar .char x1 = x1) → (nar .char x2 = x2) → (nar .char x3 = x3) → (nar .char x4 = x4) → (nar .char x5 = x5) → (nar .char x6 = x6) → (nar .char x7 = x7) → own_GoW p e below s (Q0 Z wa wb mode narrow cs vf h0 n0) room_1.cells room_1.slots (Tc.setTop (mkF m 118 #[.val (.long wa), .second, .val (.long wb), .second, .val (.int mode), .val (.int narrow), .val (.ref ac), .val (.ref an), .unset, .unset, .unset, .unset, .unset, .unset, .unset, .unset] [])) := by
    intro ac an kc kn Tc hc lc kq vmc x0 x1 x2 x3 x4 x5 x6 x7 Xc ec hSq hkq hZ hown Nc Kc szc szn nee Vc Vn y0 y1 y2 y3 y4 y5 y6 y7
    have g_ac : n0 ≤ ac := Nat.le_trans Z0 szc
    have g_an : n0 ≤ an := Nat.le_trans Z0 szn
    refine own_stepW (B := Tc.setTop (mkF m 146 #[.val (.long wa), .second, .val (.long wb), .second, .val (.int mode), .val (.int narrow), .val (.ref ac), .val (.ref an), .val (.int (((mode.toUInt32 >>> ((8 : Int32) &&& 31).toUInt32).toInt32) &&& (3 : Int32))), .val (.int ((((mode.toUInt32 >>> ((10 : Int32) &&& 31).toUInt32).toInt32) &&& (15 : Int32)) - (3 : Int32))), .val (.int ((((mode.toUInt32 >>> ((8 : Int32) &&& 31).toUInt32).toInt32) &&& (3 : Int32)) + ((((mode.toUInt32 >>> ((10 : Int32) &&& 31).toUInt32).toInt32) &&& (15 : Int32)) - (3 : Int32)))), .unset, .unset, .unset, .unset, .unset] [])) (fun t k => ?_) ?_
    · show Steps p.tables e below (Tc.setTop (mkF m 118 #[.val (.long wa), .second, .val (.long wb), .second, .val (.int mode), .val (.int narrow), .val (.ref ac), .val (.ref an), .unset, .unset, .unset, .unset, .unset, .unset, .unset, .unset] [])) _
      refine XS.iload Xc.here hx rfl (hb hby at_118) rfl ?_
      refine XS.bipush Xc.here hx rfl (hb hby at_120) ?_
      refine XS.iushr Xc.here hx rfl (hb hby at_122) rfl ?_
      refine XS.iconst Xc.here hx rfl (hb hby at_123) ?_
      refine XS.iand Xc.here hx rfl (hb hby at_124) rfl ?_
      refine XS.istore Xc.here hx rfl (hb hby at_125) rfl (l' := #[.val (.long wa), .second, .val (.long wb), .second, .val (.int mode), .val (.int narrow), .val (.ref ac), .val (.ref an), .val (.int (((mode.toUInt32 >>> ((8 : Int32) &&& 31).toUInt32).toInt32) &&& (3 : Int32))), .unset, .unset, .unset, .unset, .unset, .unset, .unset]) rfl ?_
      refine XS.iload Xc.here hx rfl (hb hby at_127) rfl ?_
      refine XS.bipush Xc.here hx rfl (hb hby at_129) ?_
      refine XS.iushr Xc.here hx rfl (hb hby at_131) rfl ?_
      refine XS.bipush Xc.here hx rfl (hb hby at_132) ?_
      refine XS.iand Xc.here hx rfl (hb hby at_134) rfl ?_
      refine XS.iconst Xc.here hx rfl (hb hby at_135) ?_
      refine XS.isub Xc.here hx rfl (hb hby at_136) rfl ?_
      refine XS.istore Xc.here hx rfl (hb hby at_137) rfl (l' := #[.val (.long wa), .second, .val (.long wb), .second, .val (.int mode), .val (.int narrow), .val (.ref ac), .val (.ref an), .val (.int (((mode.toUInt32 >>> ((8 : Int32) &&& 31).toUInt32).toInt32) &&& (3 : Int32))), .val (.int ((((mode.toUInt32 >>> ((10 : Int32) &&& 31).toUInt32).toInt32) &&& (15 : Int32)) - (3 : Int32))), .unset, .unset, .unset, .unset, .unset, .unset]) rfl ?_
      refine XS.iload Xc.here hx rfl (hb hby at_139) rfl ?_
      refine XS.iload Xc.here hx rfl (hb hby at_141) rfl ?_
      refine XS.iadd Xc.here hx rfl (hb hby at_143) rfl ?_
      refine XS.istore Xc.here hx rfl (hb hby at_144) rfl (l' := #[.val (.long wa), .second, .val (.long wb), .second, .val (.int mode), .val (.int narrow), .val (.ref ac), .val (.ref an), .val (.int (((mode.toUInt32 >>> ((8 : Int32) &&& 31).toUInt32).toInt32) &&& (3 : Int32))), .val (.int ((((mode.toUInt32 >>> ((10 : Int32) &&& 31).toUInt32).toInt32) &&& (15 : Int32)) - (3 : Int32))), .val (.int ((((mode.toUInt32 >>> ((8 : Int32) &&& 31).toUInt32).toInt32) &&& (3 : Int32)) + ((((mode.toUInt32 >>> ((10 : Int32) &&& 31).toUInt32).toInt32) &&& (15 : Int32)) - (3 : Int32)))), .unset, .unset, .unset, .unset, .unset]) rfl ?_
      exact k
    generalize hLN : ((((mode.toUInt32 >>> ((10 : Int32) &&& 31).toUInt32).toInt32) &&& (15 : Int32)) - (3 : Int32)) = LN
    obtain ⟨n1, hn1, en1⟩ := own_m3 ((mode.toUInt32 >>> ((8 : Int32) &&& 31).toUInt32).toInt32)
    rw [en1]
    show own_GoW p e below s _ _ _ (Tc.setTop (mkF m 146 #[.val (.long wa), .second, .val (.long wb), .second, .val (.int mode), .val (.int narrow), .val (.ref ac), .val (.ref an), .val (.int (Int32.ofNat n1)), .val (.int LN), .val (.int ((Int32.ofNat n1) + LN)), .unset, .unset, .unset, .unset, .unset] []))
    refine own_stepW (B := Tc.setTop (mkF m 148 #[.val (.long wa), .second, .val (.long wb), .second, .val (.int mode), .val (.int narrow), .val (.ref ac), .val (.ref an), .val (.int (Int32.ofNat n1)), .val (.int LN), .val (.int ((Int32.ofNat n1) + LN)), .unset, .unset, .unset, .unset, .unset] [(.int (12 : Int32))])) (fun t k => ?_) ?_
    · show Steps p.tables e below (Tc.setTop (mkF m 146 #[.val (.long wa), .second, .val (.long wb), .second, .val (.int mode), .val (.int narrow), .val (.ref ac), .val (.ref an), .val (.int (Int32.ofNat n1)), .val (.int LN), .val (.int ((Int32.ofNat n1) + LN)), .unset, .unset, .unset, .unset, .unset] [])) _
      refine XS.bipush Xc.here hx rfl (hb hby at_146) ?_
      exact k
    obtain ⟨T1, h1, k1, X1, e1, E1, A1, st1⟩ := newP Xc hx hZ (hw _ (List.mem_of_getElem? (i := 0) rfl)) ec (g := (mkF m 148 #[.val (.long wa), .second, .val (.long wb), .second, .val (.int mode), .val (.int narrow), .val (.ref ac), .val (.ref an), .val (.int (Int32.ofNat n1)), .val (.int LN), .val (.int ((Int32.ofNat n1) + LN)), .unset, .unset, .unset, .unset, .unset] [(.int (12 : Int32))])) rfl (hb hby at_148) rfl (by decide) (cap := 12) (by decide) (by decide) (by decide) (by decide)
    obtain ⟨b1, g1⟩ : ∃ z, z = hc.size := ⟨_, rfl⟩
    rw [← g1] at A1 st1
    have g_b1 : n0 ≤ b1 := Nat.le_trans (Nat.le_trans Z0 Kc.1) (Nat.le_of_eq g1.symm)
    have ne_ac_b1 : ac ≠ b1 := Nat.ne_of_lt (Nat.lt_of_lt_of_le Vc.lt (Nat.le_of_eq g1.symm))
    have ne_an_b1 : an ≠ b1 := Nat.ne_of_lt (Nat.lt_of_lt_of_le Vn.lt (Nat.le_of_eq g1.symm))
    have V_b1 : Arv Z h1 b1 k1 .char (12 : Int32) [(.int (0 : Int32)), (.int (0 : Int32)), (.int (0 : Int32)), (.int (0 : Int32)), (.int (0 : Int32)), (.int (0 : Int32)), (.int (0 : Int32)), (.int (0 : Int32)), (.int (0 : Int32)), (.int (0 : Int32)), (.int (0 : Int32)), (.int (0 : Int32))] (.int (0 : Int32)) := (Arv.new A1 (by decide)).pad (pad_rep [] (.int (0 : Int32)) 12)
    refine own_stepW st1 ?_
    show own_GoW p e below s _ _ _ (T1.setTop (mkF m 150 #[.val (.long wa), .second, .val (.long wb), .second, .val (.int mode), .val (.int narrow), .val (.ref ac), .val (.ref an), .val (.int (Int32.ofNat n1)), .val (.int LN), .val (.int ((Int32.ofNat n1) + LN)), .unset, .unset, .unset, .unset, .unset] [(.ref b1)]))
    refine own_stepW (B := T1.setTop (mkF m 154 #[.val (.long wa), .second, .val (.long wb), .second, .val (.int mode), .val (.int narrow), .val (.ref ac), .val (.ref an), .val (.int (Int32.ofNat n1)), .val (.int LN), .val (.int ((Int32.ofNat n1) + LN)), .unset, .unset, .unset, .unset, .unset] [(.int (55 : Int32)), (.int (0 : Int32)), (.ref b1), (.ref b1)])) (fun t k => ?_) ?_
    · show Steps p.tables e below (T1.setTop (mkF m 150 #[.val (.long wa), .second, .val (.long wb), .second, .val (.int mode), .val (.int narrow), .val (.ref ac), .val (.ref an), .val (.int (Int32.ofNat n1)), .val (.int LN), .val (.int ((Int32.ofNat n1) + LN)), .unset, .unset, .unset, .unset, .unset] [(.ref b1)])) _
      refine XS.dup X1.here hx rfl (hb hby at_150) rfl rfl ?_
      refine XS.iconst X1.here hx rfl (hb hby at_151) ?_
      refine XS.bipush X1.here hx rfl (hb hby at_152) ?_
      exact k
    obtain ⟨cl2, Ar2, q2, S2, NN2, Hs2, G2⟩ := V_b1
    have hin2 : ¬ ((0 : Int32) < 0 ∨ cl2.slots.size ≤ ((0 : Int32)).toNatClampNeg) := inb_of S2 ⟨by decide, by decide⟩
    obtain ⟨T2, h2, X2, e2, W2, st2⟩ := stC X1 hx hZ e1 Ar2 (j := (0 : Int32)) hin2 (g := (mkF m 154 #[.val (.long wa), .second, .val (.long wb), .second, .val (.int mode), .val (.int narrow), .val (.ref ac), .val (.ref an), .val (.int (Int32.ofNat n1)), .val (.int LN), .val (.int ((Int32.ofNat n1) + LN)), .unset, .unset, .unset, .unset, .unset] [(.int (55 : Int32)), (.int (0 : Int32)), (.ref b1), (.ref b1)])) rfl rfl (hb hby at_154)
    have V2 : Arv Z h2 b1 k1 .char (12 : Int32) [(.int (55 : Int32)), (.int (0 : Int32)), (.int (0 : Int32)), (.int (0 : Int32)), (.int (0 : Int32)), (.int (0 : Int32)), (.int (0 : Int32)), (.int (0 : Int32)), (.int (0 : Int32)), (.int (0 : Int32)), (.int (0 : Int32)), (.int (0 : Int32))] (.int (0 : Int32)) := Arv.set Ar2 q2 S2 NN2 Hs2 G2 (fits_nar_char _) W2 0 rfl (Nat.le_of_ble_eq_true rfl)
    have N2 := Fr.snoc X2 Nc g_b1
    refine own_stepW st2 ?_
    show own_GoW p e below s _ _ _ (T2.setTop (mkF m 155 #[.val (.long wa), .second, .val (.long wb), .second, .val (.int mode), .val (.int narrow), .val (.ref ac), .val (.ref an), .val (.int (Int32.ofNat n1)), .val (.int LN), .val (.int ((Int32.ofNat n1) + LN)), .unset, .unset, .unset, .unset, .unset] [(.ref b1)]))
    refine own_stepW (B := T2.setTop (mkF m 159 #[.val (.long wa), .second, .val (.long wb), .second, .val (.int mode), .val (.int narrow), .val (.ref ac), .val (.ref an), .val (.int (Int32.ofNat n1)), .val (.int LN), .val (.int ((Int32.ofNat n1) + LN)), .unset, .unset, .unset, .unset, .unset] [(.int (55 : Int32)), (.int (1 : Int32)), (.ref b1), (.ref b1)])) (fun t k => ?_) ?_
    · show Steps p.tables e below (T2.setTop (mkF m 155 #[.val (.long wa), .second, .val (.long wb), .second, .val (.int mode), .val (.int narrow), .val (.ref ac), .val (.ref an), .val (.int (Int32.ofNat n1)), .val (.int LN), .val (.int ((Int32.ofNat n1) + LN)), .unset, .unset, .unset, .unset, .unset] [(.ref b1)])) _
      refine XS.dup X2.here hx rfl (hb hby at_155) rfl rfl ?_
      refine XS.iconst X2.here hx rfl (hb hby at_156) ?_
      refine XS.bipush X2.here hx rfl (hb hby at_157) ?_
      exact k
    obtain ⟨cl3, Ar3, q3, S3, NN3, Hs3, G3⟩ := V2
    have hin3 : ¬ ((1 : Int32) < 0 ∨ cl3.slots.size ≤ ((1 : Int32)).toNatClampNeg) := inb_of S3 ⟨by decide, by decide⟩
    obtain ⟨T3, h3, X3, e3, W3, st3⟩ := stC X2 hx hZ e2 Ar3 (j := (1 : Int32)) hin3 (g := (mkF m 159 #[.val (.long wa), .second, .val (.long wb), .second, .val (.int mode), .val (.int narrow), .val (.ref ac), .val (.ref an), .val (.int (Int32.ofNat n1)), .val (.int LN), .val (.int ((Int32.ofNat n1) + LN)), .unset, .unset, .unset, .unset, .unset] [(.int (55 : Int32)), (.int (1 : Int32)), (.ref b1), (.ref b1)])) rfl rfl (hb hby at_159)
    have V3 : Arv Z h3 b1 k1 .char (12 : Int32) [(.int (55 : Int32)), (.int (55 : Int32)), (.int (0 : Int32)), (.int (0 : Int32)), (.int (0 : Int32)), (.int (0 : Int32)), (.int (0 : Int32)), (.int (0 : Int32)), (.int (0 : Int32)), (.int (0 : Int32)), (.int (0 : Int32)), (.int (0 : Int32))] (.int (0 : Int32)) := Arv.set Ar3 q3 S3 NN3 Hs3 G3 (fits_nar_char _) W3 1 rfl (Nat.le_of_ble_eq_true rfl)
    have N3 := Fr.snoc X3 N2 g_b1
    refine own_stepW st3 ?_
    show own_GoW p e below s _ _ _ (T3.setTop (mkF m 160 #[.val (.long wa), .second, .val (.long wb), .second, .val (.int mode), .val (.int narrow), .val (.ref ac), .val (.ref an), .val (.int (Int32.ofNat n1)), .val (.int LN), .val (.int ((Int32.ofNat n1) + LN)), .unset, .unset, .unset, .unset, .unset] [(.ref b1)]))
    refine own_stepW (B := T3.setTop (mkF m 164 #[.val (.long wa), .second, .val (.long wb), .second, .val (.int mode), .val (.int narrow), .val (.ref ac), .val (.ref an), .val (.int (Int32.ofNat n1)), .val (.int LN), .val (.int ((Int32.ofNat n1) + LN)), .unset, .unset, .unset, .unset, .unset] [(.int (55 : Int32)), (.int (2 : Int32)), (.ref b1), (.ref b1)])) (fun t k => ?_) ?_
    · show Steps p.tables e below (T3.setTop (mkF m 160 #[.val (.long wa), .second, .val (.long wb), .second, .val (.int mode), .val (.int narrow), .val (.ref ac), .val (.ref an), .val (.int (Int32.ofNat n1)), .val (.int LN), .val (.int ((Int32.ofNat n1) + LN)), .unset, .unset, .unset, .unset, .unset] [(.ref b1)])) _
      refine XS.dup X3.here hx rfl (hb hby at_160) rfl rfl ?_
      refine XS.iconst X3.here hx rfl (hb hby at_161) ?_
      refine XS.bipush X3.here hx rfl (hb hby at_162) ?_
      exact k
    obtain ⟨cl4, Ar4, q4, S4, NN4, Hs4, G4⟩ := V3
    have hin4 : ¬ ((2 : Int32) < 0 ∨ cl4.slots.size ≤ ((2 : Int32)).toNatClampNeg) := inb_of S4 ⟨by decide, by decide⟩
    obtain ⟨T4, h4, X4, e4, W4, st4⟩ := stC X3 hx hZ e3 Ar4 (j := (2 : Int32)) hin4 (g := (mkF m 164 #[.val (.long wa), .second, .val (.long wb), .second, .val (.int mode), .val (.int narrow), .val (.ref ac), .val (.ref an), .val (.int (Int32.ofNat n1)), .val (.int LN), .val (.int ((Int32.ofNat n1) + LN)), .unset, .unset, .unset, .unset, .unset] [(.int (55 : Int32)), (.int (2 : Int32)), (.ref b1), (.ref b1)])) rfl rfl (hb hby at_164)
    have V4 : Arv Z h4 b1 k1 .char (12 : Int32) [(.int (55 : Int32)), (.int (55 : Int32)), (.int (55 : Int32)), (.int (0 : Int32)), (.int (0 : Int32)), (.int (0 : Int32)), (.int (0 : Int32)), (.int (0 : Int32)), (.int (0 : Int32)), (.int (0 : Int32)), (.int (0 : Int32)), (.int (0 : Int32))] (.int (0 : Int32)) := Arv.set Ar4 q4 S4 NN4 Hs4 G4 (fits_nar_char _) W4 2 rfl (Nat.le_of_ble_eq_true rfl)
    have N4 := Fr.snoc X4 N3 g_b1
    refine own_stepW st4 ?_
    show own_GoW p e below s _ _ _ (T4.setTop (mkF m 165 #[.val (.long wa), .second, .val (.long wb), .second, .val (.int mode), .val (.int narrow), .val (.ref ac), .val (.ref an), .val (.int (Int32.ofNat n1)), .val (.int LN), .val (.int ((Int32.ofNat n1) + LN)), .unset, .unset, .unset, .unset, .unset] [(.ref b1)]))
    refine own_stepW (B := T4.setTop (mkF m 169 #[.val (.long wa), .second, .val (.long wb), .second, .val (.int mode), .val (.int narrow), .val (.ref ac), .val (.ref an), .val (.int (Int32.ofNat n1)), .val (.int LN), .val (.int ((Int32.ofNat n1) + LN)), .unset, .unset, .unset, .unset, .unset] [(.int (55 : Int32)), (.int (3 : Int32)), (.ref b1), (.ref b1)])) (fun t k => ?_) ?_
    · show Steps p.tables e below (T4.setTop (mkF m 165 #[.val (.long wa), .second, .val (.long wb), .second, .val (.int mode), .val (.int narrow), .val (.ref ac), .val (.ref an), .val (.int (Int32.ofNat n1)), .val (.int LN), .val (.int ((Int32.ofNat n1) + LN)), .unset, .unset, .unset, .unset, .unset] [(.ref b1)])) _
      refine XS.dup X4.here hx rfl (hb hby at_165) rfl rfl ?_
      refine XS.iconst X4.here hx rfl (hb hby at_166) ?_
      refine XS.bipush X4.here hx rfl (hb hby at_167) ?_
      exact k
    obtain ⟨cl5, Ar5, q5, S5, NN5, Hs5, G5⟩ := V4
    have hin5 : ¬ ((3 : Int32) < 0 ∨ cl5.slots.size ≤ ((3 : Int32)).toNatClampNeg) := inb_of S5 ⟨by decide, by decide⟩
    obtain ⟨T5, h5, X5, e5, W5, st5⟩ := stC X4 hx hZ e4 Ar5 (j := (3 : Int32)) hin5 (g := (mkF m 169 #[.val (.long wa), .second, .val (.long wb), .second, .val (.int mode), .val (.int narrow), .val (.ref ac), .val (.ref an), .val (.int (Int32.ofNat n1)), .val (.int LN), .val (.int ((Int32.ofNat n1) + LN)), .unset, .unset, .unset, .unset, .unset] [(.int (55 : Int32)), (.int (3 : Int32)), (.ref b1), (.ref b1)])) rfl rfl (hb hby at_169)
    have V5 : Arv Z h5 b1 k1 .char (12 : Int32) [(.int (55 : Int32)), (.int (55 : Int32)), (.int (55 : Int32)), (.int (55 : Int32)), (.int (0 : Int32)), (.int (0 : Int32)), (.int (0 : Int32)), (.int (0 : Int32)), (.int (0 : Int32)), (.int (0 : Int32)), (.int (0 : Int32)), (.int (0 : Int32))] (.int (0 : Int32)) := Arv.set Ar5 q5 S5 NN5 Hs5 G5 (fits_nar_char _) W5 3 rfl (Nat.le_of_ble_eq_true rfl)
    have N5 := Fr.snoc X5 N4 g_b1
    refine own_stepW st5 ?_
    show own_GoW p e below s _ _ _ (T5.setTop (mkF m 170 #[.val (.long wa), .second, .val (.long wb), .second, .val (.int mode), .val (.int narrow), .val (.ref ac), .val (.ref an), .val (.int (Int32.ofNat n1)), .val (.int LN), .val (.int ((Int32.ofNat n1) + LN)), .unset, .unset, .unset, .unset, .unset] [(.ref b1)]))
    refine own_stepW (B := T5.setTop (mkF m 174 #[.val (.long wa), .second, .val (.long wb), .second, .val (.int mode), .val (.int narrow), .val (.ref ac), .val (.ref an), .val (.int (Int32.ofNat n1)), .val (.int LN), .val (.int ((Int32.ofNat n1) + LN)), .unset, .unset, .unset, .unset, .unset] [(.int (55 : Int32)), (.int (4 : Int32)), (.ref b1), (.ref b1)])) (fun t k => ?_) ?_
    · show Steps p.tables e below (T5.setTop (mkF m 170 #[.val (.long wa), .second, .val (.long wb), .second, .val (.int mode), .val (.int narrow), .val (.ref ac), .val (.ref an), .val (.int (Int32.ofNat n1)), .val (.int LN), .val (.int ((Int32.ofNat n1) + LN)), .unset, .unset, .unset, .unset, .unset] [(.ref b1)])) _
      refine XS.dup X5.here hx rfl (hb hby at_170) rfl rfl ?_
      refine XS.iconst X5.here hx rfl (hb hby at_171) ?_
      refine XS.bipush X5.here hx rfl (hb hby at_172) ?_
      exact k
    obtain ⟨cl6, Ar6, q6, S6, NN6, Hs6, G6⟩ := V5
    have hin6 : ¬ ((4 : Int32) < 0 ∨ cl6.slots.size ≤ ((4 : Int32)).toNatClampNeg) := inb_of S6 ⟨by decide, by decide⟩
    obtain ⟨T6, h6, X6, e6, W6, st6⟩ := stC X5 hx hZ e5 Ar6 (j := (4 : Int32)) hin6 (g := (mkF m 174 #[.val (.long wa), .second, .val (.long wb), .second, .val (.int mode), .val (.int narrow), .val (.ref ac), .val (.ref an), .val (.int (Int32.ofNat n1)), .val (.int LN), .val (.int ((Int32.ofNat n1) + LN)), .unset, .unset, .unset, .unset, .unset] [(.int (55 : Int32)), (.int (4 : Int32)), (.ref b1), (.ref b1)])) rfl rfl (hb hby at_174)
    have V6 : Arv Z h6 b1 k1 .char (12 : Int32) [(.int (55 : Int32)), (.int (55 : Int32)), (.int (55 : Int32)), (.int (55 : Int32)), (.int (55 : Int32)), (.int (0 : Int32)), (.int (0 : Int32)), (.int (0 : Int32)), (.int (0 : Int32)), (.int (0 : Int32)), (.int (0 : Int32)), (.int (0 : Int32))] (.int (0 : Int32)) := Arv.set Ar6 q6 S6 NN6 Hs6 G6 (fits_nar_char _) W6 4 rfl (Nat.le_of_ble_eq_true rfl)
    have N6 := Fr.snoc X6 N5 g_b1
    refine own_stepW st6 ?_
    show own_GoW p e below s _ _ _ (T6.setTop (mkF m 175 #[.val (.long wa), .second, .val (.long wb), .second, .val (.int mode), .val (.int narrow), .val (.ref ac), .val (.ref an), .val (.int (Int32.ofNat n1)), .val (.int LN), .val (.int ((Int32.ofNat n1) + LN)), .unset, .unset, .unset, .unset, .unset] [(.ref b1)]))
    refine own_stepW (B := T6.setTop (mkF m 179 #[.val (.long wa), .second, .val (.long wb), .second, .val (.int mode), .val (.int narrow), .val (.ref ac), .val (.ref an), .val (.int (Int32.ofNat n1)), .val (.int LN), .val (.int ((Int32.ofNat n1) + LN)), .unset, .unset, .unset, .unset, .unset] [(.int (55 : Int32)), (.int (5 : Int32)), (.ref b1), (.ref b1)])) (fun t k => ?_) ?_
    · show Steps p.tables e below (T6.setTop (mkF m 175 #[.val (.long wa), .second, .val (.long wb), .second, .val (.int mode), .val (.int narrow), .val (.ref ac), .val (.ref an), .val (.int (Int32.ofNat n1)), .val (.int LN), .val (.int ((Int32.ofNat n1) + LN)), .unset, .unset, .unset, .unset, .unset] [(.ref b1)])) _
      refine XS.dup X6.here hx rfl (hb hby at_175) rfl rfl ?_
      refine XS.iconst X6.here hx rfl (hb hby at_176) ?_
      refine XS.bipush X6.here hx rfl (hb hby at_177) ?_
      exact k
    obtain ⟨cl7, Ar7, q7, S7, NN7, Hs7, G7⟩ := V6
    have hin7 : ¬ ((5 : Int32) < 0 ∨ cl7.slots.size ≤ ((5 : Int32)).toNatClampNeg) := inb_of S7 ⟨by decide, by decide⟩
    obtain ⟨T7, h7, X7, e7, W7, st7⟩ := stC X6 hx hZ e6 Ar7 (j := (5 : Int32)) hin7 (g := (mkF m 179 #[.val (.long wa), .second, .val (.long wb), .second, .val (.int mode), .val (.int narrow), .val (.ref ac), .val (.ref an), .val (.int (Int32.ofNat n1)), .val (.int LN), .val (.int ((Int32.ofNat n1) + LN)), .unset, .unset, .unset, .unset, .unset] [(.int (55 : Int32)), (.int (5 : Int32)), (.ref b1), (.ref b1)])) rfl rfl (hb hby at_179)
    have V7 : Arv Z h7 b1 k1 .char (12 : Int32) [(.int (55 : Int32)), (.int (55 : Int32)), (.int (55 : Int32)), (.int (55 : Int32)), (.int (55 : Int32)), (.int (55 : Int32)), (.int (0 : Int32)), (.int (0 : Int32)), (.int (0 : Int32)), (.int (0 : Int32)), (.int (0 : Int32)), (.int (0 : Int32))] (.int (0 : Int32)) := Arv.set Ar7 q7 S7 NN7 Hs7 G7 (fits_nar_char _) W7 5 rfl (Nat.le_of_ble_eq_true rfl)
    have N7 := Fr.snoc X7 N6 g_b1
    refine own_stepW st7 ?_
    show own_GoW p e below s _ _ _ (T7.setTop (mkF m 180 #[.val (.long wa), .second, .val (.long wb), .second, .val (.int mode), .val (.int narrow), .val (.ref ac), .val (.ref an), .val (.int (Int32.ofNat n1)), .val (.int LN), .val (.int ((Int32.ofNat n1) + LN)), .unset, .unset, .unset, .unset, .unset] [(.ref b1)]))
    refine own_stepW (B := T7.setTop (mkF m 185 #[.val (.long wa), .second, .val (.long wb), .second, .val (.int mode), .val (.int narrow), .val (.ref ac), .val (.ref an), .val (.int (Int32.ofNat n1)), .val (.int LN), .val (.int ((Int32.ofNat n1) + LN)), .unset, .unset, .unset, .unset, .unset] [(.int (55 : Int32)), (.int (6 : Int32)), (.ref b1), (.ref b1)])) (fun t k => ?_) ?_
    · show Steps p.tables e below (T7.setTop (mkF m 180 #[.val (.long wa), .second, .val (.long wb), .second, .val (.int mode), .val (.int narrow), .val (.ref ac), .val (.ref an), .val (.int (Int32.ofNat n1)), .val (.int LN), .val (.int ((Int32.ofNat n1) + LN)), .unset, .unset, .unset, .unset, .unset] [(.ref b1)])) _
      refine XS.dup X7.here hx rfl (hb hby at_180) rfl rfl ?_
      refine XS.bipush X7.here hx rfl (hb hby at_181) ?_
      refine XS.bipush X7.here hx rfl (hb hby at_183) ?_
      exact k
    obtain ⟨cl8, Ar8, q8, S8, NN8, Hs8, G8⟩ := V7
    have hin8 : ¬ ((6 : Int32) < 0 ∨ cl8.slots.size ≤ ((6 : Int32)).toNatClampNeg) := inb_of S8 ⟨by decide, by decide⟩
    obtain ⟨T8, h8, X8, e8, W8, st8⟩ := stC X7 hx hZ e7 Ar8 (j := (6 : Int32)) hin8 (g := (mkF m 185 #[.val (.long wa), .second, .val (.long wb), .second, .val (.int mode), .val (.int narrow), .val (.ref ac), .val (.ref an), .val (.int (Int32.ofNat n1)), .val (.int LN), .val (.int ((Int32.ofNat n1) + LN)), .unset, .unset, .unset, .unset, .unset] [(.int (55 : Int32)), (.int (6 : Int32)), (.ref b1), (.ref b1)])) rfl rfl (hb hby at_185)
    have V8 : Arv Z h8 b1 k1 .char (12 : Int32) [(.int (55 : Int32)), (.int (55 : Int32)), (.int (55 : Int32)), (.int (55 : Int32)), (.int (55 : Int32)), (.int (55 : Int32)), (.int (55 : Int32)), (.int (0 : Int32)), (.int (0 : Int32)), (.int (0 : Int32)), (.int (0 : Int32)), (.int (0 : Int32))] (.int (0 : Int32)) := Arv.set Ar8 q8 S8 NN8 Hs8 G8 (fits_nar_char _) W8 6 rfl (Nat.le_of_ble_eq_true rfl)
    have N8 := Fr.snoc X8 N7 g_b1
    refine own_stepW st8 ?_
    show own_GoW p e below s _ _ _ (T8.setTop (mkF m 186 #[.val (.long wa), .second, .val (.long wb), .second, .val (.int mode), .val (.int narrow), .val (.ref ac), .val (.ref an), .val (.int (Int32.ofNat n1)), .val (.int LN), .val (.int ((Int32.ofNat n1) + LN)), .unset, .unset, .unset, .unset, .unset] [(.ref b1)]))
    refine own_stepW (B := T8.setTop (mkF m 191 #[.val (.long wa), .second, .val (.long wb), .second, .val (.int mode), .val (.int narrow), .val (.ref ac), .val (.ref an), .val (.int (Int32.ofNat n1)), .val (.int LN), .val (.int ((Int32.ofNat n1) + LN)), .unset, .unset, .unset, .unset, .unset] [(.int (55 : Int32)), (.int (7 : Int32)), (.ref b1), (.ref b1)])) (fun t k => ?_) ?_
    · show Steps p.tables e below (T8.setTop (mkF m 186 #[.val (.long wa), .second, .val (.long wb), .second, .val (.int mode), .val (.int narrow), .val (.ref ac), .val (.ref an), .val (.int (Int32.ofNat n1)), .val (.int LN), .val (.int ((Int32.ofNat n1) + LN)), .unset, .unset, .unset, .unset, .unset] [(.ref b1)])) _
      refine XS.dup X8.here hx rfl (hb hby at_186) rfl rfl ?_
      refine XS.bipush X8.here hx rfl (hb hby at_187) ?_
      refine XS.bipush X8.here hx rfl (hb hby at_189) ?_
      exact k
    obtain ⟨cl9, Ar9, q9, S9, NN9, Hs9, G9⟩ := V8
    have hin9 : ¬ ((7 : Int32) < 0 ∨ cl9.slots.size ≤ ((7 : Int32)).toNatClampNeg) := inb_of S9 ⟨by decide, by decide⟩
    obtain ⟨T9, h9, X9, e9, W9, st9⟩ := stC X8 hx hZ e8 Ar9 (j := (7 : Int32)) hin9 (g := (mkF m 191 #[.val (.long wa), .second, .val (.long wb), .second, .val (.int mode), .val (.int narrow), .val (.ref ac), .val (.ref an), .val (.int (Int32.ofNat n1)), .val (.int LN), .val (.int ((Int32.ofNat n1) + LN)), .unset, .unset, .unset, .unset, .unset] [(.int (55 : Int32)), (.int (7 : Int32)), (.ref b1), (.ref b1)])) rfl rfl (hb hby at_191)
    have V9 : Arv Z h9 b1 k1 .char (12 : Int32) [(.int (55 : Int32)), (.int (55 : Int32)), (.int (55 : Int32)), (.int (55 : Int32)), (.int (55 : Int32)), (.int (55 : Int32)), (.int (55 : Int32)), (.int (55 : Int32)), (.int (0 : Int32)), (.int (0 : Int32)), (.int (0 : Int32)), (.int (0 : Int32))] (.int (0 : Int32)) := Arv.set Ar9 q9 S9 NN9 Hs9 G9 (fits_nar_char _) W9 7 rfl (Nat.le_of_ble_eq_true rfl)
    have N9 := Fr.snoc X9 N8 g_b1
    refine own_stepW st9 ?_
    show own_GoW p e below s _ _ _ (T9.setTop (mkF m 192 #[.val (.long wa), .second, .val (.long wb), .second, .val (.int mode), .val (.int narrow), .val (.ref ac), .val (.ref an), .val (.int (Int32.ofNat n1)), .val (.int LN), .val (.int ((Int32.ofNat n1) + LN)), .unset, .unset, .unset, .unset, .unset] [(.ref b1)]))
    refine own_stepW (B := T9.setTop (mkF m 197 #[.val (.long wa), .second, .val (.long wb), .second, .val (.int mode), .val (.int narrow), .val (.ref ac), .val (.ref an), .val (.int (Int32.ofNat n1)), .val (.int LN), .val (.int ((Int32.ofNat n1) + LN)), .unset, .unset, .unset, .unset, .unset] [(.int (55 : Int32)), (.int (8 : Int32)), (.ref b1), (.ref b1)])) (fun t k => ?_) ?_
    · show Steps p.tables e below (T9.setTop (mkF m 192 #[.val (.long wa), .second, .val (.long wb), .second, .val (.int mode), .val (.int narrow), .val (.ref ac), .val (.ref an), .val (.int (Int32.ofNat n1)), .val (.int LN), .val (.int ((Int32.ofNat n1) + LN)), .unset, .unset, .unset, .unset, .unset] [(.ref b1)])) _
      refine XS.dup X9.here hx rfl (hb hby at_192) rfl rfl ?_
      refine XS.bipush X9.here hx rfl (hb hby at_193) ?_
      refine XS.bipush X9.here hx rfl (hb hby at_195) ?_
      exact k
    obtain ⟨cl10, Ar10, q10, S10, NN10, Hs10, G10⟩ := V9
    have hin10 : ¬ ((8 : Int32) < 0 ∨ cl10.slots.size ≤ ((8 : Int32)).toNatClampNeg) := inb_of S10 ⟨by decide, by decide⟩
    obtain ⟨T10, h10, X10, e10, W10, st10⟩ := stC X9 hx hZ e9 Ar10 (j := (8 : Int32)) hin10 (g := (mkF m 197 #[.val (.long wa), .second, .val (.long wb), .second, .val (.int mode), .val (.int narrow), .val (.ref ac), .val (.ref an), .val (.int (Int32.ofNat n1)), .val (.int LN), .val (.int ((Int32.ofNat n1) + LN)), .unset, .unset, .unset, .unset, .unset] [(.int (55 : Int32)), (.int (8 : Int32)), (.ref b1), (.ref b1)])) rfl rfl (hb hby at_197)
    have V10 : Arv Z h10 b1 k1 .char (12 : Int32) [(.int (55 : Int32)), (.int (55 : Int32)), (.int (55 : Int32)), (.int (55 : Int32)), (.int (55 : Int32)), (.int (55 : Int32)), (.int (55 : Int32)), (.int (55 : Int32)), (.int (55 : Int32)), (.int (0 : Int32)), (.int (0 : Int32)), (.int (0 : Int32))] (.int (0 : Int32)) := Arv.set Ar10 q10 S10 NN10 Hs10 G10 (fits_nar_char _) W10 8 rfl (Nat.le_of_ble_eq_true rfl)
    have N10 := Fr.snoc X10 N9 g_b1
    refine own_stepW st10 ?_
    show own_GoW p e below s _ _ _ (T10.setTop (mkF m 198 #[.val (.long wa), .second, .val (.long wb), .second, .val (.int mode), .val (.int narrow), .val (.ref ac), .val (.ref an), .val (.int (Int32.ofNat n1)), .val (.int LN), .val (.int ((Int32.ofNat n1) + LN)), .unset, .unset, .unset, .unset, .unset] [(.ref b1)]))
    refine own_stepW (B := T10.setTop (mkF m 203 #[.val (.long wa), .second, .val (.long wb), .second, .val (.int mode), .val (.int narrow), .val (.ref ac), .val (.ref an), .val (.int (Int32.ofNat n1)), .val (.int LN), .val (.int ((Int32.ofNat n1) + LN)), .unset, .unset, .unset, .unset, .unset] [(.int (55 : Int32)), (.int (9 : Int32)), (.ref b1), (.ref b1)])) (fun t k => ?_) ?_
    · show Steps p.tables e below (T10.setTop (mkF m 198 #[.val (.long wa), .second, .val (.long wb), .second, .val (.int mode), .val (.int narrow), .val (.ref ac), .val (.ref an), .val (.int (Int32.ofNat n1)), .val (.int LN), .val (.int ((Int32.ofNat n1) + LN)), .unset, .unset, .unset, .unset, .unset] [(.ref b1)])) _
      refine XS.dup X10.here hx rfl (hb hby at_198) rfl rfl ?_
      refine XS.bipush X10.here hx rfl (hb hby at_199) ?_
      refine XS.bipush X10.here hx rfl (hb hby at_201) ?_
      exact k
    obtain ⟨cl11, Ar11, q11, S11, NN11, Hs11, G11⟩ := V10
    have hin11 : ¬ ((9 : Int32) < 0 ∨ cl11.slots.size ≤ ((9 : Int32)).toNatClampNeg) := inb_of S11 ⟨by decide, by decide⟩
    obtain ⟨T11, h11, X11, e11, W11, st11⟩ := stC X10 hx hZ e10 Ar11 (j := (9 : Int32)) hin11 (g := (mkF m 203 #[.val (.long wa), .second, .val (.long wb), .second, .val (.int mode), .val (.int narrow), .val (.ref ac), .val (.ref an), .val (.int (Int32.ofNat n1)), .val (.int LN), .val (.int ((Int32.ofNat n1) + LN)), .unset, .unset, .unset, .unset, .unset] [(.int (55 : Int32)), (.int (9 : Int32)), (.ref b1), (.ref b1)])) rfl rfl (hb hby at_203)
    have V11 : Arv Z h11 b1 k1 .char (12 : Int32) [(.int (55 : Int32)), (.int (55 : Int32)), (.int (55 : Int32)), (.int (55 : Int32)), (.int (55 : Int32)), (.int (55 : Int32)), (.int (55 : Int32)), (.int (55 : Int32)), (.int (55 : Int32)), (.int (55 : Int32)), (.int (0 : Int32)), (.int (0 : Int32))] (.int (0 : Int32)) := Arv.set Ar11 q11 S11 NN11 Hs11 G11 (fits_nar_char _) W11 9 rfl (Nat.le_of_ble_eq_true rfl)
    have N11 := Fr.snoc X11 N10 g_b1
    refine own_stepW st11 ?_
    show own_GoW p e below s _ _ _ (T11.setTop (mkF m 204 #[.val (.long wa), .second, .val (.long wb), .second, .val (.int mode), .val (.int narrow), .val (.ref ac), .val (.ref an), .val (.int (Int32.ofNat n1)), .val (.int LN), .val (.int ((Int32.ofNat n1) + LN)), .unset, .unset, .unset, .unset, .unset] [(.ref b1)]))
    refine own_stepW (B := T11.setTop (mkF m 209 #[.val (.long wa), .second, .val (.long wb), .second, .val (.int mode), .val (.int narrow), .val (.ref ac), .val (.ref an), .val (.int (Int32.ofNat n1)), .val (.int LN), .val (.int ((Int32.ofNat n1) + LN)), .unset, .unset, .unset, .unset, .unset] [(.int (55 : Int32)), (.int (10 : Int32)), (.ref b1), (.ref b1)])) (fun t k => ?_) ?_
    · show Steps p.tables e below (T11.setTop (mkF m 204 #[.val (.long wa), .second, .val (.long wb), .second, .val (.int mode), .val (.int narrow), .val (.ref ac), .val (.ref an), .val (.int (Int32.ofNat n1)), .val (.int LN), .val (.int ((Int32.ofNat n1) + LN)), .unset, .unset, .unset, .unset, .unset] [(.ref b1)])) _
      refine XS.dup X11.here hx rfl (hb hby at_204) rfl rfl ?_
      refine XS.bipush X11.here hx rfl (hb hby at_205) ?_
      refine XS.bipush X11.here hx rfl (hb hby at_207) ?_
      exact k
    obtain ⟨cl12, Ar12, q12, S12, NN12, Hs12, G12⟩ := V11
    have hin12 : ¬ ((10 : Int32) < 0 ∨ cl12.slots.size ≤ ((10 : Int32)).toNatClampNeg) := inb_of S12 ⟨by decide, by decide⟩
    obtain ⟨T12, h12, X12, e12, W12, st12⟩ := stC X11 hx hZ e11 Ar12 (j := (10 : Int32)) hin12 (g := (mkF m 209 #[.val (.long wa), .second, .val (.long wb), .second, .val (.int mode), .val (.int narrow), .val (.ref ac), .val (.ref an), .val (.int (Int32.ofNat n1)), .val (.int LN), .val (.int ((Int32.ofNat n1) + LN)), .unset, .unset, .unset, .unset, .unset] [(.int (55 : Int32)), (.int (10 : Int32)), (.ref b1), (.ref b1)])) rfl rfl (hb hby at_209)
    have V12 : Arv Z h12 b1 k1 .char (12 : Int32) [(.int (55 : Int32)), (.int (55 : Int32)), (.int (55 : Int32)), (.int (55 : Int32)), (.int (55 : Int32)), (.int (55 : Int32)), (.int (55 : Int32)), (.int (55 : Int32)), (.int (55 : Int32)), (.int (55 : Int32)), (.int (55 : Int32)), (.int (0 : Int32))] (.int (0 : Int32)) := Arv.set Ar12 q12 S12 NN12 Hs12 G12 (fits_nar_char _) W12 10 rfl (Nat.le_of_ble_eq_true rfl)
    have N12 := Fr.snoc X12 N11 g_b1
    refine own_stepW st12 ?_
    show own_GoW p e below s _ _ _ (T12.setTop (mkF m 210 #[.val (.long wa), .second, .val (.long wb), .second, .val (.int mode), .val (.int narrow), .val (.ref ac), .val (.ref an), .val (.int (Int32.ofNat n1)), .val (.int LN), .val (.int ((Int32.ofNat n1) + LN)), .unset, .unset, .unset, .unset, .unset] [(.ref b1)]))
    refine own_stepW (B := T12.setTop (mkF m 215 #[.val (.long wa), .second, .val (.long wb), .second, .val (.int mode), .val (.int narrow), .val (.ref ac), .val (.ref an), .val (.int (Int32.ofNat n1)), .val (.int LN), .val (.int ((Int32.ofNat n1) + LN)), .unset, .unset, .unset, .unset, .unset] [(.int (55 : Int32)), (.int (11 : Int32)), (.ref b1), (.ref b1)])) (fun t k => ?_) ?_
    · show Steps p.tables e below (T12.setTop (mkF m 210 #[.val (.long wa), .second, .val (.long wb), .second, .val (.int mode), .val (.int narrow), .val (.ref ac), .val (.ref an), .val (.int (Int32.ofNat n1)), .val (.int LN), .val (.int ((Int32.ofNat n1) + LN)), .unset, .unset, .unset, .unset, .unset] [(.ref b1)])) _
      refine XS.dup X12.here hx rfl (hb hby at_210) rfl rfl ?_
      refine XS.bipush X12.here hx rfl (hb hby at_211) ?_
      refine XS.bipush X12.here hx rfl (hb hby at_213) ?_
      exact k
    obtain ⟨cl13, Ar13, q13, S13, NN13, Hs13, G13⟩ := V12
    have hin13 : ¬ ((11 : Int32) < 0 ∨ cl13.slots.size ≤ ((11 : Int32)).toNatClampNeg) := inb_of S13 ⟨by decide, by decide⟩
    obtain ⟨T13, h13, X13, e13, W13, st13⟩ := stC X12 hx hZ e12 Ar13 (j := (11 : Int32)) hin13 (g := (mkF m 215 #[.val (.long wa), .second, .val (.long wb), .second, .val (.int mode), .val (.int narrow), .val (.ref ac), .val (.ref an), .val (.int (Int32.ofNat n1)), .val (.int LN), .val (.int ((Int32.ofNat n1) + LN)), .unset, .unset, .unset, .unset, .unset] [(.int (55 : Int32)), (.int (11 : Int32)), (.ref b1), (.ref b1)])) rfl rfl (hb hby at_215)
    have V13 : Arv Z h13 b1 k1 .char (12 : Int32) [(.int (55 : Int32)), (.int (55 : Int32)), (.int (55 : Int32)), (.int (55 : Int32)), (.int (55 : Int32)), (.int (55 : Int32)), (.int (55 : Int32)), (.int (55 : Int32)), (.int (55 : Int32)), (.int (55 : Int32)), (.int (55 : Int32)), (.int (55 : Int32))] (.int (0 : Int32)) := Arv.set Ar13 q13 S13 NN13 Hs13 G13 (fits_nar_char _) W13 11 rfl (Nat.le_of_ble_eq_true rfl)
    have N13 := Fr.snoc X13 N12 g_b1
    refine own_stepW st13 ?_
    show own_GoW p e below s _ _ _ (T13.setTop (mkF m 216 #[.val (.long wa), .second, .val (.long wb), .second, .val (.int mode), .val (.int narrow), .val (.ref ac), .val (.ref an), .val (.int (Int32.ofNat n1)), .val (.int LN), .val (.int ((Int32.ofNat n1) + LN)), .unset, .unset, .unset, .unset, .unset] [(.ref b1)]))
    refine own_stepW (B := T13.setTop (mkF m 225 #[.val (.long wa), .second, .val (.long wb), .second, .val (.int mode), .val (.int narrow), .val (.ref ac), .val (.ref an), .val (.int (Int32.ofNat n1)), .val (.int LN), .val (.int ((Int32.ofNat n1) + LN)), .val (.ref b1), .unset, .unset, .unset, .unset] [(.int (0 : Int32)), (.ref ac), (.int (Int32.ofNat n1)), (.ref b1)])) (fun t k => ?_) ?_
    · show Steps p.tables e below (T13.setTop (mkF m 216 #[.val (.long wa), .second, .val (.long wb), .second, .val (.int mode), .val (.int narrow), .val (.ref ac), .val (.ref an), .val (.int (Int32.ofNat n1)), .val (.int LN), .val (.int ((Int32.ofNat n1) + LN)), .unset, .unset, .unset, .unset, .unset] [(.ref b1)])) _
      refine XS.astore X13.here hx rfl (hb hby at_216) rfl rfl (l' := #[.val (.long wa), .second, .val (.long wb), .second, .val (.int mode), .val (.int narrow), .val (.ref ac), .val (.ref an), .val (.int (Int32.ofNat n1)), .val (.int LN), .val (.int ((Int32.ofNat n1) + LN)), .val (.ref b1), .unset, .unset, .unset, .unset]) rfl ?_
      refine XS.aload X13.here hx rfl (hb hby at_218) rfl rfl ?_
      refine XS.iload X13.here hx rfl (hb hby at_220) rfl ?_
      refine XS.aload X13.here hx rfl (hb hby at_222) rfl rfl ?_
      refine XS.iconst X13.here hx rfl (hb hby at_224) ?_
      exact k
    obtain ⟨cl14, Ar14, -, S14, NN14, Hs14, -⟩ := id ((((((((((((((Vc.ext E1).other W2 ne_ac_b1).other W3 ne_ac_b1).other W4 ne_ac_b1).other W5 ne_ac_b1).other W6 ne_ac_b1).other W7 ne_ac_b1).other W8 ne_ac_b1).other W9 ne_ac_b1).other W10 ne_ac_b1).other W11 ne_ac_b1).other W12 ne_ac_b1).other W13 ne_ac_b1))
    have hin14 : ¬ ((0 : Int32) < 0 ∨ cl14.slots.size ≤ ((0 : Int32)).toNatClampNeg) := inb_of S14 ⟨by decide, by decide⟩
    refine own_stepW (B := T13.setTop (mkF m 226 #[.val (.long wa), .second, .val (.long wb), .second, .val (.int mode), .val (.int narrow), .val (.ref ac), .val (.ref an), .val (.int (Int32.ofNat n1)), .val (.int LN), .val (.int ((Int32.ofNat n1) + LN)), .val (.ref b1), .unset, .unset, .unset, .unset] [(.int x0), (.int (Int32.ofNat n1)), (.ref b1)])) (fun t k => ?_) ?_
    · show Steps p.tables e below (T13.setTop (mkF m 225 #[.val (.long wa), .second, .val (.long wb), .second, .val (.int mode), .val (.int narrow), .val (.ref ac), .val (.ref an), .val (.int (Int32.ofNat n1)), .val (.int LN), .val (.int ((Int32.ofNat n1) + LN)), .val (.ref b1), .unset, .unset, .unset, .unset] [(.int (0 : Int32)), (.ref ac), (.int (Int32.ofNat n1)), (.ref b1)])) _
      refine X13.caload hx (j := (0 : Int32)) (v := (.int x0)) (by rw [e13]; exact Ar14.1) (State.isArrayOf_alike hZ.alike Ar14.2.1) Ar14.2.2 hin14 (Has.at Hs14 hin14 rfl) (g := (mkF m 225 #[.val (.long wa), .second, .val (.long wb), .second, .val (.int mode), .val (.int narrow), .val (.ref ac), .val (.ref an), .val (.int (Int32.ofNat n1)), .val (.int LN), .val (.int ((Int32.ofNat n1) + LN)), .val (.ref b1), .unset, .unset, .unset, .unset] [(.int (0 : Int32)), (.ref ac), (.int (Int32.ofNat n1)), (.ref b1)])) rfl rfl (hb hby at_225) _ ?_
      exact k
    have ei15 : ((Int32.ofNat n1)).toNatClampNeg = n1 + 0 := own_nat (by omega)
    obtain ⟨cl15, Ar15, q15, S15, NN15, Hs15, G15⟩ := id (V13)
    have hin15 : ¬ ((Int32.ofNat n1) < 0 ∨ cl15.slots.size ≤ ((Int32.ofNat n1)).toNatClampNeg) := inb_of S15 (own_b12 ei15 (by omega) (own_n0 (by omega)))
    obtain ⟨T15, h15, X15, e15, W15, st15⟩ := stC X13 hx hZ e13 Ar15 (j := (Int32.ofNat n1)) hin15 (g := (mkF m 226 #[.val (.long wa), .second, .val (.long wb), .second, .val (.int mode), .val (.int narrow), .val (.ref ac), .val (.ref an), .val (.int (Int32.ofNat n1)), .val (.int LN), .val (.int ((Int32.ofNat n1) + LN)), .val (.ref b1), .unset, .unset, .unset, .unset] [(.int x0), (.int (Int32.ofNat n1)), (.ref b1)])) rfl rfl (hb hby at_226)
    have V15 := Arv.set Ar15 q15 S15 NN15 Hs15 G15 (fits_nar_char _) W15 (n1 + 0) ei15 (by (try simp only [List.length_set]); show n1 + 0 < 12; omega)
    have N15 := Fr.snoc X15 N13 g_b1
    refine own_stepW st15 ?_
    show own_GoW p e below s _ _ _ (T15.setTop (mkF m 227 #[.val (.long wa), .second, .val (.long wb), .second, .val (.int mode), .val (.int narrow), .val (.ref ac), .val (.ref an), .val (.int (Int32.ofNat n1)), .val (.int LN), .val (.int ((Int32.ofNat n1) + LN)), .val (.ref b1), .unset, .unset, .unset, .unset] []))
    refine own_stepW (B := T15.setTop (mkF m 236 #[.val (.long wa), .second, .val (.long wb), .second, .val (.int mode), .val (.int narrow), .val (.ref ac), .val (.ref an), .val (.int (Int32.ofNat n1)), .val (.int LN), .val (.int ((Int32.ofNat n1) + LN)), .val (.ref b1), .unset, .unset, .unset, .unset] [(.int (1 : Int32)), (.ref ac), (.int ((Int32.ofNat n1) + (1 : Int32))), (.ref b1)])) (fun t k => ?_) ?_
    · show Steps p.tables e below (T15.setTop (mkF m 227 #[.val (.long wa), .second, .val (.long wb), .second, .val (.int mode), .val (.int narrow), .val (.ref ac), .val (.ref an), .val (.int (Int32.ofNat n1)), .val (.int LN), .val (.int ((Int32.ofNat n1) + LN)), .val (.ref b1), .unset, .unset, .unset, .unset] [])) _
      refine XS.aload X15.here hx rfl (hb hby at_227) rfl rfl ?_
      refine XS.iload X15.here hx rfl (hb hby at_229) rfl ?_
      refine XS.iconst X15.here hx rfl (hb hby at_231) ?_
      refine XS.iadd X15.here hx rfl (hb hby at_232) rfl ?_
      refine XS.aload X15.here hx rfl (hb hby at_233) rfl rfl ?_
      refine XS.iconst X15.here hx rfl (hb hby at_235) ?_
      exact k
    obtain ⟨cl16, Ar16, -, S16, NN16, Hs16, -⟩ := id (((((((((((((((Vc.ext E1).other W2 ne_ac_b1).other W3 ne_ac_b1).other W4 ne_ac_b1).other W5 ne_ac_b1).other W6 ne_ac_b1).other W7 ne_ac_b1).other W8 ne_ac_b1).other W9 ne_ac_b1).other W10 ne_ac_b1).other W11 ne_ac_b1).other W12 ne_ac_b1).other W13 ne_ac_b1).other W15 ne_ac_b1))
    have hin16 : ¬ ((1 : Int32) < 0 ∨ cl16.slots.size ≤ ((1 : Int32)).toNatClampNeg) := inb_of S16 ⟨by decide, by decide⟩
    refine own_stepW (B := T15.setTop (mkF m 237 #[.val (.long wa), .second, .val (.long wb), .second, .val (.int mode), .val (.int narrow), .val (.ref ac), .val (.ref an), .val (.int (Int32.ofNat n1)), .val (.int LN), .val (.int ((Int32.ofNat n1) + LN)), .val (.ref b1), .unset, .unset, .unset, .unset] [(.int x1), (.int ((Int32.ofNat n1) + (1 : Int32))), (.ref b1)])) (fun t k => ?_) ?_
    · show Steps p.tables e below (T15.setTop (mkF m 236 #[.val (.long wa), .second, .val (.long wb), .second, .val (.int mode), .val (.int narrow), .val (.ref ac), .val (.ref an), .val (.int (Int32.ofNat n1)), .val (.int LN), .val (.int ((Int32.ofNat n1) + LN)), .val (.ref b1), .unset, .unset, .unset, .unset] [(.int (1 : Int32)), (.ref ac), (.int ((Int32.ofNat n1) + (1 : Int32))), (.ref b1)])) _
      refine X15.caload hx (j := (1 : Int32)) (v := (.int x1)) (by rw [e15]; exact Ar16.1) (State.isArrayOf_alike hZ.alike Ar16.2.1) Ar16.2.2 hin16 (Has.at Hs16 hin16 rfl) (g := (mkF m 236 #[.val (.long wa), .second, .val (.long wb), .second, .val (.int mode), .val (.int narrow), .val (.ref ac), .val (.ref an), .val (.int (Int32.ofNat n1)), .val (.int LN), .val (.int ((Int32.ofNat n1) + LN)), .val (.ref b1), .unset, .unset, .unset, .unset] [(.int (1 : Int32)), (.ref ac), (.int ((Int32.ofNat n1) + (1 : Int32))), (.ref b1)])) rfl rfl (hb hby at_236) _ ?_
      exact k
    have ei17 : (((Int32.ofNat n1) + (1 : Int32))).toNatClampNeg = n1 + 1 := own_addn (k := 1) rfl (by omega)
    obtain ⟨cl17, Ar17, q17, S17, NN17, Hs17, G17⟩ := id (V15)
    have hin17 : ¬ (((Int32.ofNat n1) + (1 : Int32)) < 0 ∨ cl17.slots.size ≤ (((Int32.ofNat n1) + (1 : Int32))).toNatClampNeg) := inb_of S17 (own_b12 ei17 (by omega) (own_p0 (k := 1) rfl (by omega)))
    obtain ⟨T17, h17, X17, e17, W17, st17⟩ := stC X15 hx hZ e15 Ar17 (j := ((Int32.ofNat n1) + (1 : Int32))) hin17 (g := (mkF m 237 #[.val (.long wa), .second, .val (.long wb), .second, .val (.int mode), .val (.int narrow), .val (.ref ac), .val (.ref an), .val (.int (Int32.ofNat n1)), .val (.int LN), .val (.int ((Int32.ofNat n1) + LN)), .val (.ref b1), .unset, .unset, .unset, .unset] [(.int x1), (.int ((Int32.ofNat n1) + (1 : Int32))), (.ref b1)])) rfl rfl (hb hby at_237)
    have V17 := Arv.set Ar17 q17 S17 NN17 Hs17 G17 (fits_nar_char _) W17 (n1 + 1) ei17 (by (try simp only [List.length_set]); show n1 + 1 < 12; omega)
    have N17 := Fr.snoc X17 N15 g_b1
    refine own_stepW st17 ?_
    show own_GoW p e below s _ _ _ (T17.setTop (mkF m 238 #[.val (.long wa), .second, .val (.long wb), .second, .val (.int mode), .val (.int narrow), .val (.ref ac), .val (.ref an), .val (.int (Int32.ofNat n1)), .val (.int LN), .val (.int ((Int32.ofNat n1) + LN)), .val (.ref b1), .unset, .unset, .unset, .unset] []))
    refine own_stepW (B := T17.setTop (mkF m 247 #[.val (.long wa), .second, .val (.long wb), .second, .val (.int mode), .val (.int narrow), .val (.ref ac), .val (.ref an), .val (.int (Int32.ofNat n1)), .val (.int LN), .val (.int ((Int32.ofNat n1) + LN)), .val (.ref b1), .unset, .unset, .unset, .unset] [(.int (2 : Int32)), (.ref ac), (.int ((Int32.ofNat n1) + (2 : Int32))), (.ref b1)])) (fun t k => ?_) ?_
    · show Steps p.tables e below (T17.setTop (mkF m 238 #[.val (.long wa), .second, .val (.long wb), .second, .val (.int mode), .val (.int narrow), .val (.ref ac), .val (.ref an), .val (.int (Int32.ofNat n1)), .val (.int LN), .val (.int ((Int32.ofNat n1) + LN)), .val (.ref b1), .unset, .unset, .unset, .unset] [])) _
      refine XS.aload X17.here hx rfl (hb hby at_238) rfl rfl ?_
      refine XS.iload X17.here hx rfl (hb hby at_240) rfl ?_
      refine XS.iconst X17.here hx rfl (hb hby at_242) ?_
      refine XS.iadd X17.here hx rfl (hb hby at_243) rfl ?_
      refine XS.aload X17.here hx rfl (hb hby at_244) rfl rfl ?_
      refine XS.iconst X17.here hx rfl (hb hby at_246) ?_
      exact k
    obtain ⟨cl18, Ar18, -, S18, NN18, Hs18, -⟩ := id ((((((((((((((((Vc.ext E1).other W2 ne_ac_b1).other W3 ne_ac_b1).other W4 ne_ac_b1).other W5 ne_ac_b1).other W6 ne_ac_b1).other W7 ne_ac_b1).other W8 ne_ac_b1).other W9 ne_ac_b1).other W10 ne_ac_b1).other W11 ne_ac_b1).other W12 ne_ac_b1).other W13 ne_ac_b1).other W15 ne_ac_b1).other W17 ne_ac_b1))
    have hin18 : ¬ ((2 : Int32) < 0 ∨ cl18.slots.size ≤ ((2 : Int32)).toNatClampNeg) := inb_of S18 ⟨by decide, by decide⟩
    refine own_stepW (B := T17.setTop (mkF m 248 #[.val (.long wa), .second, .val (.long wb), .second, .val (.int mode), .val (.int narrow), .val (.ref ac), .val (.ref an), .val (.int (Int32.ofNat n1)), .val (.int LN), .val (.int ((Int32.ofNat n1) + LN)), .val (.ref b1), .unset, .unset, .unset, .unset] [(.int x2), (.int ((Int32.ofNat n1) + (2 : Int32))), (.ref b1)])) (fun t k => ?_) ?_
    · show Steps p.tables e below (T17.setTop (mkF m 247 #[.val (.long wa), .second, .val (.long wb), .second, .val (.int mode), .val (.int narrow), .val (.ref ac), .val (.ref an), .val (.int (Int32.ofNat n1)), .val (.int LN), .val (.int ((Int32.ofNat n1) + LN)), .val (.ref b1), .unset, .unset, .unset, .unset] [(.int (2 : Int32)), (.ref ac), (.int ((Int32.ofNat n1) + (2 : Int32))), (.ref b1)])) _
      refine X17.caload hx (j := (2 : Int32)) (v := (.int x2)) (by rw [e17]; exact Ar18.1) (State.isArrayOf_alike hZ.alike Ar18.2.1) Ar18.2.2 hin18 (Has.at Hs18 hin18 rfl) (g := (mkF m 247 #[.val (.long wa), .second, .val (.long wb), .second, .val (.int mode), .val (.int narrow), .val (.ref ac), .val (.ref an), .val (.int (Int32.ofNat n1)), .val (.int LN), .val (.int ((Int32.ofNat n1) + LN)), .val (.ref b1), .unset, .unset, .unset, .unset] [(.int (2 : Int32)), (.ref ac), (.int ((Int32.ofNat n1) + (2 : Int32))), (.ref b1)])) rfl rfl (hb hby at_247) _ ?_
      exact k
    have ei19 : (((Int32.ofNat n1) + (2 : Int32))).toNatClampNeg = n1 + 2 := own_addn (k := 2) rfl (by omega)
    obtain ⟨cl19, Ar19, q19, S19, NN19, Hs19, G19⟩ := id (V17)
    have hin19 : ¬ (((Int32.ofNat n1) + (2 : Int32)) < 0 ∨ cl19.slots.size ≤ (((Int32.ofNat n1) + (2 : Int32))).toNatClampNeg) := inb_of S19 (own_b12 ei19 (by omega) (own_p0 (k := 2) rfl (by omega)))
    obtain ⟨T19, h19, X19, e19, W19, st19⟩ := stC X17 hx hZ e17 Ar19 (j := ((Int32.ofNat n1) + (2 : Int32))) hin19 (g := (mkF m 248 #[.val (.long wa), .second, .val (.long wb), .second, .val (.int mode), .val (.int narrow), .val (.ref ac), .val (.ref an), .val (.int (Int32.ofNat n1)), .val (.int LN), .val (.int ((Int32.ofNat n1) + LN)), .val (.ref b1), .unset, .unset, .unset, .unset] [(.int x2), (.int ((Int32.ofNat n1) + (2 : Int32))), (.ref b1)])) rfl rfl (hb hby at_248)
    have V19 := Arv.set Ar19 q19 S19 NN19 Hs19 G19 (fits_nar_char _) W19 (n1 + 2) ei19 (by (try simp only [List.length_set]); show n1 + 2 < 12; omega)
    have N19 := Fr.snoc X19 N17 g_b1
    refine own_stepW st19 ?_
    show own_GoW p e below s _ _ _ (T19.setTop (mkF m 249 #[.val (.long wa), .second, .val (.long wb), .second, .val (.int mode), .val (.int narrow), .val (.ref ac), .val (.ref an), .val (.int (Int32.ofNat n1)), .val (.int LN), .val (.int ((Int32.ofNat n1) + LN)), .val (.ref b1), .unset, .unset, .unset, .unset] []))
    refine own_stepW (B := T19.setTop (mkF m 258 #[.val (.long wa), .second, .val (.long wb), .second, .val (.int mode), .val (.int narrow), .val (.ref ac), .val (.ref an), .val (.int (Int32.ofNat n1)), .val (.int LN), .val (.int ((Int32.ofNat n1) + LN)), .val (.ref b1), .unset, .unset, .unset, .unset] [(.int (3 : Int32)), (.ref ac), (.int ((Int32.ofNat n1) + (3 : Int32))), (.ref b1)])) (fun t k => ?_) ?_
    · show Steps p.tables e below (T19.setTop (mkF m 249 #[.val (.long wa), .second, .val (.long wb), .second, .val (.int mode), .val (.int narrow), .val (.ref ac), .val (.ref an), .val (.int (Int32.ofNat n1)), .val (.int LN), .val (.int ((Int32.ofNat n1) + LN)), .val (.ref b1), .unset, .unset, .unset, .unset] [])) _
      refine XS.aload X19.here hx rfl (hb hby at_249) rfl rfl ?_
      refine XS.iload X19.here hx rfl (hb hby at_251) rfl ?_
      refine XS.iconst X19.here hx rfl (hb hby at_253) ?_
      refine XS.iadd X19.here hx rfl (hb hby at_254) rfl ?_
      refine XS.aload X19.here hx rfl (hb hby at_255) rfl rfl ?_
      refine XS.iconst X19.here hx rfl (hb hby at_257) ?_
      exact k
    obtain ⟨cl20, Ar20, -, S20, NN20, Hs20, -⟩ := id (((((((((((((((((Vc.ext E1).other W2 ne_ac_b1).other W3 ne_ac_b1).other W4 ne_ac_b1).other W5 ne_ac_b1).other W6 ne_ac_b1).other W7 ne_ac_b1).other W8 ne_ac_b1).other W9 ne_ac_b1).other W10 ne_ac_b1).other W11 ne_ac_b1).other W12 ne_ac_b1).other W13 ne_ac_b1).other W15 ne_ac_b1).other W17 ne_ac_b1).other W19 ne_ac_b1))
    have hin20 : ¬ ((3 : Int32) < 0 ∨ cl20.slots.size ≤ ((3 : Int32)).toNatClampNeg) := inb_of S20 ⟨by decide, by decide⟩
    refine own_stepW (B := T19.setTop (mkF m 259 #[.val (.long wa), .second, .val (.long wb), .second, .val (.int mode), .val (.int narrow), .val (.ref ac), .val (.ref an), .val (.int (Int32.ofNat n1)), .val (.int LN), .val (.int ((Int32.ofNat n1) + LN)), .val (.ref b1), .unset, .unset, .unset, .unset] [(.int x3), (.int ((Int32.ofNat n1) + (3 : Int32))), (.ref b1)])) (fun t k => ?_) ?_
    · show Steps p.tables e below (T19.setTop (mkF m 258 #[.val (.long wa), .second, .val (.long wb), .second, .val (.int mode), .val (.int narrow), .val (.ref ac), .val (.ref an), .val (.int (Int32.ofNat n1)), .val (.int LN), .val (.int ((Int32.ofNat n1) + LN)), .val (.ref b1), .unset, .unset, .unset, .unset] [(.int (3 : Int32)), (.ref ac), (.int ((Int32.ofNat n1) + (3 : Int32))), (.ref b1)])) _
      refine X19.caload hx (j := (3 : Int32)) (v := (.int x3)) (by rw [e19]; exact Ar20.1) (State.isArrayOf_alike hZ.alike Ar20.2.1) Ar20.2.2 hin20 (Has.at Hs20 hin20 rfl) (g := (mkF m 258 #[.val (.long wa), .second, .val (.long wb), .second, .val (.int mode), .val (.int narrow), .val (.ref ac), .val (.ref an), .val (.int (Int32.ofNat n1)), .val (.int LN), .val (.int ((Int32.ofNat n1) + LN)), .val (.ref b1), .unset, .unset, .unset, .unset] [(.int (3 : Int32)), (.ref ac), (.int ((Int32.ofNat n1) + (3 : Int32))), (.ref b1)])) rfl rfl (hb hby at_258) _ ?_
      exact k
    have ei21 : (((Int32.ofNat n1) + (3 : Int32))).toNatClampNeg = n1 + 3 := own_addn (k := 3) rfl (by omega)
    obtain ⟨cl21, Ar21, q21, S21, NN21, Hs21, G21⟩ := id (V19)
    have hin21 : ¬ (((Int32.ofNat n1) + (3 : Int32)) < 0 ∨ cl21.slots.size ≤ (((Int32.ofNat n1) + (3 : Int32))).toNatClampNeg) := inb_of S21 (own_b12 ei21 (by omega) (own_p0 (k := 3) rfl (by omega)))
    obtain ⟨T21, h21, X21, e21, W21, st21⟩ := stC X19 hx hZ e19 Ar21 (j := ((Int32.ofNat n1) + (3 : Int32))) hin21 (g := (mkF m 259 #[.val (.long wa), .second, .val (.long wb), .second, .val (.int mode), .val (.int narrow), .val (.ref ac), .val (.ref an), .val (.int (Int32.ofNat n1)), .val (.int LN), .val (.int ((Int32.ofNat n1) + LN)), .val (.ref b1), .unset, .unset, .unset, .unset] [(.int x3), (.int ((Int32.ofNat n1) + (3 : Int32))), (.ref b1)])) rfl rfl (hb hby at_259)
    have V21 := Arv.set Ar21 q21 S21 NN21 Hs21 G21 (fits_nar_char _) W21 (n1 + 3) ei21 (by (try simp only [List.length_set]); show n1 + 3 < 12; omega)
    have N21 := Fr.snoc X21 N19 g_b1
    refine own_stepW st21 ?_
    show own_GoW p e below s _ _ _ (T21.setTop (mkF m 260 #[.val (.long wa), .second, .val (.long wb), .second, .val (.int mode), .val (.int narrow), .val (.ref ac), .val (.ref an), .val (.int (Int32.ofNat n1)), .val (.int LN), .val (.int ((Int32.ofNat n1) + LN)), .val (.ref b1), .unset, .unset, .unset, .unset] []))
    refine own_stepW (B := T21.setTop (mkF m 269 #[.val (.long wa), .second, .val (.long wb), .second, .val (.int mode), .val (.int narrow), .val (.ref ac), .val (.ref an), .val (.int (Int32.ofNat n1)), .val (.int LN), .val (.int ((Int32.ofNat n1) + LN)), .val (.ref b1), .unset, .unset, .unset, .unset] [(.int (4 : Int32)), (.ref ac), (.int ((Int32.ofNat n1) + (4 : Int32))), (.ref b1)])) (fun t k => ?_) ?_
    · show Steps p.tables e below (T21.setTop (mkF m 260 #[.val (.long wa), .second, .val (.long wb), .second, .val (.int mode), .val (.int narrow), .val (.ref ac), .val (.ref an), .val (.int (Int32.ofNat n1)), .val (.int LN), .val (.int ((Int32.ofNat n1) + LN)), .val (.ref b1), .unset, .unset, .unset, .unset] [])) _
      refine XS.aload X21.here hx rfl (hb hby at_260) rfl rfl ?_
      refine XS.iload X21.here hx rfl (hb hby at_262) rfl ?_
      refine XS.iconst X21.here hx rfl (hb hby at_264) ?_
      refine XS.iadd X21.here hx rfl (hb hby at_265) rfl ?_
      refine XS.aload X21.here hx rfl (hb hby at_266) rfl rfl ?_
      refine XS.iconst X21.here hx rfl (hb hby at_268) ?_
      exact k
    obtain ⟨cl22, Ar22, -, S22, NN22, Hs22, -⟩ := id ((((((((((((((((((Vc.ext E1).other W2 ne_ac_b1).other W3 ne_ac_b1).other W4 ne_ac_b1).other W5 ne_ac_b1).other W6 ne_ac_b1).other W7 ne_ac_b1).other W8 ne_ac_b1).other W9 ne_ac_b1).other W10 ne_ac_b1).other W11 ne_ac_b1).other W12 ne_ac_b1).other W13 ne_ac_b1).other W15 ne_ac_b1).other W17 ne_ac_b1).other W19 ne_ac_b1).other W21 ne_ac_b1))
    have hin22 : ¬ ((4 : Int32) < 0 ∨ cl22.slots.size ≤ ((4 : Int32)).toNatClampNeg) := inb_of S22 ⟨by decide, by decide⟩
    refine own_stepW (B := T21.setTop (mkF m 270 #[.val (.long wa), .second, .val (.long wb), .second, .val (.int mode), .val (.int narrow), .val (.ref ac), .val (.ref an), .val (.int (Int32.ofNat n1)), .val (.int LN), .val (.int ((Int32.ofNat n1) + LN)), .val (.ref b1), .unset, .unset, .unset, .unset] [(.int x4), (.int ((Int32.ofNat n1) + (4 : Int32))), (.ref b1)])) (fun t k => ?_) ?_
    · show Steps p.tables e below (T21.setTop (mkF m 269 #[.val (.long wa), .second, .val (.long wb), .second, .val (.int mode), .val (.int narrow), .val (.ref ac), .val (.ref an), .val (.int (Int32.ofNat n1)), .val (.int LN), .val (.int ((Int32.ofNat n1) + LN)), .val (.ref b1), .unset, .unset, .unset, .unset] [(.int (4 : Int32)), (.ref ac), (.int ((Int32.ofNat n1) + (4 : Int32))), (.ref b1)])) _
      refine X21.caload hx (j := (4 : Int32)) (v := (.int x4)) (by rw [e21]; exact Ar22.1) (State.isArrayOf_alike hZ.alike Ar22.2.1) Ar22.2.2 hin22 (Has.at Hs22 hin22 rfl) (g := (mkF m 269 #[.val (.long wa), .second, .val (.long wb), .second, .val (.int mode), .val (.int narrow), .val (.ref ac), .val (.ref an), .val (.int (Int32.ofNat n1)), .val (.int LN), .val (.int ((Int32.ofNat n1) + LN)), .val (.ref b1), .unset, .unset, .unset, .unset] [(.int (4 : Int32)), (.ref ac), (.int ((Int32.ofNat n1) + (4 : Int32))), (.ref b1)])) rfl rfl (hb hby at_269) _ ?_
      exact k
    have ei23 : (((Int32.ofNat n1) + (4 : Int32))).toNatClampNeg = n1 + 4 := own_addn (k := 4) rfl (by omega)
    obtain ⟨cl23, Ar23, q23, S23, NN23, Hs23, G23⟩ := id (V21)
    have hin23 : ¬ (((Int32.ofNat n1) + (4 : Int32)) < 0 ∨ cl23.slots.size ≤ (((Int32.ofNat n1) + (4 : Int32))).toNatClampNeg) := inb_of S23 (own_b12 ei23 (by omega) (own_p0 (k := 4) rfl (by omega)))
    obtain ⟨T23, h23, X23, e23, W23, st23⟩ := stC X21 hx hZ e21 Ar23 (j := ((Int32.ofNat n1) + (4 : Int32))) hin23 (g := (mkF m 270 #[.val (.long wa), .second, .val (.long wb), .second, .val (.int mode), .val (.int narrow), .val (.ref ac), .val (.ref an), .val (.int (Int32.ofNat n1)), .val (.int LN), .val (.int ((Int32.ofNat n1) + LN)), .val (.ref b1), .unset, .unset, .unset, .unset] [(.int x4), (.int ((Int32.ofNat n1) + (4 : Int32))), (.ref b1)])) rfl rfl (hb hby at_270)
    have V23 := Arv.set Ar23 q23 S23 NN23 Hs23 G23 (fits_nar_char _) W23 (n1 + 4) ei23 (by (try simp only [List.length_set]); show n1 + 4 < 12; omega)
    have N23 := Fr.snoc X23 N21 g_b1
    refine own_stepW st23 ?_
    show own_GoW p e below s _ _ _ (T23.setTop (mkF m 271 #[.val (.long wa), .second, .val (.long wb), .second, .val (.int mode), .val (.int narrow), .val (.ref ac), .val (.ref an), .val (.int (Int32.ofNat n1)), .val (.int LN), .val (.int ((Int32.ofNat n1) + LN)), .val (.ref b1), .unset, .unset, .unset, .unset] []))
    refine own_stepW (B := T23.setTop (mkF m 280 #[.val (.long wa), .second, .val (.long wb), .second, .val (.int mode), .val (.int narrow), .val (.ref ac), .val (.ref an), .val (.int (Int32.ofNat n1)), .val (.int LN), .val (.int ((Int32.ofNat n1) + LN)), .val (.ref b1), .unset, .unset, .unset, .unset] [(.int (5 : Int32)), (.ref ac), (.int ((Int32.ofNat n1) + (5 : Int32))), (.ref b1)])) (fun t k => ?_) ?_
    · show Steps p.tables e below (T23.setTop (mkF m 271 #[.val (.long wa), .second, .val (.long wb), .second, .val (.int mode), .val (.int narrow), .val (.ref ac), .val (.ref an), .val (.int (Int32.ofNat n1)), .val (.int LN), .val (.int ((Int32.ofNat n1) + LN)), .val (.ref b1), .unset, .unset, .unset, .unset] [])) _
      refine XS.aload X23.here hx rfl (hb hby at_271) rfl rfl ?_
      refine XS.iload X23.here hx rfl (hb hby at_273) rfl ?_
      refine XS.iconst X23.here hx rfl (hb hby at_275) ?_
      refine XS.iadd X23.here hx rfl (hb hby at_276) rfl ?_
      refine XS.aload X23.here hx rfl (hb hby at_277) rfl rfl ?_
      refine XS.iconst X23.here hx rfl (hb hby at_279) ?_
      exact k
    obtain ⟨cl24, Ar24, -, S24, NN24, Hs24, -⟩ := id (((((((((((((((((((Vc.ext E1).other W2 ne_ac_b1).other W3 ne_ac_b1).other W4 ne_ac_b1).other W5 ne_ac_b1).other W6 ne_ac_b1).other W7 ne_ac_b1).other W8 ne_ac_b1).other W9 ne_ac_b1).other W10 ne_ac_b1).other W11 ne_ac_b1).other W12 ne_ac_b1).other W13 ne_ac_b1).other W15 ne_ac_b1).other W17 ne_ac_b1).other W19 ne_ac_b1).other W21 ne_ac_b1).other W23 ne_ac_b1))
    have hin24 : ¬ ((5 : Int32) < 0 ∨ cl24.slots.size ≤ ((5 : Int32)).toNatClampNeg) := inb_of S24 ⟨by decide, by decide⟩
    refine own_stepW (B := T23.setTop (mkF m 281 #[.val (.long wa), .second, .val (.long wb), .second, .val (.int mode), .val (.int narrow), .val (.ref ac), .val (.ref an), .val (.int (Int32.ofNat n1)), .val (.int LN), .val (.int ((Int32.ofNat n1) + LN)), .val (.ref b1), .unset, .unset, .unset, .unset] [(.int x5), (.int ((Int32.ofNat n1) + (5 : Int32))), (.ref b1)])) (fun t k => ?_) ?_
    · show Steps p.tables e below (T23.setTop (mkF m 280 #[.val (.long wa), .second, .val (.long wb), .second, .val (.int mode), .val (.int narrow), .val (.ref ac), .val (.ref an), .val (.int (Int32.ofNat n1)), .val (.int LN), .val (.int ((Int32.ofNat n1) + LN)), .val (.ref b1), .unset, .unset, .unset, .unset] [(.int (5 : Int32)), (.ref ac), (.int ((Int32.ofNat n1) + (5 : Int32))), (.ref b1)])) _
      refine X23.caload hx (j := (5 : Int32)) (v := (.int x5)) (by rw [e23]; exact Ar24.1) (State.isArrayOf_alike hZ.alike Ar24.2.1) Ar24.2.2 hin24 (Has.at Hs24 hin24 rfl) (g := (mkF m 280 #[.val (.long wa), .second, .val (.long wb), .second, .val (.int mode), .val (.int narrow), .val (.ref ac), .val (.ref an), .val (.int (Int32.ofNat n1)), .val (.int LN), .val (.int ((Int32.ofNat n1) + LN)), .val (.ref b1), .unset, .unset, .unset, .unset] [(.int (5 : Int32)), (.ref ac), (.int ((Int32.ofNat n1) + (5 : Int32))), (.ref b1)])) rfl rfl (hb hby at_280) _ ?_
      exact k
    have ei25 : (((Int32.ofNat n1) + (5 : Int32))).toNatClampNeg = n1 + 5 := own_addn (k := 5) rfl (by omega)
    obtain ⟨cl25, Ar25, q25, S25, NN25, Hs25, G25⟩ := id (V23)
    have hin25 : ¬ (((Int32.ofNat n1) + (5 : Int32)) < 0 ∨ cl25.slots.size ≤ (((Int32.ofNat n1) + (5 : Int32))).toNatClampNeg) := inb_of S25 (own_b12 ei25 (by omega) (own_p0 (k := 5) rfl (by omega)))
    obtain ⟨T25, h25, X25, e25, W25, st25⟩ := stC X23 hx hZ e23 Ar25 (j := ((Int32.ofNat n1) + (5 : Int32))) hin25 (g := (mkF m 281 #[.val (.long wa), .second, .val (.long wb), .second, .val (.int mode), .val (.int narrow), .val (.ref ac), .val (.ref an), .val (.int (Int32.ofNat n1)), .val (.int LN), .val (.int ((Int32.ofNat n1) + LN)), .val (.ref b1), .unset, .unset, .unset, .unset] [(.int x5), (.int ((Int32.ofNat n1) + (5 : Int32))), (.ref b1)])) rfl rfl (hb hby at_281)
    have V25 := Arv.set Ar25 q25 S25 NN25 Hs25 G25 (fits_nar_char _) W25 (n1 + 5) ei25 (by (try simp only [List.length_set]); show n1 + 5 < 12; omega)
    have N25 := Fr.snoc X25 N23 g_b1
    refine own_stepW st25 ?_
    show own_GoW p e below s _ _ _ (T25.setTop (mkF m 282 #[.val (.long wa), .second, .val (.long wb), .second, .val (.int mode), .val (.int narrow), .val (.ref ac), .val (.ref an), .val (.int (Int32.ofNat n1)), .val (.int LN), .val (.int ((Int32.ofNat n1) + LN)), .val (.ref b1), .unset, .unset, .unset, .unset] []))
    refine own_stepW (B := T25.setTop (mkF m 293 #[.val (.long wa), .second, .val (.long wb), .second, .val (.int mode), .val (.int narrow), .val (.ref ac), .val (.ref an), .val (.int (Int32.ofNat n1)), .val (.int LN), .val (.int ((Int32.ofNat n1) + LN)), .val (.ref b1), .unset, .unset, .unset, .unset] [(.int (6 : Int32)), (.ref ac), (.int ((Int32.ofNat n1) + (6 : Int32))), (.ref b1)])) (fun t k => ?_) ?_
    · show Steps p.tables e below (T25.setTop (mkF m 282 #[.val (.long wa), .second, .val (.long wb), .second, .val (.int mode), .val (.int narrow), .val (.ref ac), .val (.ref an), .val (.int (Int32.ofNat n1)), .val (.int LN), .val (.int ((Int32.ofNat n1) + LN)), .val (.ref b1), .unset, .unset, .unset, .unset] [])) _
      refine XS.aload X25.here hx rfl (hb hby at_282) rfl rfl ?_
      refine XS.iload X25.here hx rfl (hb hby at_284) rfl ?_
      refine XS.bipush X25.here hx rfl (hb hby at_286) ?_
      refine XS.iadd X25.here hx rfl (hb hby at_288) rfl ?_
      refine XS.aload X25.here hx rfl (hb hby at_289) rfl rfl ?_
      refine XS.bipush X25.here hx rfl (hb hby at_291) ?_
      exact k
    obtain ⟨cl26, Ar26, -, S26, NN26, Hs26, -⟩ := id ((((((((((((((((((((Vc.ext E1).other W2 ne_ac_b1).other W3 ne_ac_b1).other W4 ne_ac_b1).other W5 ne_ac_b1).other W6 ne_ac_b1).other W7 ne_ac_b1).other W8 ne_ac_b1).other W9 ne_ac_b1).other W10 ne_ac_b1).other W11 ne_ac_b1).other W12 ne_ac_b1).other W13 ne_ac_b1).other W15 ne_ac_b1).other W17 ne_ac_b1).other W19 ne_ac_b1).other W21 ne_ac_b1).other W23 ne_ac_b1).other W25 ne_ac_b1))
    have hin26 : ¬ ((6 : Int32) < 0 ∨ cl26.slots.size ≤ ((6 : Int32)).toNatClampNeg) := inb_of S26 ⟨by decide, by decide⟩
    refine own_stepW (B := T25.setTop (mkF m 294 #[.val (.long wa), .second, .val (.long wb), .second, .val (.int mode), .val (.int narrow), .val (.ref ac), .val (.ref an), .val (.int (Int32.ofNat n1)), .val (.int LN), .val (.int ((Int32.ofNat n1) + LN)), .val (.ref b1), .unset, .unset, .unset, .unset] [(.int x6), (.int ((Int32.ofNat n1) + (6 : Int32))), (.ref b1)])) (fun t k => ?_) ?_
    · show Steps p.tables e below (T25.setTop (mkF m 293 #[.val (.long wa), .second, .val (.long wb), .second, .val (.int mode), .val (.int narrow), .val (.ref ac), .val (.ref an), .val (.int (Int32.ofNat n1)), .val (.int LN), .val (.int ((Int32.ofNat n1) + LN)), .val (.ref b1), .unset, .unset, .unset, .unset] [(.int (6 : Int32)), (.ref ac), (.int ((Int32.ofNat n1) + (6 : Int32))), (.ref b1)])) _
      refine X25.caload hx (j := (6 : Int32)) (v := (.int x6)) (by rw [e25]; exact Ar26.1) (State.isArrayOf_alike hZ.alike Ar26.2.1) Ar26.2.2 hin26 (Has.at Hs26 hin26 rfl) (g := (mkF m 293 #[.val (.long wa), .second, .val (.long wb), .second, .val (.int mode), .val (.int narrow), .val (.ref ac), .val (.ref an), .val (.int (Int32.ofNat n1)), .val (.int LN), .val (.int ((Int32.ofNat n1) + LN)), .val (.ref b1), .unset, .unset, .unset, .unset] [(.int (6 : Int32)), (.ref ac), (.int ((Int32.ofNat n1) + (6 : Int32))), (.ref b1)])) rfl rfl (hb hby at_293) _ ?_
      exact k
    have ei27 : (((Int32.ofNat n1) + (6 : Int32))).toNatClampNeg = n1 + 6 := own_addn (k := 6) rfl (by omega)
    obtain ⟨cl27, Ar27, q27, S27, NN27, Hs27, G27⟩ := id (V25)
    have hin27 : ¬ (((Int32.ofNat n1) + (6 : Int32)) < 0 ∨ cl27.slots.size ≤ (((Int32.ofNat n1) + (6 : Int32))).toNatClampNeg) := inb_of S27 (own_b12 ei27 (by omega) (own_p0 (k := 6) rfl (by omega)))
    obtain ⟨T27, h27, X27, e27, W27, st27⟩ := stC X25 hx hZ e25 Ar27 (j := ((Int32.ofNat n1) + (6 : Int32))) hin27 (g := (mkF m 294 #[.val (.long wa), .second, .val (.long wb), .second, .val (.int mode), .val (.int narrow), .val (.ref ac), .val (.ref an), .val (.int (Int32.ofNat n1)), .val (.int LN), .val (.int ((Int32.ofNat n1) + LN)), .val (.ref b1), .unset, .unset, .unset, .unset] [(.int x6), (.int ((Int32.ofNat n1) + (6 : Int32))), (.ref b1)])) rfl rfl (hb hby at_294)
    have V27 := Arv.set Ar27 q27 S27 NN27 Hs27 G27 (fits_nar_char _) W27 (n1 + 6) ei27 (by (try simp only [List.length_set]); show n1 + 6 < 12; omega)
    have N27 := Fr.snoc X27 N25 g_b1
    refine own_stepW st27 ?_
    show own_GoW p e below s _ _ _ (T27.setTop (mkF m 295 #[.val (.long wa), .second, .val (.long wb), .second, .val (.int mode), .val (.int narrow), .val (.ref ac), .val (.ref an), .val (.int (Int32.ofNat n1)), .val (.int LN), .val (.int ((Int32.ofNat n1) + LN)), .val (.ref b1), .unset, .unset, .unset, .unset] []))
    refine own_stepW (B := T27.setTop (mkF m 306 #[.val (.long wa), .second, .val (.long wb), .second, .val (.int mode), .val (.int narrow), .val (.ref ac), .val (.ref an), .val (.int (Int32.ofNat n1)), .val (.int LN), .val (.int ((Int32.ofNat n1) + LN)), .val (.ref b1), .unset, .unset, .unset, .unset] [(.int (7 : Int32)), (.ref ac), (.int ((Int32.ofNat n1) + (7 : Int32))), (.ref b1)])) (fun t k => ?_) ?_
    · show Steps p.tables e below (T27.setTop (mkF m 295 #[.val (.long wa), .second, .val (.long wb), .second, .val (.int mode), .val (.int narrow), .val (.ref ac), .val (.ref an), .val (.int (Int32.ofNat n1)), .val (.int LN), .val (.int ((Int32.ofNat n1) + LN)), .val (.ref b1), .unset, .unset, .unset, .unset] [])) _
      refine XS.aload X27.here hx rfl (hb hby at_295) rfl rfl ?_
      refine XS.iload X27.here hx rfl (hb hby at_297) rfl ?_
      refine XS.bipush X27.here hx rfl (hb hby at_299) ?_
      refine XS.iadd X27.here hx rfl (hb hby at_301) rfl ?_
      refine XS.aload X27.here hx rfl (hb hby at_302) rfl rfl ?_
      refine XS.bipush X27.here hx rfl (hb hby at_304) ?_
      exact k
    obtain ⟨cl28, Ar28, -, S28, NN28, Hs28, -⟩ := id (((((((((((((((((((((Vc.ext E1).other W2 ne_ac_b1).other W3 ne_ac_b1).other W4 ne_ac_b1).other W5 ne_ac_b1).other W6 ne_ac_b1).other W7 ne_ac_b1).other W8 ne_ac_b1).other W9 ne_ac_b1).other W10 ne_ac_b1).other W11 ne_ac_b1).other W12 ne_ac_b1).other W13 ne_ac_b1).other W15 ne_ac_b1).other W17 ne_ac_b1).other W19 ne_ac_b1).other W21 ne_ac_b1).other W23 ne_ac_b1).other W25 ne_ac_b1).other W27 ne_ac_b1))
    have hin28 : ¬ ((7 : Int32) < 0 ∨ cl28.slots.size ≤ ((7 : Int32)).toNatClampNeg) := inb_of S28 ⟨by decide, by decide⟩
    refine own_stepW (B := T27.setTop (mkF m 307 #[.val (.long wa), .second, .val (.long wb), .second, .val (.int mode), .val (.int narrow), .val (.ref ac), .val (.ref an), .val (.int (Int32.ofNat n1)), .val (.int LN), .val (.int ((Int32.ofNat n1) + LN)), .val (.ref b1), .unset, .unset, .unset, .unset] [(.int x7), (.int ((Int32.ofNat n1) + (7 : Int32))), (.ref b1)])) (fun t k => ?_) ?_
    · show Steps p.tables e below (T27.setTop (mkF m 306 #[.val (.long wa), .second, .val (.long wb), .second, .val (.int mode), .val (.int narrow), .val (.ref ac), .val (.ref an), .val (.int (Int32.ofNat n1)), .val (.int LN), .val (.int ((Int32.ofNat n1) + LN)), .val (.ref b1), .unset, .unset, .unset, .unset] [(.int (7 : Int32)), (.ref ac), (.int ((Int32.ofNat n1) + (7 : Int32))), (.ref b1)])) _
      refine X27.caload hx (j := (7 : Int32)) (v := (.int x7)) (by rw [e27]; exact Ar28.1) (State.isArrayOf_alike hZ.alike Ar28.2.1) Ar28.2.2 hin28 (Has.at Hs28 hin28 rfl) (g := (mkF m 306 #[.val (.long wa), .second, .val (.long wb), .second, .val (.int mode), .val (.int narrow), .val (.ref ac), .val (.ref an), .val (.int (Int32.ofNat n1)), .val (.int LN), .val (.int ((Int32.ofNat n1) + LN)), .val (.ref b1), .unset, .unset, .unset, .unset] [(.int (7 : Int32)), (.ref ac), (.int ((Int32.ofNat n1) + (7 : Int32))), (.ref b1)])) rfl rfl (hb hby at_306) _ ?_
      exact k
    have ei29 : (((Int32.ofNat n1) + (7 : Int32))).toNatClampNeg = n1 + 7 := own_addn (k := 7) rfl (by omega)
    obtain ⟨cl29, Ar29, q29, S29, NN29, Hs29, G29⟩ := id (V27)
    have hin29 : ¬ (((Int32.ofNat n1) + (7 : Int32)) < 0 ∨ cl29.slots.size ≤ (((Int32.ofNat n1) + (7 : Int32))).toNatClampNeg) := inb_of S29 (own_b12 ei29 (by omega) (own_p0 (k := 7) rfl (by omega)))
    obtain ⟨T29, h29, X29, e29, W29, st29⟩ := stC X27 hx hZ e27 Ar29 (j := ((Int32.ofNat n1) + (7 : Int32))) hin29 (g := (mkF m 307 #[.val (.long wa), .second, .val (.long wb), .second, .val (.int mode), .val (.int narrow), .val (.ref ac), .val (.ref an), .val (.int (Int32.ofNat n1)), .val (.int LN), .val (.int ((Int32.ofNat n1) + LN)), .val (.ref b1), .unset, .unset, .unset, .unset] [(.int x7), (.int ((Int32.ofNat n1) + (7 : Int32))), (.ref b1)])) rfl rfl (hb hby at_307)
    have V29 := Arv.set Ar29 q29 S29 NN29 Hs29 G29 (fits_nar_char _) W29 (n1 + 7) ei29 (by (try simp only [List.length_set]); show n1 + 7 < 12; omega)
    have N29 := Fr.snoc X29 N27 g_b1
    refine own_stepW st29 ?_
    show own_GoW p e below s _ _ _ (T29.setTop (mkF m 308 #[.val (.long wa), .second, .val (.long wb), .second, .val (.int mode), .val (.int narrow), .val (.ref ac), .val (.ref an), .val (.int (Int32.ofNat n1)), .val (.int LN), .val (.int ((Int32.ofNat n1) + LN)), .val (.ref b1), .unset, .unset, .unset, .unset] []))
    refine own_stepW (B := T29.setTop (mkF m 314 #[.val (.long wa), .second, .val (.long wb), .second, .val (.int mode), .val (.int narrow), .val (.ref ac), .val (.ref an), .val (.int (Int32.ofNat n1)), .val (.int LN), .val (.int ((Int32.ofNat n1) + LN)), .val (.ref b1), .unset, .unset, .unset, .unset] [(.int ((Int32.ofNat n1) + LN)), (.int (Int32.ofNat n1)), (.ref b1)])) (fun t k => ?_) ?_
    · show Steps p.tables e below (T29.setTop (mkF m 308 #[.val (.long wa), .second, .val (.long wb), .second, .val (.int mode), .val (.int narrow), .val (.ref ac), .val (.ref an), .val (.int (Int32.ofNat n1)), .val (.int LN), .val (.int ((Int32.ofNat n1) + LN)), .val (.ref b1), .unset, .unset, .unset, .unset] [])) _
      refine XS.aload X29.here hx rfl (hb hby at_308) rfl rfl ?_
      refine XS.iload X29.here hx rfl (hb hby at_310) rfl ?_
      refine XS.iload X29.here hx rfl (hb hby at_312) rfl ?_
      exact k
    obtain ⟨cl30, Ar30, -, S30, NN30, Hs30, -⟩ := id (V29)
    have hs12 : cl30.slots.size = 12 := S30
    obtain ⟨f, hf, fe⟩ := own_text (cl := cl30) hs12 hn1 Hs30
    obtain ⟨_, _, ⟨T31, L31, k31, n31⟩, -, X31, ⟨Lc31, hQ31, l31, y31, z31⟩, st31⟩ := Jvm.LawKit.callS X29 hx (y := (⟨"tidemark/RecordForm", "parseChecksum", "([CII)J"⟩ : MethodName)) hown (mvT hZ (hw _ (List.mem_of_getElem? (i := 10) rfl))) (mvT hZ (hw _ (List.mem_of_getElem? (i := 11) rfl))) (mvT hZ (hw _ (List.mem_of_getElem? (i := 12) rfl))) (mvT hZ (hw _ (List.mem_of_getElem? (i := 13) rfl))) (by decide) (backOf (W := 0) (rm3 l Z a0 hw [] b1 (Int32.ofNat n1) ((Int32.ofNat n1) + LN) cl30 f n1 h29 n0 (Nat.le_trans (Nat.le_trans (Nat.le_trans (Nat.le_trans (Nat.le_trans (Nat.le_trans (Nat.le_trans (Nat.le_trans (Nat.le_trans (Nat.le_trans (Nat.le_trans (Nat.le_trans (Nat.le_trans (Nat.le_trans (Nat.le_trans (Nat.le_trans (Nat.le_trans (Nat.le_trans (Nat.le_trans (Nat.le_trans (Nat.le_trans (Nat.le_trans Z0 Kc.1) E1.1) (Keep.of_wr W2).1) (Keep.of_wr W3).1) (Keep.of_wr W4).1) (Keep.of_wr W5).1) (Keep.of_wr W6).1) (Keep.of_wr W7).1) (Keep.of_wr W8).1) (Keep.of_wr W9).1) (Keep.of_wr W10).1) (Keep.of_wr W11).1) (Keep.of_wr W12).1) (Keep.of_wr W13).1) (Keep.of_wr W15).1) (Keep.of_wr W17).1) (Keep.of_wr W19).1) (Keep.of_wr W21).1) (Keep.of_wr W23).1) (Keep.of_wr W25).1) (Keep.of_wr W27).1) (Keep.of_wr W29).1) Ar30 hs12 hf hn1 rfl) hZ (hw _ (List.mem_of_getElem? (i := 13) rfl)) (hw _ (List.mem_of_getElem? (i := 12) rfl)) (by decide) (by decide) ) (g := (mkF m 314 #[.val (.long wa), .second, .val (.long wb), .second, .val (.int mode), .val (.int narrow), .val (.ref ac), .val (.ref an), .val (.int (Int32.ofNat n1)), .val (.int LN), .val (.int ((Int32.ofNat n1) + LN)), .val (.ref b1), .unset, .unset, .unset, .unset] [(.int ((Int32.ofNat n1) + LN)), (.int (Int32.ofNat n1)), (.ref b1)])) rfl (by rw [hml]; rfl) (argsL := [(.ref b1), (.int (Int32.ofNat n1)), (.int ((Int32.ofNat n1) + LN))]) (rest := []) (lenOf pd_12 rfl) rfl (by show 2 * 0 + _ ≤ _; exact Nat.le_of_eq rfl) (hb hby at_314) (fun _ _ => ⟨rfl, e29, (by decide : 5 + 0 ≤ _), (by decide : 96 + 0 ≤ _)⟩)
    dsimp only [Pt.U, Pt.locs, Pt.cells, Pt.slots] at X31 l31 y31 z31 st31 hQ31
    subst l31 y31 z31
    obtain ⟨rfl, N31q, e31⟩ := hQ31
    have N31 := Fr.app N29 N31q
    refine own_stepW st31 ?_
    show own_GoW p e below s _ _ _ (T31.setTop (mkF m 317 #[.val (.long wa), .second, .val (.long wb), .second, .val (.int mode), .val (.int narrow), .val (.ref ac), .val (.ref an), .val (.int (Int32.ofNat n1)), .val (.int LN), .val (.int ((Int32.ofNat n1) + LN)), .val (.ref b1), .unset, .unset, .unset, .unset] [(.long (if ((Int32.ofNat n1) + LN) - (Int32.ofNat n1) = (8 : Int32) then own_pc f n1 8 0 else -1))]))
    have eR : (if ((Int32.ofNat n1) + LN) - (Int32.ofNat n1) = (8 : Int32) then own_pc f n1 8 0 else -1) = if LN = (8 : Int32) then own_P8 (nar .char x0) (nar .char x1) (nar .char x2) (nar .char x3) (nar .char x4) (nar .char x5) (nar .char x6) (nar .char x7) else -1 := by rw [own_cancel, own_pc8, fe.1, fe.2.1, fe.2.2.1, fe.2.2.2.1, fe.2.2.2.2.1, fe.2.2.2.2.2.1, fe.2.2.2.2.2.2.1, fe.2.2.2.2.2.2.2]
    rw [y0, y1, y2, y3, y4, y5, y6, y7] at eR
    rw [eR]
    show own_GoW p e below s _ _ _ (T31.setTop (mkF m 317 #[.val (.long wa), .second, .val (.long wb), .second, .val (.int mode), .val (.int narrow), .val (.ref ac), .val (.ref an), .val (.int (Int32.ofNat n1)), .val (.int LN), .val (.int ((Int32.ofNat n1) + LN)), .val (.ref b1), .unset, .unset, .unset, .unset] [(.long (if LN = (8 : Int32) then own_P8 x0 x1 x2 x3 x4 x5 x6 x7 else -1))]))
    refine own_stepW (B := T31.setTop (mkF m 323 #[.val (.long wa), .second, .val (.long wb), .second, .val (.int mode), .val (.int narrow), .val (.ref ac), .val (.ref an), .val (.int (Int32.ofNat n1)), .val (.int LN), .val (.int ((Int32.ofNat n1) + LN)), .val (.ref b1), .val (.long (if LN = (8 : Int32) then own_P8 x0 x1 x2 x3 x4 x5 x6 x7 else -1)), .second, .unset, .unset] [(.int (8 : Int32)), (.int LN)])) (fun t k => ?_) ?_
    · show Steps p.tables e below (T31.setTop (mkF m 317 #[.val (.long wa), .second, .val (.long wb), .second, .val (.int mode), .val (.int narrow), .val (.ref ac), .val (.ref an), .val (.int (Int32.ofNat n1)), .val (.int LN), .val (.int ((Int32.ofNat n1) + LN)), .val (.ref b1), .unset, .unset, .unset, .unset] [(.long (if LN = (8 : Int32) then own_P8 x0 x1 x2 x3 x4 x5 x6 x7 else -1))])) _
      refine XS.lstore X31.here hx rfl (hb hby at_317) rfl (l' := #[.val (.long wa), .second, .val (.long wb), .second, .val (.int mode), .val (.int narrow), .val (.ref ac), .val (.ref an), .val (.int (Int32.ofNat n1)), .val (.int LN), .val (.int ((Int32.ofNat n1) + LN)), .val (.ref b1), .val (.long (if LN = (8 : Int32) then own_P8 x0 x1 x2 x3 x4 x5 x6 x7 else -1)), .second, .unset, .unset]) rfl ?_
      refine XS.iload X31.here hx rfl (hb hby at_319) rfl ?_
      refine XS.bipush X31.here hx rfl (hb hby at_321) ?_
      exact k
    by_cases hc323 : LN = (8 : Int32)
    · refine own_stepW (B := T31.setTop (mkF m 337 #[.val (.long wa), .second, .val (.long wb), .second, .val (.int mode), .val (.int narrow), .val (.ref ac), .val (.ref an), .val (.int (Int32.ofNat n1)), .val (.int LN), .val (.int ((Int32.ofNat n1) + LN)), .val (.ref b1), .val (.long (if LN = (8 : Int32) then own_P8 x0 x1 x2 x3 x4 x5 x6 x7 else -1)), .second, .unset, .unset] [(.int (0 : Int32)), (.ref an)])) (fun t k => ?_) ?_
      · show Steps p.tables e below (T31.setTop (mkF m 323 #[.val (.long wa), .second, .val (.long wb), .second, .val (.int mode), .val (.int narrow), .val (.ref ac), .val (.ref an), .val (.int (Int32.ofNat n1)), .val (.int LN), .val (.int ((Int32.ofNat n1) + LN)), .val (.ref b1), .val (.long (if LN = (8 : Int32) then own_P8 x0 x1 x2 x3 x4 x5 x6 x7 else -1)), .second, .unset, .unset] [(.int (8 : Int32)), (.int LN)])) _
        refine XS.icmpYes X31.here hx rfl (pc0 := 323) (pc' := 334) rfl (hb hby at_323) rfl (teq hc323).1 (by decide) (by decide) ?_
        refine XS.aload X31.here hx rfl (hb hby at_334) rfl rfl ?_
        refine XS.iconst X31.here hx rfl (hb hby at_336) ?_
        exact k
      obtain ⟨cl32, Ar32, -, S32, NN32, Hs32, -⟩ := id ((((((((((((((((((((((Vn.ext E1).other W2 ne_an_b1).other W3 ne_an_b1).other W4 ne_an_b1).other W5 ne_an_b1).other W6 ne_an_b1).other W7 ne_an_b1).other W8 ne_an_b1).other W9 ne_an_b1).other W10 ne_an_b1).other W11 ne_an_b1).other W12 ne_an_b1).other W13 ne_an_b1).other W15 ne_an_b1).other W17 ne_an_b1).other W19 ne_an_b1).other W21 ne_an_b1).other W23 ne_an_b1).other W25 ne_an_b1).other W27 ne_an_b1).other W29 ne_an_b1))
      have hin32 : ¬ ((0 : Int32) < 0 ∨ cl32.slots.size ≤ ((0 : Int32)).toNatClampNeg) := inb_of S32 ⟨by decide, by decide⟩
      refine own_stepW (B := T31.setTop (mkF m 338 #[.val (.long wa), .second, .val (.long wb), .second, .val (.int mode), .val (.int narrow), .val (.ref ac), .val (.ref an), .val (.int (Int32.ofNat n1)), .val (.int LN), .val (.int ((Int32.ofNat n1) + LN)), .val (.ref b1), .val (.long (if LN = (8 : Int32) then own_P8 x0 x1 x2 x3 x4 x5 x6 x7 else -1)), .second, .unset, .unset] [(.int (own_nib x0))])) (fun t k => ?_) ?_
      · show Steps p.tables e below (T31.setTop (mkF m 337 #[.val (.long wa), .second, .val (.long wb), .second, .val (.int mode), .val (.int narrow), .val (.ref ac), .val (.ref an), .val (.int (Int32.ofNat n1)), .val (.int LN), .val (.int ((Int32.ofNat n1) + LN)), .val (.ref b1), .val (.long (if LN = (8 : Int32) then own_P8 x0 x1 x2 x3 x4 x5 x6 x7 else -1)), .second, .unset, .unset] [(.int (0 : Int32)), (.ref an)])) _
        refine X31.iaload hx (j := (0 : Int32)) (v := (.int (own_nib x0))) (by rw [e31]; exact Ar32.1) (State.isArrayOf_alike hZ.alike Ar32.2.1) Ar32.2.2 hin32 (Has.at Hs32 hin32 rfl) (g := (mkF m 337 #[.val (.long wa), .second, .val (.long wb), .second, .val (.int mode), .val (.int narrow), .val (.ref ac), .val (.ref an), .val (.int (Int32.ofNat n1)), .val (.int LN), .val (.int ((Int32.ofNat n1) + LN)), .val (.ref b1), .val (.long (if LN = (8 : Int32) then own_P8 x0 x1 x2 x3 x4 x5 x6 x7 else -1)), .second, .unset, .unset] [(.int (0 : Int32)), (.ref an)])) rfl rfl (hb hby at_337) _ ?_
        exact k
      by_cases hc338 : (own_nib x0) < (0 : Int32)
      · refine own_stepW (B := T31.setTop (mkF m 475 #[.val (.long wa), .second, .val (.long wb), .second, .val (.int mode), .val (.int narrow), .val (.ref ac), .val (.ref an), .val (.int (Int32.ofNat n1)), .val (.int LN), .val (.int ((Int32.ofNat n1) + LN)), .val (.ref b1), .val (.long (if LN = (8 : Int32) then own_P8 x0 x1 x2 x3 x4 x5 x6 x7 else -1)), .second, .val (.long (-1 : Int64)), .second] [(.long (-1 : Int64)), (.long (if LN = (8 : Int32) then own_P8 x0 x1 x2 x3 x4 x5 x6 x7 else -1))])) (fun t k => ?_) ?_
        · show Steps p.tables e below (T31.setTop (mkF m 338 #[.val (.long wa), .second, .val (.long wb), .second, .val (.int mode), .val (.int narrow), .val (.ref ac), .val (.ref an), .val (.int (Int32.ofNat n1)), .val (.int LN), .val (.int ((Int32.ofNat n1) + LN)), .val (.ref b1), .val (.long (if LN = (8 : Int32) then own_P8 x0 x1 x2 x3 x4 x5 x6 x7 else -1)), .second, .unset, .unset] [(.int (own_nib x0))])) _
          refine XS.ifYes X31.here hx rfl (pc0 := 338) (pc' := 392) rfl (hb hby at_338) rfl ((if0 _ _).trans (tlt hc338).1) (by decide) (by decide) ?_
          refine X31.ldc2Long hx hown (mvT hZ (hw _ (List.mem_of_getElem? (i := 15) rfl))) (g := (mkF m 392 #[.val (.long wa), .second, .val (.long wb), .second, .val (.int mode), .val (.int narrow), .val (.ref ac), .val (.ref an), .val (.int (Int32.ofNat n1)), .val (.int LN), .val (.int ((Int32.ofNat n1) + LN)), .val (.ref b1), .val (.long (if LN = (8 : Int32) then own_P8 x0 x1 x2 x3 x4 x5 x6 x7 else -1)), .second, .unset, .unset] [])) rfl (hb hby at_392) _ ?_
          refine XS.lstore X31.here hx rfl (hb hby at_395) rfl (l' := #[.val (.long wa), .second, .val (.long wb), .second, .val (.int mode), .val (.int narrow), .val (.ref ac), .val (.ref an), .val (.int (Int32.ofNat n1)), .val (.int LN), .val (.int ((Int32.ofNat n1) + LN)), .val (.ref b1), .val (.long (if LN = (8 : Int32) then own_P8 x0 x1 x2 x3 x4 x5 x6 x7 else -1)), .second, .val (.long (-1 : Int64)), .second]) rfl ?_
          refine XS.goto X31.here hx rfl (pc0 := 397) (pc' := 471) rfl (hb hby at_397) (by decide) (by decide) ?_
          refine XS.lload X31.here hx rfl (hb hby at_471) rfl ?_
          refine XS.lload X31.here hx rfl (hb hby at_473) rfl ?_
          exact k
        have hfin : (if LN = (8 : Int32) then own_P8 x0 x1 x2 x3 x4 x5 x6 x7 else -1) = (-1 : Int64) := by rw [if_pos hc323, own_P8, if_pos hc338]
        refine own_stepW (B := T31.setTop (mkF m 484 #[.val (.long wa), .second, .val (.long wb), .second, .val (.int mode), .val (.int narrow), .val (.ref ac), .val (.ref an), .val (.int (Int32.ofNat n1)), .val (.int LN), .val (.int ((Int32.ofNat n1) + LN)), .val (.ref b1), .val (.long (if LN = (8 : Int32) then own_P8 x0 x1 x2 x3 x4 x5 x6 x7 else -1)), .second, .val (.long (-1 : Int64)), .second] [(.int (1 : Int32))])) (fun t k => ?_) ?_
        · show Steps p.tables e below (T31.setTop (mkF m 475 #[.val (.long wa), .second, .val (.long wb), .second, .val (.int mode), .val (.int narrow), .val (.ref ac), .val (.ref an), .val (.int (Int32.ofNat n1)), .val (.int LN), .val (.int ((Int32.ofNat n1) + LN)), .val (.ref b1), .val (.long (if LN = (8 : Int32) then own_P8 x0 x1 x2 x3 x4 x5 x6 x7 else -1)), .second, .val (.long (-1 : Int64)), .second] [(.long (-1 : Int64)), (.long (if LN = (8 : Int32) then own_P8 x0 x1 x2 x3 x4 x5 x6 x7 else -1))])) _
          refine XS.lcmp X31.here hx rfl (hb hby at_475) rfl ?_
          refine XS.ifNo X31.here hx rfl (hb hby at_476) rfl ((if0 _ _).trans (teq ((lw_eq _ _).mpr hfin)).2) ?_
          refine XS.iconst X31.here hx rfl (hb hby at_479) ?_
          refine XS.goto X31.here hx rfl (pc0 := 480) (pc' := 484) rfl (hb hby at_480) (by decide) (by decide) ?_
          exact k
        exact own_retNW X31 hSq (by rw [e31]; exact (Nat.le_trans (Nat.le_trans (Nat.le_trans (Nat.le_trans (Nat.le_trans (Nat.le_trans (Nat.le_trans (Nat.le_trans (Nat.le_trans (Nat.le_trans (Nat.le_trans (Nat.le_trans (Nat.le_trans (Nat.le_trans (Nat.le_trans (Nat.le_trans (Nat.le_trans (Nat.le_trans (Nat.le_trans (Nat.le_trans (Nat.le_trans hkq E1.1) (Keep.of_wr W2).1) (Keep.of_wr W3).1) (Keep.of_wr W4).1) (Keep.of_wr W5).1) (Keep.of_wr W6).1) (Keep.of_wr W7).1) (Keep.of_wr W8).1) (Keep.of_wr W9).1) (Keep.of_wr W10).1) (Keep.of_wr W11).1) (Keep.of_wr W12).1) (Keep.of_wr W13).1) (Keep.of_wr W15).1) (Keep.of_wr W17).1) (Keep.of_wr W19).1) (Keep.of_wr W21).1) (Keep.of_wr W23).1) (Keep.of_wr W25).1) (Keep.of_wr W27).1) (Keep.of_wr W29).1)) hx Bd.notSynchronized (t := .boolean) Bd.returns (by simp) (hb hby at_484) ⟨rfl, N31⟩ (by decide) (by decide)
      · refine own_stepW (B := T31.setTop (mkF m 344 #[.val (.long wa), .second, .val (.long wb), .second, .val (.int mode), .val (.int narrow), .val (.ref ac), .val (.ref an), .val (.int (Int32.ofNat n1)), .val (.int LN), .val (.int ((Int32.ofNat n1) + LN)), .val (.ref b1), .val (.long (if LN = (8 : Int32) then own_P8 x0 x1 x2 x3 x4 x5 x6 x7 else -1)), .second, .unset, .unset] [(.int (1 : Int32)), (.ref an)])) (fun t k => ?_) ?_
        · show Steps p.tables e below (T31.setTop (mkF m 338 #[.val (.long wa), .second, .val (.long wb), .second, .val (.int mode), .val (.int narrow), .val (.ref ac), .val (.ref an), .val (.int (Int32.ofNat n1)), .val (.int LN), .val (.int ((Int32.ofNat n1) + LN)), .val (.ref b1), .val (.long (if LN = (8 : Int32) then own_P8 x0 x1 x2 x3 x4 x5 x6 x7 else -1)), .second, .unset, .unset] [(.int (own_nib x0))])) _
          refine XS.ifNo X31.here hx rfl (hb hby at_338) rfl ((if0 _ _).trans (flt hc338).1) ?_
          refine XS.aload X31.here hx rfl (hb hby at_341) rfl rfl ?_
          refine XS.iconst X31.here hx rfl (hb hby at_343) ?_
          exact k
        obtain ⟨cl33, Ar33, -, S33, NN33, Hs33, -⟩ := id ((((((((((((((((((((((Vn.ext E1).other W2 ne_an_b1).other W3 ne_an_b1).other W4 ne_an_b1).other W5 ne_an_b1).other W6 ne_an_b1).other W7 ne_an_b1).other W8 ne_an_b1).other W9 ne_an_b1).other W10 ne_an_b1).other W11 ne_an_b1).other W12 ne_an_b1).other W13 ne_an_b1).other W15 ne_an_b1).other W17 ne_an_b1).other W19 ne_an_b1).other W21 ne_an_b1).other W23 ne_an_b1).other W25 ne_an_b1).other W27 ne_an_b1).other W29 ne_an_b1))
        have hin33 : ¬ ((1 : Int32) < 0 ∨ cl33.slots.size ≤ ((1 : Int32)).toNatClampNeg) := inb_of S33 ⟨by decide, by decide⟩
        refine own_stepW (B := T31.setTop (mkF m 345 #[.val (.long wa), .second, .val (.long wb), .second, .val (.int mode), .val (.int narrow), .val (.ref ac), .val (.ref an), .val (.int (Int32.ofNat n1)), .val (.int LN), .val (.int ((Int32.ofNat n1) + LN)), .val (.ref b1), .val (.long (if LN = (8 : Int32) then own_P8 x0 x1 x2 x3 x4 x5 x6 x7 else -1)), .second, .unset, .unset] [(.int (own_nib x1))])) (fun t k => ?_) ?_
        · show Steps p.tables e below (T31.setTop (mkF m 344 #[.val (.long wa), .second, .val (.long wb), .second, .val (.int mode), .val (.int narrow), .val (.ref ac), .val (.ref an), .val (.int (Int32.ofNat n1)), .val (.int LN), .val (.int ((Int32.ofNat n1) + LN)), .val (.ref b1), .val (.long (if LN = (8 : Int32) then own_P8 x0 x1 x2 x3 x4 x5 x6 x7 else -1)), .second, .unset, .unset] [(.int (1 : Int32)), (.ref an)])) _
          refine X31.iaload hx (j := (1 : Int32)) (v := (.int (own_nib x1))) (by rw [e31]; exact Ar33.1) (State.isArrayOf_alike hZ.alike Ar33.2.1) Ar33.2.2 hin33 (Has.at Hs33 hin33 rfl) (g := (mkF m 344 #[.val (.long wa), .second, .val (.long wb), .second, .val (.int mode), .val (.int narrow), .val (.ref ac), .val (.ref an), .val (.int (Int32.ofNat n1)), .val (.int LN), .val (.int ((Int32.ofNat n1) + LN)), .val (.ref b1), .val (.long (if LN = (8 : Int32) then own_P8 x0 x1 x2 x3 x4 x5 x6 x7 else -1)), .second, .unset, .unset] [(.int (1 : Int32)), (.ref an)])) rfl rfl (hb hby at_344) _ ?_
          exact k
        by_cases hc345 : (own_nib x1) < (0 : Int32)
        · refine own_stepW (B := T31.setTop (mkF m 475 #[.val (.long wa), .second, .val (.long wb), .second, .val (.int mode), .val (.int narrow), .val (.ref ac), .val (.ref an), .val (.int (Int32.ofNat n1)), .val (.int LN), .val (.int ((Int32.ofNat n1) + LN)), .val (.ref b1), .val (.long (if LN = (8 : Int32) then own_P8 x0 x1 x2 x3 x4 x5 x6 x7 else -1)), .second, .val (.long (-1 : Int64)), .second] [(.long (-1 : Int64)), (.long (if LN = (8 : Int32) then own_P8 x0 x1 x2 x3 x4 x5 x6 x7 else -1))])) (fun t k => ?_) ?_
          · show Steps p.tables e below (T31.setTop (mkF m 345 #[.val (.long wa), .second, .val (.long wb), .second, .val (.int mode), .val (.int narrow), .val (.ref ac), .val (.ref an), .val (.int (Int32.ofNat n1)), .val (.int LN), .val (.int ((Int32.ofNat n1) + LN)), .val (.ref b1), .val (.long (if LN = (8 : Int32) then own_P8 x0 x1 x2 x3 x4 x5 x6 x7 else -1)), .second, .unset, .unset] [(.int (own_nib x1))])) _
            refine XS.ifYes X31.here hx rfl (pc0 := 345) (pc' := 392) rfl (hb hby at_345) rfl ((if0 _ _).trans (tlt hc345).1) (by decide) (by decide) ?_
            refine X31.ldc2Long hx hown (mvT hZ (hw _ (List.mem_of_getElem? (i := 15) rfl))) (g := (mkF m 392 #[.val (.long wa), .second, .val (.long wb), .second, .val (.int mode), .val (.int narrow), .val (.ref ac), .val (.ref an), .val (.int (Int32.ofNat n1)), .val (.int LN), .val (.int ((Int32.ofNat n1) + LN)), .val (.ref b1), .val (.long (if LN = (8 : Int32) then own_P8 x0 x1 x2 x3 x4 x5 x6 x7 else -1)), .second, .unset, .unset] [])) rfl (hb hby at_392) _ ?_
            refine XS.lstore X31.here hx rfl (hb hby at_395) rfl (l' := #[.val (.long wa), .second, .val (.long wb), .second, .val (.int mode), .val (.int narrow), .val (.ref ac), .val (.ref an), .val (.int (Int32.ofNat n1)), .val (.int LN), .val (.int ((Int32.ofNat n1) + LN)), .val (.ref b1), .val (.long (if LN = (8 : Int32) then own_P8 x0 x1 x2 x3 x4 x5 x6 x7 else -1)), .second, .val (.long (-1 : Int64)), .second]) rfl ?_
            refine XS.goto X31.here hx rfl (pc0 := 397) (pc' := 471) rfl (hb hby at_397) (by decide) (by decide) ?_
            refine XS.lload X31.here hx rfl (hb hby at_471) rfl ?_
            refine XS.lload X31.here hx rfl (hb hby at_473) rfl ?_
            exact k
          have hfin : (if LN = (8 : Int32) then own_P8 x0 x1 x2 x3 x4 x5 x6 x7 else -1) = (-1 : Int64) := by rw [if_pos hc323, own_P8, if_neg hc338, if_pos hc345]
          refine own_stepW (B := T31.setTop (mkF m 484 #[.val (.long wa), .second, .val (.long wb), .second, .val (.int mode), .val (.int narrow), .val (.ref ac), .val (.ref an), .val (.int (Int32.ofNat n1)), .val (.int LN), .val (.int ((Int32.ofNat n1) + LN)), .val (.ref b1), .val (.long (if LN = (8 : Int32) then own_P8 x0 x1 x2 x3 x4 x5 x6 x7 else -1)), .second, .val (.long (-1 : Int64)), .second] [(.int (1 : Int32))])) (fun t k => ?_) ?_
          · show Steps p.tables e below (T31.setTop (mkF m 475 #[.val (.long wa), .second, .val (.long wb), .second, .val (.int mode), .val (.int narrow), .val (.ref ac), .val (.ref an), .val (.int (Int32.ofNat n1)), .val (.int LN), .val (.int ((Int32.ofNat n1) + LN)), .val (.ref b1), .val (.long (if LN = (8 : Int32) then own_P8 x0 x1 x2 x3 x4 x5 x6 x7 else -1)), .second, .val (.long (-1 : Int64)), .second] [(.long (-1 : Int64)), (.long (if LN = (8 : Int32) then own_P8 x0 x1 x2 x3 x4 x5 x6 x7 else -1))])) _
            refine XS.lcmp X31.here hx rfl (hb hby at_475) rfl ?_
            refine XS.ifNo X31.here hx rfl (hb hby at_476) rfl ((if0 _ _).trans (teq ((lw_eq _ _).mpr hfin)).2) ?_
            refine XS.iconst X31.here hx rfl (hb hby at_479) ?_
            refine XS.goto X31.here hx rfl (pc0 := 480) (pc' := 484) rfl (hb hby at_480) (by decide) (by decide) ?_
            exact k
          exact own_retNW X31 hSq (by rw [e31]; exact (Nat.le_trans (Nat.le_trans (Nat.le_trans (Nat.le_trans (Nat.le_trans (Nat.le_trans (Nat.le_trans (Nat.le_trans (Nat.le_trans (Nat.le_trans (Nat.le_trans (Nat.le_trans (Nat.le_trans (Nat.le_trans (Nat.le_trans (Nat.le_trans (Nat.le_trans (Nat.le_trans (Nat.le_trans (Nat.le_trans (Nat.le_trans hkq E1.1) (Keep.of_wr W2).1) (Keep.of_wr W3).1) (Keep.of_wr W4).1) (Keep.of_wr W5).1) (Keep.of_wr W6).1) (Keep.of_wr W7).1) (Keep.of_wr W8).1) (Keep.of_wr W9).1) (Keep.of_wr W10).1) (Keep.of_wr W11).1) (Keep.of_wr W12).1) (Keep.of_wr W13).1) (Keep.of_wr W15).1) (Keep.of_wr W17).1) (Keep.of_wr W19).1) (Keep.of_wr W21).1) (Keep.of_wr W23).1) (Keep.of_wr W25).1) (Keep.of_wr W27).1) (Keep.of_wr W29).1)) hx Bd.notSynchronized (t := .boolean) Bd.returns (by simp) (hb hby at_484) ⟨rfl, N31⟩ (by decide) (by decide)
        · refine own_stepW (B := T31.setTop (mkF m 351 #[.val (.long wa), .second, .val (.long wb), .second, .val (.int mode), .val (.int narrow), .val (.ref ac), .val (.ref an), .val (.int (Int32.ofNat n1)), .val (.int LN), .val (.int ((Int32.ofNat n1) + LN)), .val (.ref b1), .val (.long (if LN = (8 : Int32) then own_P8 x0 x1 x2 x3 x4 x5 x6 x7 else -1)), .second, .unset, .unset] [(.int (2 : Int32)), (.ref an)])) (fun t k => ?_) ?_
          · show Steps p.tables e below (T31.setTop (mkF m 345 #[.val (.long wa), .second, .val (.long wb), .second, .val (.int mode), .val (.int narrow), .val (.ref ac), .val (.ref an), .val (.int (Int32.ofNat n1)), .val (.int LN), .val (.int ((Int32.ofNat n1) + LN)), .val (.ref b1), .val (.long (if LN = (8 : Int32) then own_P8 x0 x1 x2 x3 x4 x5 x6 x7 else -1)), .second, .unset, .unset] [(.int (own_nib x1))])) _
            refine XS.ifNo X31.here hx rfl (hb hby at_345) rfl ((if0 _ _).trans (flt hc345).1) ?_
            refine XS.aload X31.here hx rfl (hb hby at_348) rfl rfl ?_
            refine XS.iconst X31.here hx rfl (hb hby at_350) ?_
            exact k
          obtain ⟨cl34, Ar34, -, S34, NN34, Hs34, -⟩ := id ((((((((((((((((((((((Vn.ext E1).other W2 ne_an_b1).other W3 ne_an_b1).other W4 ne_an_b1).other W5 ne_an_b1).other W6 ne_an_b1).other W7 ne_an_b1).other W8 ne_an_b1).other W9 ne_an_b1).other W10 ne_an_b1).other W11 ne_an_b1).other W12 ne_an_b1).other W13 ne_an_b1).other W15 ne_an_b1).other W17 ne_an_b1).other W19 ne_an_b1).other W21 ne_an_b1).other W23 ne_an_b1).other W25 ne_an_b1).other W27 ne_an_b1).other W29 ne_an_b1))
          have hin34 : ¬ ((2 : Int32) < 0 ∨ cl34.slots.size ≤ ((2 : Int32)).toNatClampNeg) := inb_of S34 ⟨by decide, by decide⟩
          refine own_stepW (B := T31.setTop (mkF m 352 #[.val (.long wa), .second, .val (.long wb), .second, .val (.int mode), .val (.int narrow), .val (.ref ac), .val (.ref an), .val (.int (Int32.ofNat n1)), .val (.int LN), .val (.int ((Int32.ofNat n1) + LN)), .val (.ref b1), .val (.long (if LN = (8 : Int32) then own_P8 x0 x1 x2 x3 x4 x5 x6 x7 else -1)), .second, .unset, .unset] [(.int (own_nib x2))])) (fun t k => ?_) ?_
          · show Steps p.tables e below (T31.setTop (mkF m 351 #[.val (.long wa), .second, .val (.long wb), .second, .val (.int mode), .val (.int narrow), .val (.ref ac), .val (.ref an), .val (.int (Int32.ofNat n1)), .val (.int LN), .val (.int ((Int32.ofNat n1) + LN)), .val (.ref b1), .val (.long (if LN = (8 : Int32) then own_P8 x0 x1 x2 x3 x4 x5 x6 x7 else -1)), .second, .unset, .unset] [(.int (2 : Int32)), (.ref an)])) _
            refine X31.iaload hx (j := (2 : Int32)) (v := (.int (own_nib x2))) (by rw [e31]; exact Ar34.1) (State.isArrayOf_alike hZ.alike Ar34.2.1) Ar34.2.2 hin34 (Has.at Hs34 hin34 rfl) (g := (mkF m 351 #[.val (.long wa), .second, .val (.long wb), .second, .val (.int mode), .val (.int narrow), .val (.ref ac), .val (.ref an), .val (.int (Int32.ofNat n1)), .val (.int LN), .val (.int ((Int32.ofNat n1) + LN)), .val (.ref b1), .val (.long (if LN = (8 : Int32) then own_P8 x0 x1 x2 x3 x4 x5 x6 x7 else -1)), .second, .unset, .unset] [(.int (2 : Int32)), (.ref an)])) rfl rfl (hb hby at_351) _ ?_
            exact k
          by_cases hc352 : (own_nib x2) < (0 : Int32)
          · refine own_stepW (B := T31.setTop (mkF m 475 #[.val (.long wa), .second, .val (.long wb), .second, .val (.int mode), .val (.int narrow), .val (.ref ac), .val (.ref an), .val (.int (Int32.ofNat n1)), .val (.int LN), .val (.int ((Int32.ofNat n1) + LN)), .val (.ref b1), .val (.long (if LN = (8 : Int32) then own_P8 x0 x1 x2 x3 x4 x5 x6 x7 else -1)), .second, .val (.long (-1 : Int64)), .second] [(.long (-1 : Int64)), (.long (if LN = (8 : Int32) then own_P8 x0 x1 x2 x3 x4 x5 x6 x7 else -1))])) (fun t k => ?_) ?_
            · show Steps p.tables e below (T31.setTop (mkF m 352 #[.val (.long wa), .second, .val (.long wb), .second, .val (.int mode), .val (.int narrow), .val (.ref ac), .val (.ref an), .val (.int (Int32.ofNat n1)), .val (.int LN), .val (.int ((Int32.ofNat n1) + LN)), .val (.ref b1), .val (.long (if LN = (8 : Int32) then own_P8 x0 x1 x2 x3 x4 x5 x6 x7 else -1)), .second, .unset, .unset] [(.int (own_nib x2))])) _
              refine XS.ifYes X31.here hx rfl (pc0 := 352) (pc' := 392) rfl (hb hby at_352) rfl ((if0 _ _).trans (tlt hc352).1) (by decide) (by decide) ?_
              refine X31.ldc2Long hx hown (mvT hZ (hw _ (List.mem_of_getElem? (i := 15) rfl))) (g := (mkF m 392 #[.val (.long wa), .second, .val (.long wb), .second, .val (.int mode), .val (.int narrow), .val (.ref ac), .val (.ref an), .val (.int (Int32.ofNat n1)), .val (.int LN), .val (.int ((Int32.ofNat n1) + LN)), .val (.ref b1), .val (.long (if LN = (8 : Int32) then own_P8 x0 x1 x2 x3 x4 x5 x6 x7 else -1)), .second, .unset, .unset] [])) rfl (hb hby at_392) _ ?_
              refine XS.lstore X31.here hx rfl (hb hby at_395) rfl (l' := #[.val (.long wa), .second, .val (.long wb), .second, .val (.int mode), .val (.int narrow), .val (.ref ac), .val (.ref an), .val (.int (Int32.ofNat n1)), .val (.int LN), .val (.int ((Int32.ofNat n1) + LN)), .val (.ref b1), .val (.long (if LN = (8 : Int32) then own_P8 x0 x1 x2 x3 x4 x5 x6 x7 else -1)), .second, .val (.long (-1 : Int64)), .second]) rfl ?_
              refine XS.goto X31.here hx rfl (pc0 := 397) (pc' := 471) rfl (hb hby at_397) (by decide) (by decide) ?_
              refine XS.lload X31.here hx rfl (hb hby at_471) rfl ?_
              refine XS.lload X31.here hx rfl (hb hby at_473) rfl ?_
              exact k
            have hfin : (if LN = (8 : Int32) then own_P8 x0 x1 x2 x3 x4 x5 x6 x7 else -1) = (-1 : Int64) := by rw [if_pos hc323, own_P8, if_neg hc338, if_neg hc345, if_pos hc352]
            refine own_stepW (B := T31.setTop (mkF m 484 #[.val (.long wa), .second, .val (.long wb), .second, .val (.int mode), .val (.int narrow), .val (.ref ac), .val (.ref an), .val (.int (Int32.ofNat n1)), .val (.int LN), .val (.int ((Int32.ofNat n1) + LN)), .val (.ref b1), .val (.long (if LN = (8 : Int32) then own_P8 x0 x1 x2 x3 x4 x5 x6 x7 else -1)), .second, .val (.long (-1 : Int64)), .second] [(.int (1 : Int32))])) (fun t k => ?_) ?_
            · show Steps p.tables e below (T31.setTop (mkF m 475 #[.val (.long wa), .second, .val (.long wb), .second, .val (.int mode), .val (.int narrow), .val (.ref ac), .val (.ref an), .val (.int (Int32.ofNat n1)), .val (.int LN), .val (.int ((Int32.ofNat n1) + LN)), .val (.ref b1), .val (.long (if LN = (8 : Int32) then own_P8 x0 x1 x2 x3 x4 x5 x6 x7 else -1)), .second, .val (.long (-1 : Int64)), .second] [(.long (-1 : Int64)), (.long (if LN = (8 : Int32) then own_P8 x0 x1 x2 x3 x4 x5 x6 x7 else -1))])) _
              refine XS.lcmp X31.here hx rfl (hb hby at_475) rfl ?_
              refine XS.ifNo X31.here hx rfl (hb hby at_476) rfl ((if0 _ _).trans (teq ((lw_eq _ _).mpr hfin)).2) ?_
              refine XS.iconst X31.here hx rfl (hb hby at_479) ?_
              refine XS.goto X31.here hx rfl (pc0 := 480) (pc' := 484) rfl (hb hby at_480) (by decide) (by decide) ?_
              exact k
            exact own_retNW X31 hSq (by rw [e31]; exact (Nat.le_trans (Nat.le_trans (Nat.le_trans (Nat.le_trans (Nat.le_trans (Nat.le_trans (Nat.le_trans (Nat.le_trans (Nat.le_trans (Nat.le_trans (Nat.le_trans (Nat.le_trans (Nat.le_trans (Nat.le_trans (Nat.le_trans (Nat.le_trans (Nat.le_trans (Nat.le_trans (Nat.le_trans (Nat.le_trans (Nat.le_trans hkq E1.1) (Keep.of_wr W2).1) (Keep.of_wr W3).1) (Keep.of_wr W4).1) (Keep.of_wr W5).1) (Keep.of_wr W6).1) (Keep.of_wr W7).1) (Keep.of_wr W8).1) (Keep.of_wr W9).1) (Keep.of_wr W10).1) (Keep.of_wr W11).1) (Keep.of_wr W12).1) (Keep.of_wr W13).1) (Keep.of_wr W15).1) (Keep.of_wr W17).1) (Keep.of_wr W19).1) (Keep.of_wr W21).1) (Keep.of_wr W23).1) (Keep.of_wr W25).1) (Keep.of_wr W27).1) (Keep.of_wr W29).1)) hx Bd.notSynchronized (t := .boolean) Bd.returns (by simp) (hb hby at_484) ⟨rfl, N31⟩ (by decide) (by decide)
          · refine own_stepW (B := T31.setTop (mkF m 358 #[.val (.long wa), .second, .val (.long wb), .second, .val (.int mode), .val (.int narrow), .val (.ref ac), .val (.ref an), .val (.int (Int32.ofNat n1)), .val (.int LN), .val (.int ((Int32.ofNat n1) + LN)), .val (.ref b1), .val (.long (if LN = (8 : Int32) then own_P8 x0 x1 x2 x3 x4 x5 x6 x7 else -1)), .second, .unset, .unset] [(.int (3 : Int32)), (.ref an)])) (fun t k => ?_) ?_
            · show Steps p.tables e below (T31.setTop (mkF m 352 #[.val (.long wa), .second, .val (.long wb), .second, .val (.int mode), .val (.int narrow), .val (.ref ac), .val (.ref an), .val (.int (Int32.ofNat n1)), .val (.int LN), .val (.int ((Int32.ofNat n1) + LN)), .val (.ref b1), .val (.long (if LN = (8 : Int32) then own_P8 x0 x1 x2 x3 x4 x5 x6 x7 else -1)), .second, .unset, .unset] [(.int (own_nib x2))])) _
              refine XS.ifNo X31.here hx rfl (hb hby at_352) rfl ((if0 _ _).trans (flt hc352).1) ?_
              refine XS.aload X31.here hx rfl (hb hby at_355) rfl rfl ?_
              refine XS.iconst X31.here hx rfl (hb hby at_357) ?_
              exact k
            obtain ⟨cl35, Ar35, -, S35, NN35, Hs35, -⟩ := id ((((((((((((((((((((((Vn.ext E1).other W2 ne_an_b1).other W3 ne_an_b1).other W4 ne_an_b1).other W5 ne_an_b1).other W6 ne_an_b1).other W7 ne_an_b1).other W8 ne_an_b1).other W9 ne_an_b1).other W10 ne_an_b1).other W11 ne_an_b1).other W12 ne_an_b1).other W13 ne_an_b1).other W15 ne_an_b1).other W17 ne_an_b1).other W19 ne_an_b1).other W21 ne_an_b1).other W23 ne_an_b1).other W25 ne_an_b1).other W27 ne_an_b1).other W29 ne_an_b1))
            have hin35 : ¬ ((3 : Int32) < 0 ∨ cl35.slots.size ≤ ((3 : Int32)).toNatClampNeg) := inb_of S35 ⟨by decide, by decide⟩
            refine own_stepW (B := T31.setTop (mkF m 359 #[.val (.long wa), .second, .val (.long wb), .second, .val (.int mode), .val (.int narrow), .val (.ref ac), .val (.ref an), .val (.int (Int32.ofNat n1)), .val (.int LN), .val (.int ((Int32.ofNat n1) + LN)), .val (.ref b1), .val (.long (if LN = (8 : Int32) then own_P8 x0 x1 x2 x3 x4 x5 x6 x7 else -1)), .second, .unset, .unset] [(.int (own_nib x3))])) (fun t k => ?_) ?_
            · show Steps p.tables e below (T31.setTop (mkF m 358 #[.val (.long wa), .second, .val (.long wb), .second, .val (.int mode), .val (.int narrow), .val (.ref ac), .val (.ref an), .val (.int (Int32.ofNat n1)), .val (.int LN), .val (.int ((Int32.ofNat n1) + LN)), .val (.ref b1), .val (.long (if LN = (8 : Int32) then own_P8 x0 x1 x2 x3 x4 x5 x6 x7 else -1)), .second, .unset, .unset] [(.int (3 : Int32)), (.ref an)])) _
              refine X31.iaload hx (j := (3 : Int32)) (v := (.int (own_nib x3))) (by rw [e31]; exact Ar35.1) (State.isArrayOf_alike hZ.alike Ar35.2.1) Ar35.2.2 hin35 (Has.at Hs35 hin35 rfl) (g := (mkF m 358 #[.val (.long wa), .second, .val (.long wb), .second, .val (.int mode), .val (.int narrow), .val (.ref ac), .val (.ref an), .val (.int (Int32.ofNat n1)), .val (.int LN), .val (.int ((Int32.ofNat n1) + LN)), .val (.ref b1), .val (.long (if LN = (8 : Int32) then own_P8 x0 x1 x2 x3 x4 x5 x6 x7 else -1)), .second, .unset, .unset] [(.int (3 : Int32)), (.ref an)])) rfl rfl (hb hby at_358) _ ?_
              exact k
            by_cases hc359 : (own_nib x3) < (0 : Int32)
            · refine own_stepW (B := T31.setTop (mkF m 475 #[.val (.long wa), .second, .val (.long wb), .second, .val (.int mode), .val (.int narrow), .val (.ref ac), .val (.ref an), .val (.int (Int32.ofNat n1)), .val (.int LN), .val (.int ((Int32.ofNat n1) + LN)), .val (.ref b1), .val (.long (if LN = (8 : Int32) then own_P8 x0 x1 x2 x3 x4 x5 x6 x7 else -1)), .second, .val (.long (-1 : Int64)), .second] [(.long (-1 : Int64)), (.long (if LN = (8 : Int32) then own_P8 x0 x1 x2 x3 x4 x5 x6 x7 else -1))])) (fun t k => ?_) ?_
              · show Steps p.tables e below (T31.setTop (mkF m 359 #[.val (.long wa), .second, .val (.long wb), .second, .val (.int mode), .val (.int narrow), .val (.ref ac), .val (.ref an), .val (.int (Int32.ofNat n1)), .val (.int LN), .val (.int ((Int32.ofNat n1) + LN)), .val (.ref b1), .val (.long (if LN = (8 : Int32) then own_P8 x0 x1 x2 x3 x4 x5 x6 x7 else -1)), .second, .unset, .unset] [(.int (own_nib x3))])) _
                refine XS.ifYes X31.here hx rfl (pc0 := 359) (pc' := 392) rfl (hb hby at_359) rfl ((if0 _ _).trans (tlt hc359).1) (by decide) (by decide) ?_
                refine X31.ldc2Long hx hown (mvT hZ (hw _ (List.mem_of_getElem? (i := 15) rfl))) (g := (mkF m 392 #[.val (.long wa), .second, .val (.long wb), .second, .val (.int mode), .val (.int narrow), .val (.ref ac), .val (.ref an), .val (.int (Int32.ofNat n1)), .val (.int LN), .val (.int ((Int32.ofNat n1) + LN)), .val (.ref b1), .val (.long (if LN = (8 : Int32) then own_P8 x0 x1 x2 x3 x4 x5 x6 x7 else -1)), .second, .unset, .unset] [])) rfl (hb hby at_392) _ ?_
                refine XS.lstore X31.here hx rfl (hb hby at_395) rfl (l' := #[.val (.long wa), .second, .val (.long wb), .second, .val (.int mode), .val (.int narrow), .val (.ref ac), .val (.ref an), .val (.int (Int32.ofNat n1)), .val (.int LN), .val (.int ((Int32.ofNat n1) + LN)), .val (.ref b1), .val (.long (if LN = (8 : Int32) then own_P8 x0 x1 x2 x3 x4 x5 x6 x7 else -1)), .second, .val (.long (-1 : Int64)), .second]) rfl ?_
                refine XS.goto X31.here hx rfl (pc0 := 397) (pc' := 471) rfl (hb hby at_397) (by decide) (by decide) ?_
                refine XS.lload X31.here hx rfl (hb hby at_471) rfl ?_
                refine XS.lload X31.here hx rfl (hb hby at_473) rfl ?_
                exact k
              have hfin : (if LN = (8 : Int32) then own_P8 x0 x1 x2 x3 x4 x5 x6 x7 else -1) = (-1 : Int64) := by rw [if_pos hc323, own_P8, if_neg hc338, if_neg hc345, if_neg hc352, if_pos hc359]
              refine own_stepW (B := T31.setTop (mkF m 484 #[.val (.long wa), .second, .val (.long wb), .second, .val (.int mode), .val (.int narrow), .val (.ref ac), .val (.ref an), .val (.int (Int32.ofNat n1)), .val (.int LN), .val (.int ((Int32.ofNat n1) + LN)), .val (.ref b1), .val (.long (if LN = (8 : Int32) then own_P8 x0 x1 x2 x3 x4 x5 x6 x7 else -1)), .second, .val (.long (-1 : Int64)), .second] [(.int (1 : Int32))])) (fun t k => ?_) ?_
              · show Steps p.tables e below (T31.setTop (mkF m 475 #[.val (.long wa), .second, .val (.long wb), .second, .val (.int mode), .val (.int narrow), .val (.ref ac), .val (.ref an), .val (.int (Int32.ofNat n1)), .val (.int LN), .val (.int ((Int32.ofNat n1) + LN)), .val (.ref b1), .val (.long (if LN = (8 : Int32) then own_P8 x0 x1 x2 x3 x4 x5 x6 x7 else -1)), .second, .val (.long (-1 : Int64)), .second] [(.long (-1 : Int64)), (.long (if LN = (8 : Int32) then own_P8 x0 x1 x2 x3 x4 x5 x6 x7 else -1))])) _
                refine XS.lcmp X31.here hx rfl (hb hby at_475) rfl ?_
                refine XS.ifNo X31.here hx rfl (hb hby at_476) rfl ((if0 _ _).trans (teq ((lw_eq _ _).mpr hfin)).2) ?_
                refine XS.iconst X31.here hx rfl (hb hby at_479) ?_
                refine XS.goto X31.here hx rfl (pc0 := 480) (pc' := 484) rfl (hb hby at_480) (by decide) (by decide) ?_
                exact k
              exact own_retNW X31 hSq (by rw [e31]; exact (Nat.le_trans (Nat.le_trans (Nat.le_trans (Nat.le_trans (Nat.le_trans (Nat.le_trans (Nat.le_trans (Nat.le_trans (Nat.le_trans (Nat.le_trans (Nat.le_trans (Nat.le_trans (Nat.le_trans (Nat.le_trans (Nat.le_trans (Nat.le_trans (Nat.le_trans (Nat.le_trans (Nat.le_trans (Nat.le_trans (Nat.le_trans hkq E1.1) (Keep.of_wr W2).1) (Keep.of_wr W3).1) (Keep.of_wr W4).1) (Keep.of_wr W5).1) (Keep.of_wr W6).1) (Keep.of_wr W7).1) (Keep.of_wr W8).1) (Keep.of_wr W9).1) (Keep.of_wr W10).1) (Keep.of_wr W11).1) (Keep.of_wr W12).1) (Keep.of_wr W13).1) (Keep.of_wr W15).1) (Keep.of_wr W17).1) (Keep.of_wr W19).1) (Keep.of_wr W21).1) (Keep.of_wr W23).1) (Keep.of_wr W25).1) (Keep.of_wr W27).1) (Keep.of_wr W29).1)) hx Bd.notSynchronized (t := .boolean) Bd.returns (by simp) (hb hby at_484) ⟨rfl, N31⟩ (by decide) (by decide)
            · refine own_stepW (B := T31.setTop (mkF m 365 #[.val (.long wa), .second, .val (.long wb), .second, .val (.int mode), .val (.int narrow), .val (.ref ac), .val (.ref an), .val (.int (Int32.ofNat n1)), .val (.int LN), .val (.int ((Int32.ofNat n1) + LN)), .val (.ref b1), .val (.long (if LN = (8 : Int32) then own_P8 x0 x1 x2 x3 x4 x5 x6 x7 else -1)), .second, .unset, .unset] [(.int (4 : Int32)), (.ref an)])) (fun t k => ?_) ?_
              · show Steps p.tables e below (T31.setTop (mkF m 359 #[.val (.long wa), .second, .val (.long wb), .second, .val (.int mode), .val (.int narrow), .val (.ref ac), .val (.ref an), .val (.int (Int32.ofNat n1)), .val (.int LN), .val (.int ((Int32.ofNat n1) + LN)), .val (.ref b1), .val (.long (if LN = (8 : Int32) then own_P8 x0 x1 x2 x3 x4 x5 x6 x7 else -1)), .second, .unset, .unset] [(.int (own_nib x3))])) _
                refine XS.ifNo X31.here hx rfl (hb hby at_359) rfl ((if0 _ _).trans (flt hc359).1) ?_
                refine XS.aload X31.here hx rfl (hb hby at_362) rfl rfl ?_
                refine XS.iconst X31.here hx rfl (hb hby at_364) ?_
                exact k
              obtain ⟨cl36, Ar36, -, S36, NN36, Hs36, -⟩ := id ((((((((((((((((((((((Vn.ext E1).other W2 ne_an_b1).other W3 ne_an_b1).other W4 ne_an_b1).other W5 ne_an_b1).other W6 ne_an_b1).other W7 ne_an_b1).other W8 ne_an_b1).other W9 ne_an_b1).other W10 ne_an_b1).other W11 ne_an_b1).other W12 ne_an_b1).other W13 ne_an_b1).other W15 ne_an_b1).other W17 ne_an_b1).other W19 ne_an_b1).other W21 ne_an_b1).other W23 ne_an_b1).other W25 ne_an_b1).other W27 ne_an_b1).other W29 ne_an_b1))
              have hin36 : ¬ ((4 : Int32) < 0 ∨ cl36.slots.size ≤ ((4 : Int32)).toNatClampNeg) := inb_of S36 ⟨by decide, by decide⟩
              refine own_stepW (B := T31.setTop (mkF m 366 #[.val (.long wa), .second, .val (.long wb), .second, .val (.int mode), .val (.int narrow), .val (.ref ac), .val (.ref an), .val (.int (Int32.ofNat n1)), .val (.int LN), .val (.int ((Int32.ofNat n1) + LN)), .val (.ref b1), .val (.long (if LN = (8 : Int32) then own_P8 x0 x1 x2 x3 x4 x5 x6 x7 else -1)), .second, .unset, .unset] [(.int (own_nib x4))])) (fun t k => ?_) ?_
              · show Steps p.tables e below (T31.setTop (mkF m 365 #[.val (.long wa), .second, .val (.long wb), .second, .val (.int mode), .val (.int narrow), .val (.ref ac), .val (.ref an), .val (.int (Int32.ofNat n1)), .val (.int LN), .val (.int ((Int32.ofNat n1) + LN)), .val (.ref b1), .val (.long (if LN = (8 : Int32) then own_P8 x0 x1 x2 x3 x4 x5 x6 x7 else -1)), .second, .unset, .unset] [(.int (4 : Int32)), (.ref an)])) _
                refine X31.iaload hx (j := (4 : Int32)) (v := (.int (own_nib x4))) (by rw [e31]; exact Ar36.1) (State.isArrayOf_alike hZ.alike Ar36.2.1) Ar36.2.2 hin36 (Has.at Hs36 hin36 rfl) (g := (mkF m 365 #[.val (.long wa), .second, .val (.long wb), .second, .val (.int mode), .val (.int narrow), .val (.ref ac), .val (.ref an), .val (.int (Int32.ofNat n1)), .val (.int LN), .val (.int ((Int32.ofNat n1) + LN)), .val (.ref b1), .val (.long (if LN = (8 : Int32) then own_P8 x0 x1 x2 x3 x4 x5 x6 x7 else -1)), .second, .unset, .unset] [(.int (4 : Int32)), (.ref an)])) rfl rfl (hb hby at_365) _ ?_
                exact k
              by_cases hc366 : (own_nib x4) < (0 : Int32)
              · refine own_stepW (B := T31.setTop (mkF m 475 #[.val (.long wa), .second, .val (.long wb), .second, .val (.int mode), .val (.int narrow), .val (.ref ac), .val (.ref an), .val (.int (Int32.ofNat n1)), .val (.int LN), .val (.int ((Int32.ofNat n1) + LN)), .val (.ref b1), .val (.long (if LN = (8 : Int32) then own_P8 x0 x1 x2 x3 x4 x5 x6 x7 else -1)), .second, .val (.long (-1 : Int64)), .second] [(.long (-1 : Int64)), (.long (if LN = (8 : Int32) then own_P8 x0 x1 x2 x3 x4 x5 x6 x7 else -1))])) (fun t k => ?_) ?_
                · show Steps p.tables e below (T31.setTop (mkF m 366 #[.val (.long wa), .second, .val (.long wb), .second, .val (.int mode), .val (.int narrow), .val (.ref ac), .val (.ref an), .val (.int (Int32.ofNat n1)), .val (.int LN), .val (.int ((Int32.ofNat n1) + LN)), .val (.ref b1), .val (.long (if LN = (8 : Int32) then own_P8 x0 x1 x2 x3 x4 x5 x6 x7 else -1)), .second, .unset, .unset] [(.int (own_nib x4))])) _
                  refine XS.ifYes X31.here hx rfl (pc0 := 366) (pc' := 392) rfl (hb hby at_366) rfl ((if0 _ _).trans (tlt hc366).1) (by decide) (by decide) ?_
                  refine X31.ldc2Long hx hown (mvT hZ (hw _ (List.mem_of_getElem? (i := 15) rfl))) (g := (mkF m 392 #[.val (.long wa), .second, .val (.long wb), .second, .val (.int mode), .val (.int narrow), .val (.ref ac), .val (.ref an), .val (.int (Int32.ofNat n1)), .val (.int LN), .val (.int ((Int32.ofNat n1) + LN)), .val (.ref b1), .val (.long (if LN = (8 : Int32) then own_P8 x0 x1 x2 x3 x4 x5 x6 x7 else -1)), .second, .unset, .unset] [])) rfl (hb hby at_392) _ ?_
                  refine XS.lstore X31.here hx rfl (hb hby at_395) rfl (l' := #[.val (.long wa), .second, .val (.long wb), .second, .val (.int mode), .val (.int narrow), .val (.ref ac), .val (.ref an), .val (.int (Int32.ofNat n1)), .val (.int LN), .val (.int ((Int32.ofNat n1) + LN)), .val (.ref b1), .val (.long (if LN = (8 : Int32) then own_P8 x0 x1 x2 x3 x4 x5 x6 x7 else -1)), .second, .val (.long (-1 : Int64)), .second]) rfl ?_
                  refine XS.goto X31.here hx rfl (pc0 := 397) (pc' := 471) rfl (hb hby at_397) (by decide) (by decide) ?_
                  refine XS.lload X31.here hx rfl (hb hby at_471) rfl ?_
                  refine XS.lload X31.here hx rfl (hb hby at_473) rfl ?_
                  exact k
                have hfin : (if LN = (8 : Int32) then own_P8 x0 x1 x2 x3 x4 x5 x6 x7 else -1) = (-1 : Int64) := by rw [if_pos hc323, own_P8, if_neg hc338, if_neg hc345, if_neg hc352, if_neg hc359, if_pos hc366]
                refine own_stepW (B := T31.setTop (mkF m 484 #[.val (.long wa), .second, .val (.long wb), .second, .val (.int mode), .val (.int narrow), .val (.ref ac), .val (.ref an), .val (.int (Int32.ofNat n1)), .val (.int LN), .val (.int ((Int32.ofNat n1) + LN)), .val (.ref b1), .val (.long (if LN = (8 : Int32) then own_P8 x0 x1 x2 x3 x4 x5 x6 x7 else -1)), .second, .val (.long (-1 : Int64)), .second] [(.int (1 : Int32))])) (fun t k => ?_) ?_
                · show Steps p.tables e below (T31.setTop (mkF m 475 #[.val (.long wa), .second, .val (.long wb), .second, .val (.int mode), .val (.int narrow), .val (.ref ac), .val (.ref an), .val (.int (Int32.ofNat n1)), .val (.int LN), .val (.int ((Int32.ofNat n1) + LN)), .val (.ref b1), .val (.long (if LN = (8 : Int32) then own_P8 x0 x1 x2 x3 x4 x5 x6 x7 else -1)), .second, .val (.long (-1 : Int64)), .second] [(.long (-1 : Int64)), (.long (if LN = (8 : Int32) then own_P8 x0 x1 x2 x3 x4 x5 x6 x7 else -1))])) _
                  refine XS.lcmp X31.here hx rfl (hb hby at_475) rfl ?_
                  refine XS.ifNo X31.here hx rfl (hb hby at_476) rfl ((if0 _ _).trans (teq ((lw_eq _ _).mpr hfin)).2) ?_
                  refine XS.iconst X31.here hx rfl (hb hby at_479) ?_
                  refine XS.goto X31.here hx rfl (pc0 := 480) (pc' := 484) rfl (hb hby at_480) (by decide) (by decide) ?_
                  exact k
                exact own_retNW X31 hSq (by rw [e31]; exact (Nat.le_trans (Nat.le_trans (Nat.le_trans (Nat.le_trans (Nat.le_trans (Nat.le_trans (Nat.le_trans (Nat.le_trans (Nat.le_trans (Nat.le_trans (Nat.le_trans (Nat.le_trans (Nat.le_trans (Nat.le_trans (Nat.le_trans (Nat.le_trans (Nat.le_trans (Nat.le_trans (Nat.le_trans (Nat.le_trans (Nat.le_trans hkq E1.1) (Keep.of_wr W2).1) (Keep.of_wr W3).1) (Keep.of_wr W4).1) (Keep.of_wr W5).1) (Keep.of_wr W6).1) (Keep.of_wr W7).1) (Keep.of_wr W8).1) (Keep.of_wr W9).1) (Keep.of_wr W10).1) (Keep.of_wr W11).1) (Keep.of_wr W12).1) (Keep.of_wr W13).1) (Keep.of_wr W15).1) (Keep.of_wr W17).1) (Keep.of_wr W19).1) (Keep.of_wr W21).1) (Keep.of_wr W23).1) (Keep.of_wr W25).1) (Keep.of_wr W27).1) (Keep.of_wr W29).1)) hx Bd.notSynchronized (t := .boolean) Bd.returns (by simp) (hb hby at_484) ⟨rfl, N31⟩ (by decide) (by decide)
              · refine own_stepW (B := T31.setTop (mkF m 372 #[.val (.long wa), .second, .val (.long wb), .second, .val (.int mode), .val (.int narrow), .val (.ref ac), .val (.ref an), .val (.int (Int32.ofNat n1)), .val (.int LN), .val (.int ((Int32.ofNat n1) + LN)), .val (.ref b1), .val (.long (if LN = (8 : Int32) then own_P8 x0 x1 x2 x3 x4 x5 x6 x7 else -1)), .second, .unset, .unset] [(.int (5 : Int32)), (.ref an)])) (fun t k => ?_) ?_
                · show Steps p.tables e below (T31.setTop (mkF m 366 #[.val (.long wa), .second, .val (.long wb), .second, .val (.int mode), .val (.int narrow), .val (.ref ac), .val (.ref an), .val (.int (Int32.ofNat n1)), .val (.int LN), .val (.int ((Int32.ofNat n1) + LN)), .val (.ref b1), .val (.long (if LN = (8 : Int32) then own_P8 x0 x1 x2 x3 x4 x5 x6 x7 else -1)), .second, .unset, .unset] [(.int (own_nib x4))])) _
                  refine XS.ifNo X31.here hx rfl (hb hby at_366) rfl ((if0 _ _).trans (flt hc366).1) ?_
                  refine XS.aload X31.here hx rfl (hb hby at_369) rfl rfl ?_
                  refine XS.iconst X31.here hx rfl (hb hby at_371) ?_
                  exact k
                obtain ⟨cl37, Ar37, -, S37, NN37, Hs37, -⟩ := id ((((((((((((((((((((((Vn.ext E1).other W2 ne_an_b1).other W3 ne_an_b1).other W4 ne_an_b1).other W5 ne_an_b1).other W6 ne_an_b1).other W7 ne_an_b1).other W8 ne_an_b1).other W9 ne_an_b1).other W10 ne_an_b1).other W11 ne_an_b1).other W12 ne_an_b1).other W13 ne_an_b1).other W15 ne_an_b1).other W17 ne_an_b1).other W19 ne_an_b1).other W21 ne_an_b1).other W23 ne_an_b1).other W25 ne_an_b1).other W27 ne_an_b1).other W29 ne_an_b1))
                have hin37 : ¬ ((5 : Int32) < 0 ∨ cl37.slots.size ≤ ((5 : Int32)).toNatClampNeg) := inb_of S37 ⟨by decide, by decide⟩
                refine own_stepW (B := T31.setTop (mkF m 373 #[.val (.long wa), .second, .val (.long wb), .second, .val (.int mode), .val (.int narrow), .val (.ref ac), .val (.ref an), .val (.int (Int32.ofNat n1)), .val (.int LN), .val (.int ((Int32.ofNat n1) + LN)), .val (.ref b1), .val (.long (if LN = (8 : Int32) then own_P8 x0 x1 x2 x3 x4 x5 x6 x7 else -1)), .second, .unset, .unset] [(.int (own_nib x5))])) (fun t k => ?_) ?_
                · show Steps p.tables e below (T31.setTop (mkF m 372 #[.val (.long wa), .second, .val (.long wb), .second, .val (.int mode), .val (.int narrow), .val (.ref ac), .val (.ref an), .val (.int (Int32.ofNat n1)), .val (.int LN), .val (.int ((Int32.ofNat n1) + LN)), .val (.ref b1), .val (.long (if LN = (8 : Int32) then own_P8 x0 x1 x2 x3 x4 x5 x6 x7 else -1)), .second, .unset, .unset] [(.int (5 : Int32)), (.ref an)])) _
                  refine X31.iaload hx (j := (5 : Int32)) (v := (.int (own_nib x5))) (by rw [e31]; exact Ar37.1) (State.isArrayOf_alike hZ.alike Ar37.2.1) Ar37.2.2 hin37 (Has.at Hs37 hin37 rfl) (g := (mkF m 372 #[.val (.long wa), .second, .val (.long wb), .second, .val (.int mode), .val (.int narrow), .val (.ref ac), .val (.ref an), .val (.int (Int32.ofNat n1)), .val (.int LN), .val (.int ((Int32.ofNat n1) + LN)), .val (.ref b1), .val (.long (if LN = (8 : Int32) then own_P8 x0 x1 x2 x3 x4 x5 x6 x7 else -1)), .second, .unset, .unset] [(.int (5 : Int32)), (.ref an)])) rfl rfl (hb hby at_372) _ ?_
                  exact k
                by_cases hc373 : (own_nib x5) < (0 : Int32)
                · refine own_stepW (B := T31.setTop (mkF m 475 #[.val (.long wa), .second, .val (.long wb), .second, .val (.int mode), .val (.int narrow), .val (.ref ac), .val (.ref an), .val (.int (Int32.ofNat n1)), .val (.int LN), .val (.int ((Int32.ofNat n1) + LN)), .val (.ref b1), .val (.long (if LN = (8 : Int32) then own_P8 x0 x1 x2 x3 x4 x5 x6 x7 else -1)), .second, .val (.long (-1 : Int64)), .second] [(.long (-1 : Int64)), (.long (if LN = (8 : Int32) then own_P8 x0 x1 x2 x3 x4 x5 x6 x7 else -1))])) (fun t k => ?_) ?_
                  · show Steps p.tables e below (T31.setTop (mkF m 373 #[.val (.long wa), .second, .val (.long wb), .second, .val (.int mode), .val (.int narrow), .val (.ref ac), .val (.ref an), .val (.int (Int32.ofNat n1)), .val (.int LN), .val (.int ((Int32.ofNat n1) + LN)), .val (.ref b1), .val (.long (if LN = (8 : Int32) then own_P8 x0 x1 x2 x3 x4 x5 x6 x7 else -1)), .second, .unset, .unset] [(.int (own_nib x5))])) _
                    refine XS.ifYes X31.here hx rfl (pc0 := 373) (pc' := 392) rfl (hb hby at_373) rfl ((if0 _ _).trans (tlt hc373).1) (by decide) (by decide) ?_
                    refine X31.ldc2Long hx hown (mvT hZ (hw _ (List.mem_of_getElem? (i := 15) rfl))) (g := (mkF m 392 #[.val (.long wa), .second, .val (.long wb), .second, .val (.int mode), .val (.int narrow), .val (.ref ac), .val (.ref an), .val (.int (Int32.ofNat n1)), .val (.int LN), .val (.int ((Int32.ofNat n1) + LN)), .val (.ref b1), .val (.long (if LN = (8 : Int32) then own_P8 x0 x1 x2 x3 x4 x5 x6 x7 else -1)), .second, .unset, .unset] [])) rfl (hb hby at_392) _ ?_
                    refine XS.lstore X31.here hx rfl (hb hby at_395) rfl (l' := #[.val (.long wa), .second, .val (.long wb), .second, .val (.int mode), .val (.int narrow), .val (.ref ac), .val (.ref an), .val (.int (Int32.ofNat n1)), .val (.int LN), .val (.int ((Int32.ofNat n1) + LN)), .val (.ref b1), .val (.long (if LN = (8 : Int32) then own_P8 x0 x1 x2 x3 x4 x5 x6 x7 else -1)), .second, .val (.long (-1 : Int64)), .second]) rfl ?_
                    refine XS.goto X31.here hx rfl (pc0 := 397) (pc' := 471) rfl (hb hby at_397) (by decide) (by decide) ?_
                    refine XS.lload X31.here hx rfl (hb hby at_471) rfl ?_
                    refine XS.lload X31.here hx rfl (hb hby at_473) rfl ?_
                    exact k
                  have hfin : (if LN = (8 : Int32) then own_P8 x0 x1 x2 x3 x4 x5 x6 x7 else -1) = (-1 : Int64) := by rw [if_pos hc323, own_P8, if_neg hc338, if_neg hc345, if_neg hc352, if_neg hc359, if_neg hc366, if_pos hc373]
                  refine own_stepW (B := T31.setTop (mkF m 484 #[.val (.long wa), .second, .val (.long wb), .second, .val (.int mode), .val (.int narrow), .val (.ref ac), .val (.ref an), .val (.int (Int32.ofNat n1)), .val (.int LN), .val (.int ((Int32.ofNat n1) + LN)), .val (.ref b1), .val (.long (if LN = (8 : Int32) then own_P8 x0 x1 x2 x3 x4 x5 x6 x7 else -1)), .second, .val (.long (-1 : Int64)), .second] [(.int (1 : Int32))])) (fun t k => ?_) ?_
                  · show Steps p.tables e below (T31.setTop (mkF m 475 #[.val (.long wa), .second, .val (.long wb), .second, .val (.int mode), .val (.int narrow), .val (.ref ac), .val (.ref an), .val (.int (Int32.ofNat n1)), .val (.int LN), .val (.int ((Int32.ofNat n1) + LN)), .val (.ref b1), .val (.long (if LN = (8 : Int32) then own_P8 x0 x1 x2 x3 x4 x5 x6 x7 else -1)), .second, .val (.long (-1 : Int64)), .second] [(.long (-1 : Int64)), (.long (if LN = (8 : Int32) then own_P8 x0 x1 x2 x3 x4 x5 x6 x7 else -1))])) _
                    refine XS.lcmp X31.here hx rfl (hb hby at_475) rfl ?_
                    refine XS.ifNo X31.here hx rfl (hb hby at_476) rfl ((if0 _ _).trans (teq ((lw_eq _ _).mpr hfin)).2) ?_
                    refine XS.iconst X31.here hx rfl (hb hby at_479) ?_
                    refine XS.goto X31.here hx rfl (pc0 := 480) (pc' := 484) rfl (hb hby at_480) (by decide) (by decide) ?_
                    exact k
                  exact own_retNW X31 hSq (by rw [e31]; exact (Nat.le_trans (Nat.le_trans (Nat.le_trans (Nat.le_trans (Nat.le_trans (Nat.le_trans (Nat.le_trans (Nat.le_trans (Nat.le_trans (Nat.le_trans (Nat.le_trans (Nat.le_trans (Nat.le_trans (Nat.le_trans (Nat.le_trans (Nat.le_trans (Nat.le_trans (Nat.le_trans (Nat.le_trans (Nat.le_trans (Nat.le_trans hkq E1.1) (Keep.of_wr W2).1) (Keep.of_wr W3).1) (Keep.of_wr W4).1) (Keep.of_wr W5).1) (Keep.of_wr W6).1) (Keep.of_wr W7).1) (Keep.of_wr W8).1) (Keep.of_wr W9).1) (Keep.of_wr W10).1) (Keep.of_wr W11).1) (Keep.of_wr W12).1) (Keep.of_wr W13).1) (Keep.of_wr W15).1) (Keep.of_wr W17).1) (Keep.of_wr W19).1) (Keep.of_wr W21).1) (Keep.of_wr W23).1) (Keep.of_wr W25).1) (Keep.of_wr W27).1) (Keep.of_wr W29).1)) hx Bd.notSynchronized (t := .boolean) Bd.returns (by simp) (hb hby at_484) ⟨rfl, N31⟩ (by decide) (by decide)
                · refine own_stepW (B := T31.setTop (mkF m 380 #[.val (.long wa), .second, .val (.long wb), .second, .val (.int mode), .val (.int narrow), .val (.ref ac), .val (.ref an), .val (.int (Int32.ofNat n1)), .val (.int LN), .val (.int ((Int32.ofNat n1) + LN)), .val (.ref b1), .val (.long (if LN = (8 : Int32) then own_P8 x0 x1 x2 x3 x4 x5 x6 x7 else -1)), .second, .unset, .unset] [(.int (6 : Int32)), (.ref an)])) (fun t k => ?_) ?_
                  · show Steps p.tables e below (T31.setTop (mkF m 373 #[.val (.long wa), .second, .val (.long wb), .second, .val (.int mode), .val (.int narrow), .val (.ref ac), .val (.ref an), .val (.int (Int32.ofNat n1)), .val (.int LN), .val (.int ((Int32.ofNat n1) + LN)), .val (.ref b1), .val (.long (if LN = (8 : Int32) then own_P8 x0 x1 x2 x3 x4 x5 x6 x7 else -1)), .second, .unset, .unset] [(.int (own_nib x5))])) _
                    refine XS.ifNo X31.here hx rfl (hb hby at_373) rfl ((if0 _ _).trans (flt hc373).1) ?_
                    refine XS.aload X31.here hx rfl (hb hby at_376) rfl rfl ?_
                    refine XS.bipush X31.here hx rfl (hb hby at_378) ?_
                    exact k
                  obtain ⟨cl38, Ar38, -, S38, NN38, Hs38, -⟩ := id ((((((((((((((((((((((Vn.ext E1).other W2 ne_an_b1).other W3 ne_an_b1).other W4 ne_an_b1).other W5 ne_an_b1).other W6 ne_an_b1).other W7 ne_an_b1).other W8 ne_an_b1).other W9 ne_an_b1).other W10 ne_an_b1).other W11 ne_an_b1).other W12 ne_an_b1).other W13 ne_an_b1).other W15 ne_an_b1).other W17 ne_an_b1).other W19 ne_an_b1).other W21 ne_an_b1).other W23 ne_an_b1).other W25 ne_an_b1).other W27 ne_an_b1).other W29 ne_an_b1))
                  have hin38 : ¬ ((6 : Int32) < 0 ∨ cl38.slots.size ≤ ((6 : Int32)).toNatClampNeg) := inb_of S38 ⟨by decide, by decide⟩
                  refine own_stepW (B := T31.setTop (mkF m 381 #[.val (.long wa), .second, .val (.long wb), .second, .val (.int mode), .val (.int narrow), .val (.ref ac), .val (.ref an), .val (.int (Int32.ofNat n1)), .val (.int LN), .val (.int ((Int32.ofNat n1) + LN)), .val (.ref b1), .val (.long (if LN = (8 : Int32) then own_P8 x0 x1 x2 x3 x4 x5 x6 x7 else -1)), .second, .unset, .unset] [(.int (own_nib x6))])) (fun t k => ?_) ?_
                  · show Steps p.tables e below (T31.setTop (mkF m 380 #[.val (.long wa), .second, .val (.long wb), .second, .val (.int mode), .val (.int narrow), .val (.ref ac), .val (.ref an), .val (.int (Int32.ofNat n1)), .val (.int LN), .val (.int ((Int32.ofNat n1) + LN)), .val (.ref b1), .val (.long (if LN = (8 : Int32) then own_P8 x0 x1 x2 x3 x4 x5 x6 x7 else -1)), .second, .unset, .unset] [(.int (6 : Int32)), (.ref an)])) _
                    refine X31.iaload hx (j := (6 : Int32)) (v := (.int (own_nib x6))) (by rw [e31]; exact Ar38.1) (State.isArrayOf_alike hZ.alike Ar38.2.1) Ar38.2.2 hin38 (Has.at Hs38 hin38 rfl) (g := (mkF m 380 #[.val (.long wa), .second, .val (.long wb), .second, .val (.int mode), .val (.int narrow), .val (.ref ac), .val (.ref an), .val (.int (Int32.ofNat n1)), .val (.int LN), .val (.int ((Int32.ofNat n1) + LN)), .val (.ref b1), .val (.long (if LN = (8 : Int32) then own_P8 x0 x1 x2 x3 x4 x5 x6 x7 else -1)), .second, .unset, .unset] [(.int (6 : Int32)), (.ref an)])) rfl rfl (hb hby at_380) _ ?_
                    exact k
                  by_cases hc381 : (own_nib x6) < (0 : Int32)
                  · refine own_stepW (B := T31.setTop (mkF m 475 #[.val (.long wa), .second, .val (.long wb), .second, .val (.int mode), .val (.int narrow), .val (.ref ac), .val (.ref an), .val (.int (Int32.ofNat n1)), .val (.int LN), .val (.int ((Int32.ofNat n1) + LN)), .val (.ref b1), .val (.long (if LN = (8 : Int32) then own_P8 x0 x1 x2 x3 x4 x5 x6 x7 else -1)), .second, .val (.long (-1 : Int64)), .second] [(.long (-1 : Int64)), (.long (if LN = (8 : Int32) then own_P8 x0 x1 x2 x3 x4 x5 x6 x7 else -1))])) (fun t k => ?_) ?_
                    · show Steps p.tables e below (T31.setTop (mkF m 381 #[.val (.long wa), .second, .val (.long wb), .second, .val (.int mode), .val (.int narrow), .val (.ref ac), .val (.ref an), .val (.int (Int32.ofNat n1)), .val (.int LN), .val (.int ((Int32.ofNat n1) + LN)), .val (.ref b1), .val (.long (if LN = (8 : Int32) then own_P8 x0 x1 x2 x3 x4 x5 x6 x7 else -1)), .second, .unset, .unset] [(.int (own_nib x6))])) _
                      refine XS.ifYes X31.here hx rfl (pc0 := 381) (pc' := 392) rfl (hb hby at_381) rfl ((if0 _ _).trans (tlt hc381).1) (by decide) (by decide) ?_
                      refine X31.ldc2Long hx hown (mvT hZ (hw _ (List.mem_of_getElem? (i := 15) rfl))) (g := (mkF m 392 #[.val (.long wa), .second, .val (.long wb), .second, .val (.int mode), .val (.int narrow), .val (.ref ac), .val (.ref an), .val (.int (Int32.ofNat n1)), .val (.int LN), .val (.int ((Int32.ofNat n1) + LN)), .val (.ref b1), .val (.long (if LN = (8 : Int32) then own_P8 x0 x1 x2 x3 x4 x5 x6 x7 else -1)), .second, .unset, .unset] [])) rfl (hb hby at_392) _ ?_
                      refine XS.lstore X31.here hx rfl (hb hby at_395) rfl (l' := #[.val (.long wa), .second, .val (.long wb), .second, .val (.int mode), .val (.int narrow), .val (.ref ac), .val (.ref an), .val (.int (Int32.ofNat n1)), .val (.int LN), .val (.int ((Int32.ofNat n1) + LN)), .val (.ref b1), .val (.long (if LN = (8 : Int32) then own_P8 x0 x1 x2 x3 x4 x5 x6 x7 else -1)), .second, .val (.long (-1 : Int64)), .second]) rfl ?_
                      refine XS.goto X31.here hx rfl (pc0 := 397) (pc' := 471) rfl (hb hby at_397) (by decide) (by decide) ?_
                      refine XS.lload X31.here hx rfl (hb hby at_471) rfl ?_
                      refine XS.lload X31.here hx rfl (hb hby at_473) rfl ?_
                      exact k
                    have hfin : (if LN = (8 : Int32) then own_P8 x0 x1 x2 x3 x4 x5 x6 x7 else -1) = (-1 : Int64) := by rw [if_pos hc323, own_P8, if_neg hc338, if_neg hc345, if_neg hc352, if_neg hc359, if_neg hc366, if_neg hc373, if_pos hc381]
                    refine own_stepW (B := T31.setTop (mkF m 484 #[.val (.long wa), .second, .val (.long wb), .second, .val (.int mode), .val (.int narrow), .val (.ref ac), .val (.ref an), .val (.int (Int32.ofNat n1)), .val (.int LN), .val (.int ((Int32.ofNat n1) + LN)), .val (.ref b1), .val (.long (if LN = (8 : Int32) then own_P8 x0 x1 x2 x3 x4 x5 x6 x7 else -1)), .second, .val (.long (-1 : Int64)), .second] [(.int (1 : Int32))])) (fun t k => ?_) ?_
                    · show Steps p.tables e below (T31.setTop (mkF m 475 #[.val (.long wa), .second, .val (.long wb), .second, .val (.int mode), .val (.int narrow), .val (.ref ac), .val (.ref an), .val (.int (Int32.ofNat n1)), .val (.int LN), .val (.int ((Int32.ofNat n1) + LN)), .val (.ref b1), .val (.long (if LN = (8 : Int32) then own_P8 x0 x1 x2 x3 x4 x5 x6 x7 else -1)), .second, .val (.long (-1 : Int64)), .second] [(.long (-1 : Int64)), (.long (if LN = (8 : Int32) then own_P8 x0 x1 x2 x3 x4 x5 x6 x7 else -1))])) _
                      refine XS.lcmp X31.here hx rfl (hb hby at_475) rfl ?_
                      refine XS.ifNo X31.here hx rfl (hb hby at_476) rfl ((if0 _ _).trans (teq ((lw_eq _ _).mpr hfin)).2) ?_
                      refine XS.iconst X31.here hx rfl (hb hby at_479) ?_
                      refine XS.goto X31.here hx rfl (pc0 := 480) (pc' := 484) rfl (hb hby at_480) (by decide) (by decide) ?_
                      exact k
                    exact own_retNW X31 hSq (by rw [e31]; exact (Nat.le_trans (Nat.le_trans (Nat.le_trans (Nat.le_trans (Nat.le_trans (Nat.le_trans (Nat.le_trans (Nat.le_trans (Nat.le_trans (Nat.le_trans (Nat.le_trans (Nat.le_trans (Nat.le_trans (Nat.le_trans (Nat.le_trans (Nat.le_trans (Nat.le_trans (Nat.le_trans (Nat.le_trans (Nat.le_trans (Nat.le_trans hkq E1.1) (Keep.of_wr W2).1) (Keep.of_wr W3).1) (Keep.of_wr W4).1) (Keep.of_wr W5).1) (Keep.of_wr W6).1) (Keep.of_wr W7).1) (Keep.of_wr W8).1) (Keep.of_wr W9).1) (Keep.of_wr W10).1) (Keep.of_wr W11).1) (Keep.of_wr W12).1) (Keep.of_wr W13).1) (Keep.of_wr W15).1) (Keep.of_wr W17).1) (Keep.of_wr W19).1) (Keep.of_wr W21).1) (Keep.of_wr W23).1) (Keep.of_wr W25).1) (Keep.of_wr W27).1) (Keep.of_wr W29).1)) hx Bd.notSynchronized (t := .boolean) Bd.returns (by simp) (hb hby at_484) ⟨rfl, N31⟩ (by decide) (by decide)
                  · refine own_stepW (B := T31.setTop (mkF m 388 #[.val (.long wa), .second, .val (.long wb), .second, .val (.int mode), .val (.int narrow), .val (.ref ac), .val (.ref an), .val (.int (Int32.ofNat n1)), .val (.int LN), .val (.int ((Int32.ofNat n1) + LN)), .val (.ref b1), .val (.long (if LN = (8 : Int32) then own_P8 x0 x1 x2 x3 x4 x5 x6 x7 else -1)), .second, .unset, .unset] [(.int (7 : Int32)), (.ref an)])) (fun t k => ?_) ?_
                    · show Steps p.tables e below (T31.setTop (mkF m 381 #[.val (.long wa), .second, .val (.long wb), .second, .val (.int mode), .val (.int narrow), .val (.ref ac), .val (.ref an), .val (.int (Int32.ofNat n1)), .val (.int LN), .val (.int ((Int32.ofNat n1) + LN)), .val (.ref b1), .val (.long (if LN = (8 : Int32) then own_P8 x0 x1 x2 x3 x4 x5 x6 x7 else -1)), .second, .unset, .unset] [(.int (own_nib x6))])) _
                      refine XS.ifNo X31.here hx rfl (hb hby at_381) rfl ((if0 _ _).trans (flt hc381).1) ?_
                      refine XS.aload X31.here hx rfl (hb hby at_384) rfl rfl ?_
                      refine XS.bipush X31.here hx rfl (hb hby at_386) ?_
                      exact k
                    obtain ⟨cl39, Ar39, -, S39, NN39, Hs39, -⟩ := id ((((((((((((((((((((((Vn.ext E1).other W2 ne_an_b1).other W3 ne_an_b1).other W4 ne_an_b1).other W5 ne_an_b1).other W6 ne_an_b1).other W7 ne_an_b1).other W8 ne_an_b1).other W9 ne_an_b1).other W10 ne_an_b1).other W11 ne_an_b1).other W12 ne_an_b1).other W13 ne_an_b1).other W15 ne_an_b1).other W17 ne_an_b1).other W19 ne_an_b1).other W21 ne_an_b1).other W23 ne_an_b1).other W25 ne_an_b1).other W27 ne_an_b1).other W29 ne_an_b1))
                    have hin39 : ¬ ((7 : Int32) < 0 ∨ cl39.slots.size ≤ ((7 : Int32)).toNatClampNeg) := inb_of S39 ⟨by decide, by decide⟩
                    refine own_stepW (B := T31.setTop (mkF m 389 #[.val (.long wa), .second, .val (.long wb), .second, .val (.int mode), .val (.int narrow), .val (.ref ac), .val (.ref an), .val (.int (Int32.ofNat n1)), .val (.int LN), .val (.int ((Int32.ofNat n1) + LN)), .val (.ref b1), .val (.long (if LN = (8 : Int32) then own_P8 x0 x1 x2 x3 x4 x5 x6 x7 else -1)), .second, .unset, .unset] [(.int (own_nib x7))])) (fun t k => ?_) ?_
                    · show Steps p.tables e below (T31.setTop (mkF m 388 #[.val (.long wa), .second, .val (.long wb), .second, .val (.int mode), .val (.int narrow), .val (.ref ac), .val (.ref an), .val (.int (Int32.ofNat n1)), .val (.int LN), .val (.int ((Int32.ofNat n1) + LN)), .val (.ref b1), .val (.long (if LN = (8 : Int32) then own_P8 x0 x1 x2 x3 x4 x5 x6 x7 else -1)), .second, .unset, .unset] [(.int (7 : Int32)), (.ref an)])) _
                      refine X31.iaload hx (j := (7 : Int32)) (v := (.int (own_nib x7))) (by rw [e31]; exact Ar39.1) (State.isArrayOf_alike hZ.alike Ar39.2.1) Ar39.2.2 hin39 (Has.at Hs39 hin39 rfl) (g := (mkF m 388 #[.val (.long wa), .second, .val (.long wb), .second, .val (.int mode), .val (.int narrow), .val (.ref ac), .val (.ref an), .val (.int (Int32.ofNat n1)), .val (.int LN), .val (.int ((Int32.ofNat n1) + LN)), .val (.ref b1), .val (.long (if LN = (8 : Int32) then own_P8 x0 x1 x2 x3 x4 x5 x6 x7 else -1)), .second, .unset, .unset] [(.int (7 : Int32)), (.ref an)])) rfl rfl (hb hby at_388) _ ?_
                      exact k
                    by_cases hc389 : (own_nib x7) < (0 : Int32)
                    · refine own_stepW (B := T31.setTop (mkF m 475 #[.val (.long wa), .second, .val (.long wb), .second, .val (.int mode), .val (.int narrow), .val (.ref ac), .val (.ref an), .val (.int (Int32.ofNat n1)), .val (.int LN), .val (.int ((Int32.ofNat n1) + LN)), .val (.ref b1), .val (.long (if LN = (8 : Int32) then own_P8 x0 x1 x2 x3 x4 x5 x6 x7 else -1)), .second, .val (.long (-1 : Int64)), .second] [(.long (-1 : Int64)), (.long (if LN = (8 : Int32) then own_P8 x0 x1 x2 x3 x4 x5 x6 x7 else -1))])) (fun t k => ?_) ?_
                      · show Steps p.tables e below (T31.setTop (mkF m 389 #[.val (.long wa), .second, .val (.long wb), .second, .val (.int mode), .val (.int narrow), .val (.ref ac), .val (.ref an), .val (.int (Int32.ofNat n1)), .val (.int LN), .val (.int ((Int32.ofNat n1) + LN)), .val (.ref b1), .val (.long (if LN = (8 : Int32) then own_P8 x0 x1 x2 x3 x4 x5 x6 x7 else -1)), .second, .unset, .unset] [(.int (own_nib x7))])) _
                        refine XS.ifNo X31.here hx rfl (hb hby at_389) rfl ((if0 _ _).trans (tlt hc389).2.1) ?_
                        refine X31.ldc2Long hx hown (mvT hZ (hw _ (List.mem_of_getElem? (i := 15) rfl))) (g := (mkF m 392 #[.val (.long wa), .second, .val (.long wb), .second, .val (.int mode), .val (.int narrow), .val (.ref ac), .val (.ref an), .val (.int (Int32.ofNat n1)), .val (.int LN), .val (.int ((Int32.ofNat n1) + LN)), .val (.ref b1), .val (.long (if LN = (8 : Int32) then own_P8 x0 x1 x2 x3 x4 x5 x6 x7 else -1)), .second, .unset, .unset] [])) rfl (hb hby at_392) _ ?_
                        refine XS.lstore X31.here hx rfl (hb hby at_395) rfl (l' := #[.val (.long wa), .second, .val (.long wb), .second, .val (.int mode), .val (.int narrow), .val (.ref ac), .val (.ref an), .val (.int (Int32.ofNat n1)), .val (.int LN), .val (.int ((Int32.ofNat n1) + LN)), .val (.ref b1), .val (.long (if LN = (8 : Int32) then own_P8 x0 x1 x2 x3 x4 x5 x6 x7 else -1)), .second, .val (.long (-1 : Int64)), .second]) rfl ?_
                        refine XS.goto X31.here hx rfl (pc0 := 397) (pc' := 471) rfl (hb hby at_397) (by decide) (by decide) ?_
                        refine XS.lload X31.here hx rfl (hb hby at_471) rfl ?_
                        refine XS.lload X31.here hx rfl (hb hby at_473) rfl ?_
                        exact k
                      have hfin : (if LN = (8 : Int32) then own_P8 x0 x1 x2 x3 x4 x5 x6 x7 else -1) = (-1 : Int64) := by rw [if_pos hc323, own_P8, if_neg hc338, if_neg hc345, if_neg hc352, if_neg hc359, if_neg hc366, if_neg hc373, if_neg hc381, if_pos hc389]
                      refine own_stepW (B := T31.setTop (mkF m 484 #[.val (.long wa), .second, .val (.long wb), .second, .val (.int mode), .val (.int narrow), .val (.ref ac), .val (.ref an), .val (.int (Int32.ofNat n1)), .val (.int LN), .val (.int ((Int32.ofNat n1) + LN)), .val (.ref b1), .val (.long (if LN = (8 : Int32) then own_P8 x0 x1 x2 x3 x4 x5 x6 x7 else -1)), .second, .val (.long (-1 : Int64)), .second] [(.int (1 : Int32))])) (fun t k => ?_) ?_
                      · show Steps p.tables e below (T31.setTop (mkF m 475 #[.val (.long wa), .second, .val (.long wb), .second, .val (.int mode), .val (.int narrow), .val (.ref ac), .val (.ref an), .val (.int (Int32.ofNat n1)), .val (.int LN), .val (.int ((Int32.ofNat n1) + LN)), .val (.ref b1), .val (.long (if LN = (8 : Int32) then own_P8 x0 x1 x2 x3 x4 x5 x6 x7 else -1)), .second, .val (.long (-1 : Int64)), .second] [(.long (-1 : Int64)), (.long (if LN = (8 : Int32) then own_P8 x0 x1 x2 x3 x4 x5 x6 x7 else -1))])) _
                        refine XS.lcmp X31.here hx rfl (hb hby at_475) rfl ?_
                        refine XS.ifNo X31.here hx rfl (hb hby at_476) rfl ((if0 _ _).trans (teq ((lw_eq _ _).mpr hfin)).2) ?_
                        refine XS.iconst X31.here hx rfl (hb hby at_479) ?_
                        refine XS.goto X31.here hx rfl (pc0 := 480) (pc' := 484) rfl (hb hby at_480) (by decide) (by decide) ?_
                        exact k
                      exact own_retNW X31 hSq (by rw [e31]; exact (Nat.le_trans (Nat.le_trans (Nat.le_trans (Nat.le_trans (Nat.le_trans (Nat.le_trans (Nat.le_trans (Nat.le_trans (Nat.le_trans (Nat.le_trans (Nat.le_trans (Nat.le_trans (Nat.le_trans (Nat.le_trans (Nat.le_trans (Nat.le_trans (Nat.le_trans (Nat.le_trans (Nat.le_trans (Nat.le_trans (Nat.le_trans hkq E1.1) (Keep.of_wr W2).1) (Keep.of_wr W3).1) (Keep.of_wr W4).1) (Keep.of_wr W5).1) (Keep.of_wr W6).1) (Keep.of_wr W7).1) (Keep.of_wr W8).1) (Keep.of_wr W9).1) (Keep.of_wr W10).1) (Keep.of_wr W11).1) (Keep.of_wr W12).1) (Keep.of_wr W13).1) (Keep.of_wr W15).1) (Keep.of_wr W17).1) (Keep.of_wr W19).1) (Keep.of_wr W21).1) (Keep.of_wr W23).1) (Keep.of_wr W25).1) (Keep.of_wr W27).1) (Keep.of_wr W29).1)) hx Bd.notSynchronized (t := .boolean) Bd.returns (by simp) (hb hby at_484) ⟨rfl, N31⟩ (by decide) (by decide)
                    · refine own_stepW (B := T31.setTop (mkF m 403 #[.val (.long wa), .second, .val (.long wb), .second, .val (.int mode), .val (.int narrow), .val (.ref ac), .val (.ref an), .val (.int (Int32.ofNat n1)), .val (.int LN), .val (.int ((Int32.ofNat n1) + LN)), .val (.ref b1), .val (.long (if LN = (8 : Int32) then own_P8 x0 x1 x2 x3 x4 x5 x6 x7 else -1)), .second, .unset, .unset] [(.int (0 : Int32)), (.ref an)])) (fun t k => ?_) ?_
                      · show Steps p.tables e below (T31.setTop (mkF m 389 #[.val (.long wa), .second, .val (.long wb), .second, .val (.int mode), .val (.int narrow), .val (.ref ac), .val (.ref an), .val (.int (Int32.ofNat n1)), .val (.int LN), .val (.int ((Int32.ofNat n1) + LN)), .val (.ref b1), .val (.long (if LN = (8 : Int32) then own_P8 x0 x1 x2 x3 x4 x5 x6 x7 else -1)), .second, .unset, .unset] [(.int (own_nib x7))])) _
                        refine XS.ifYes X31.here hx rfl (pc0 := 389) (pc' := 400) rfl (hb hby at_389) rfl ((if0 _ _).trans (flt hc389).2.1) (by decide) (by decide) ?_
                        refine XS.aload X31.here hx rfl (hb hby at_400) rfl rfl ?_
                        refine XS.iconst X31.here hx rfl (hb hby at_402) ?_
                        exact k
                      obtain ⟨cl40, Ar40, -, S40, NN40, Hs40, -⟩ := id ((((((((((((((((((((((Vn.ext E1).other W2 ne_an_b1).other W3 ne_an_b1).other W4 ne_an_b1).other W5 ne_an_b1).other W6 ne_an_b1).other W7 ne_an_b1).other W8 ne_an_b1).other W9 ne_an_b1).other W10 ne_an_b1).other W11 ne_an_b1).other W12 ne_an_b1).other W13 ne_an_b1).other W15 ne_an_b1).other W17 ne_an_b1).other W19 ne_an_b1).other W21 ne_an_b1).other W23 ne_an_b1).other W25 ne_an_b1).other W27 ne_an_b1).other W29 ne_an_b1))
                      have hin40 : ¬ ((0 : Int32) < 0 ∨ cl40.slots.size ≤ ((0 : Int32)).toNatClampNeg) := inb_of S40 ⟨by decide, by decide⟩
                      refine own_stepW (B := T31.setTop (mkF m 411 #[.val (.long wa), .second, .val (.long wb), .second, .val (.int mode), .val (.int narrow), .val (.ref ac), .val (.ref an), .val (.int (Int32.ofNat n1)), .val (.int LN), .val (.int ((Int32.ofNat n1) + LN)), .val (.ref b1), .val (.long (if LN = (8 : Int32) then own_P8 x0 x1 x2 x3 x4 x5 x6 x7 else -1)), .second, .unset, .unset] [(.int (1 : Int32)), (.ref an), (.long (((own_nib x0).toInt64) <<< ((28 : Int32) &&& 0x3f).toInt64))])) (fun t k => ?_) ?_
                      · show Steps p.tables e below (T31.setTop (mkF m 403 #[.val (.long wa), .second, .val (.long wb), .second, .val (.int mode), .val (.int narrow), .val (.ref ac), .val (.ref an), .val (.int (Int32.ofNat n1)), .val (.int LN), .val (.int ((Int32.ofNat n1) + LN)), .val (.ref b1), .val (.long (if LN = (8 : Int32) then own_P8 x0 x1 x2 x3 x4 x5 x6 x7 else -1)), .second, .unset, .unset] [(.int (0 : Int32)), (.ref an)])) _
                        refine X31.iaload hx (j := (0 : Int32)) (v := (.int (own_nib x0))) (by rw [e31]; exact Ar40.1) (State.isArrayOf_alike hZ.alike Ar40.2.1) Ar40.2.2 hin40 (Has.at Hs40 hin40 rfl) (g := (mkF m 403 #[.val (.long wa), .second, .val (.long wb), .second, .val (.int mode), .val (.int narrow), .val (.ref ac), .val (.ref an), .val (.int (Int32.ofNat n1)), .val (.int LN), .val (.int ((Int32.ofNat n1) + LN)), .val (.ref b1), .val (.long (if LN = (8 : Int32) then own_P8 x0 x1 x2 x3 x4 x5 x6 x7 else -1)), .second, .unset, .unset] [(.int (0 : Int32)), (.ref an)])) rfl rfl (hb hby at_403) _ ?_
                        refine XS.i2l X31.here hx rfl (hb hby at_404) rfl ?_
                        refine XS.bipush X31.here hx rfl (hb hby at_405) ?_
                        refine XS.lshl X31.here hx rfl (hb hby at_407) rfl ?_
                        refine XS.aload X31.here hx rfl (hb hby at_408) rfl rfl ?_
                        refine XS.iconst X31.here hx rfl (hb hby at_410) ?_
                        exact k
                      obtain ⟨cl41, Ar41, -, S41, NN41, Hs41, -⟩ := id ((((((((((((((((((((((Vn.ext E1).other W2 ne_an_b1).other W3 ne_an_b1).other W4 ne_an_b1).other W5 ne_an_b1).other W6 ne_an_b1).other W7 ne_an_b1).other W8 ne_an_b1).other W9 ne_an_b1).other W10 ne_an_b1).other W11 ne_an_b1).other W12 ne_an_b1).other W13 ne_an_b1).other W15 ne_an_b1).other W17 ne_an_b1).other W19 ne_an_b1).other W21 ne_an_b1).other W23 ne_an_b1).other W25 ne_an_b1).other W27 ne_an_b1).other W29 ne_an_b1))
                      have hin41 : ¬ ((1 : Int32) < 0 ∨ cl41.slots.size ≤ ((1 : Int32)).toNatClampNeg) := inb_of S41 ⟨by decide, by decide⟩
                      refine own_stepW (B := T31.setTop (mkF m 420 #[.val (.long wa), .second, .val (.long wb), .second, .val (.int mode), .val (.int narrow), .val (.ref ac), .val (.ref an), .val (.int (Int32.ofNat n1)), .val (.int LN), .val (.int ((Int32.ofNat n1) + LN)), .val (.ref b1), .val (.long (if LN = (8 : Int32) then own_P8 x0 x1 x2 x3 x4 x5 x6 x7 else -1)), .second, .unset, .unset] [(.int (2 : Int32)), (.ref an), (.long ((((own_nib x0).toInt64) <<< ((28 : Int32) &&& 0x3f).toInt64) ||| (((own_nib x1).toInt64) <<< ((24 : Int32) &&& 0x3f).toInt64)))])) (fun t k => ?_) ?_
                      · show Steps p.tables e below (T31.setTop (mkF m 411 #[.val (.long wa), .second, .val (.long wb), .second, .val (.int mode), .val (.int narrow), .val (.ref ac), .val (.ref an), .val (.int (Int32.ofNat n1)), .val (.int LN), .val (.int ((Int32.ofNat n1) + LN)), .val (.ref b1), .val (.long (if LN = (8 : Int32) then own_P8 x0 x1 x2 x3 x4 x5 x6 x7 else -1)), .second, .unset, .unset] [(.int (1 : Int32)), (.ref an), (.long (((own_nib x0).toInt64) <<< ((28 : Int32) &&& 0x3f).toInt64))])) _
                        refine X31.iaload hx (j := (1 : Int32)) (v := (.int (own_nib x1))) (by rw [e31]; exact Ar41.1) (State.isArrayOf_alike hZ.alike Ar41.2.1) Ar41.2.2 hin41 (Has.at Hs41 hin41 rfl) (g := (mkF m 411 #[.val (.long wa), .second, .val (.long wb), .second, .val (.int mode), .val (.int narrow), .val (.ref ac), .val (.ref an), .val (.int (Int32.ofNat n1)), .val (.int LN), .val (.int ((Int32.ofNat n1) + LN)), .val (.ref b1), .val (.long (if LN = (8 : Int32) then own_P8 x0 x1 x2 x3 x4 x5 x6 x7 else -1)), .second, .unset, .unset] [(.int (1 : Int32)), (.ref an), (.long (((own_nib x0).toInt64) <<< ((28 : Int32) &&& 0x3f).toInt64))])) rfl rfl (hb hby at_411) _ ?_
                        refine XS.i2l X31.here hx rfl (hb hby at_412) rfl ?_
                        refine XS.bipush X31.here hx rfl (hb hby at_413) ?_
                        refine XS.lshl X31.here hx rfl (hb hby at_415) rfl ?_
                        refine XS.lor X31.here hx rfl (hb hby at_416) rfl ?_
                        refine XS.aload X31.here hx rfl (hb hby at_417) rfl rfl ?_
                        refine XS.iconst X31.here hx rfl (hb hby at_419) ?_
                        exact k
                      obtain ⟨cl42, Ar42, -, S42, NN42, Hs42, -⟩ := id ((((((((((((((((((((((Vn.ext E1).other W2 ne_an_b1).other W3 ne_an_b1).other W4 ne_an_b1).other W5 ne_an_b1).other W6 ne_an_b1).other W7 ne_an_b1).other W8 ne_an_b1).other W9 ne_an_b1).other W10 ne_an_b1).other W11 ne_an_b1).other W12 ne_an_b1).other W13 ne_an_b1).other W15 ne_an_b1).other W17 ne_an_b1).other W19 ne_an_b1).other W21 ne_an_b1).other W23 ne_an_b1).other W25 ne_an_b1).other W27 ne_an_b1).other W29 ne_an_b1))
                      have hin42 : ¬ ((2 : Int32) < 0 ∨ cl42.slots.size ≤ ((2 : Int32)).toNatClampNeg) := inb_of S42 ⟨by decide, by decide⟩
                      refine own_stepW (B := T31.setTop (mkF m 429 #[.val (.long wa), .second, .val (.long wb), .second, .val (.int mode), .val (.int narrow), .val (.ref ac), .val (.ref an), .val (.int (Int32.ofNat n1)), .val (.int LN), .val (.int ((Int32.ofNat n1) + LN)), .val (.ref b1), .val (.long (if LN = (8 : Int32) then own_P8 x0 x1 x2 x3 x4 x5 x6 x7 else -1)), .second, .unset, .unset] [(.int (3 : Int32)), (.ref an), (.long (((((own_nib x0).toInt64) <<< ((28 : Int32) &&& 0x3f).toInt64) ||| (((own_nib x1).toInt64) <<< ((24 : Int32) &&& 0x3f).toInt64)) ||| (((own_nib x2).toInt64) <<< ((20 : Int32) &&& 0x3f).toInt64)))])) (fun t k => ?_) ?_
                      · show Steps p.tables e below (T31.setTop (mkF m 420 #[.val (.long wa), .second, .val (.long wb), .second, .val (.int mode), .val (.int narrow), .val (.ref ac), .val (.ref an), .val (.int (Int32.ofNat n1)), .val (.int LN), .val (.int ((Int32.ofNat n1) + LN)), .val (.ref b1), .val (.long (if LN = (8 : Int32) then own_P8 x0 x1 x2 x3 x4 x5 x6 x7 else -1)), .second, .unset, .unset] [(.int (2 : Int32)), (.ref an), (.long ((((own_nib x0).toInt64) <<< ((28 : Int32) &&& 0x3f).toInt64) ||| (((own_nib x1).toInt64) <<< ((24 : Int32) &&& 0x3f).toInt64)))])) _
                        refine X31.iaload hx (j := (2 : Int32)) (v := (.int (own_nib x2))) (by rw [e31]; exact Ar42.1) (State.isArrayOf_alike hZ.alike Ar42.2.1) Ar42.2.2 hin42 (Has.at Hs42 hin42 rfl) (g := (mkF m 420 #[.val (.long wa), .second, .val (.long wb), .second, .val (.int mode), .val (.int narrow), .val (.ref ac), .val (.ref an), .val (.int (Int32.ofNat n1)), .val (.int LN), .val (.int ((Int32.ofNat n1) + LN)), .val (.ref b1), .val (.long (if LN = (8 : Int32) then own_P8 x0 x1 x2 x3 x4 x5 x6 x7 else -1)), .second, .unset, .unset] [(.int (2 : Int32)), (.ref an), (.long ((((own_nib x0).toInt64) <<< ((28 : Int32) &&& 0x3f).toInt64) ||| (((own_nib x1).toInt64) <<< ((24 : Int32) &&& 0x3f).toInt64)))])) rfl rfl (hb hby at_420) _ ?_
                        refine XS.i2l X31.here hx rfl (hb hby at_421) rfl ?_
                        refine XS.bipush X31.here hx rfl (hb hby at_422) ?_
                        refine XS.lshl X31.here hx rfl (hb hby at_424) rfl ?_
                        refine XS.lor X31.here hx rfl (hb hby at_425) rfl ?_
                        refine XS.aload X31.here hx rfl (hb hby at_426) rfl rfl ?_
                        refine XS.iconst X31.here hx rfl (hb hby at_428) ?_
                        exact k
                      obtain ⟨cl43, Ar43, -, S43, NN43, Hs43, -⟩ := id ((((((((((((((((((((((Vn.ext E1).other W2 ne_an_b1).other W3 ne_an_b1).other W4 ne_an_b1).other W5 ne_an_b1).other W6 ne_an_b1).other W7 ne_an_b1).other W8 ne_an_b1).other W9 ne_an_b1).other W10 ne_an_b1).other W11 ne_an_b1).other W12 ne_an_b1).other W13 ne_an_b1).other W15 ne_an_b1).other W17 ne_an_b1).other W19 ne_an_b1).other W21 ne_an_b1).other W23 ne_an_b1).other W25 ne_an_b1).other W27 ne_an_b1).other W29 ne_an_b1))
                      have hin43 : ¬ ((3 : Int32) < 0 ∨ cl43.slots.size ≤ ((3 : Int32)).toNatClampNeg) := inb_of S43 ⟨by decide, by decide⟩
                      refine own_stepW (B := T31.setTop (mkF m 438 #[.val (.long wa), .second, .val (.long wb), .second, .val (.int mode), .val (.int narrow), .val (.ref ac), .val (.ref an), .val (.int (Int32.ofNat n1)), .val (.int LN), .val (.int ((Int32.ofNat n1) + LN)), .val (.ref b1), .val (.long (if LN = (8 : Int32) then own_P8 x0 x1 x2 x3 x4 x5 x6 x7 else -1)), .second, .unset, .unset] [(.int (4 : Int32)), (.ref an), (.long ((((((own_nib x0).toInt64) <<< ((28 : Int32) &&& 0x3f).toInt64) ||| (((own_nib x1).toInt64) <<< ((24 : Int32) &&& 0x3f).toInt64)) ||| (((own_nib x2).toInt64) <<< ((20 : Int32) &&& 0x3f).toInt64)) ||| (((own_nib x3).toInt64) <<< ((16 : Int32) &&& 0x3f).toInt64)))])) (fun t k => ?_) ?_
                      · show Steps p.tables e below (T31.setTop (mkF m 429 #[.val (.long wa), .second, .val (.long wb), .second, .val (.int mode), .val (.int narrow), .val (.ref ac), .val (.ref an), .val (.int (Int32.ofNat n1)), .val (.int LN), .val (.int ((Int32.ofNat n1) + LN)), .val (.ref b1), .val (.long (if LN = (8 : Int32) then own_P8 x0 x1 x2 x3 x4 x5 x6 x7 else -1)), .second, .unset, .unset] [(.int (3 : Int32)), (.ref an), (.long (((((own_nib x0).toInt64) <<< ((28 : Int32) &&& 0x3f).toInt64) ||| (((own_nib x1).toInt64) <<< ((24 : Int32) &&& 0x3f).toInt64)) ||| (((own_nib x2).toInt64) <<< ((20 : Int32) &&& 0x3f).toInt64)))])) _
                        refine X31.iaload hx (j := (3 : Int32)) (v := (.int (own_nib x3))) (by rw [e31]; exact Ar43.1) (State.isArrayOf_alike hZ.alike Ar43.2.1) Ar43.2.2 hin43 (Has.at Hs43 hin43 rfl) (g := (mkF m 429 #[.val (.long wa), .second, .val (.long wb), .second, .val (.int mode), .val (.int narrow), .val (.ref ac), .val (.ref an), .val (.int (Int32.ofNat n1)), .val (.int LN), .val (.int ((Int32.ofNat n1) + LN)), .val (.ref b1), .val (.long (if LN = (8 : Int32) then own_P8 x0 x1 x2 x3 x4 x5 x6 x7 else -1)), .second, .unset, .unset] [(.int (3 : Int32)), (.ref an), (.long (((((own_nib x0).toInt64) <<< ((28 : Int32) &&& 0x3f).toInt64) ||| (((own_nib x1).toInt64) <<< ((24 : Int32) &&& 0x3f).toInt64)) ||| (((own_nib x2).toInt64) <<< ((20 : Int32) &&& 0x3f).toInt64)))])) rfl rfl (hb hby at_429) _ ?_
                        refine XS.i2l X31.here hx rfl (hb hby at_430) rfl ?_
                        refine XS.bipush X31.here hx rfl (hb hby at_431) ?_
                        refine XS.lshl X31.here hx rfl (hb hby at_433) rfl ?_
                        refine XS.lor X31.here hx rfl (hb hby at_434) rfl ?_
                        refine XS.aload X31.here hx rfl (hb hby at_435) rfl rfl ?_
                        refine XS.iconst X31.here hx rfl (hb hby at_437) ?_
                        exact k
                      obtain ⟨cl44, Ar44, -, S44, NN44, Hs44, -⟩ := id ((((((((((((((((((((((Vn.ext E1).other W2 ne_an_b1).other W3 ne_an_b1).other W4 ne_an_b1).other W5 ne_an_b1).other W6 ne_an_b1).other W7 ne_an_b1).other W8 ne_an_b1).other W9 ne_an_b1).other W10 ne_an_b1).other W11 ne_an_b1).other W12 ne_an_b1).other W13 ne_an_b1).other W15 ne_an_b1).other W17 ne_an_b1).other W19 ne_an_b1).other W21 ne_an_b1).other W23 ne_an_b1).other W25 ne_an_b1).other W27 ne_an_b1).other W29 ne_an_b1))
                      have hin44 : ¬ ((4 : Int32) < 0 ∨ cl44.slots.size ≤ ((4 : Int32)).toNatClampNeg) := inb_of S44 ⟨by decide, by decide⟩
                      refine own_stepW (B := T31.setTop (mkF m 447 #[.val (.long wa), .second, .val (.long wb), .second, .val (.int mode), .val (.int narrow), .val (.ref ac), .val (.ref an), .val (.int (Int32.ofNat n1)), .val (.int LN), .val (.int ((Int32.ofNat n1) + LN)), .val (.ref b1), .val (.long (if LN = (8 : Int32) then own_P8 x0 x1 x2 x3 x4 x5 x6 x7 else -1)), .second, .unset, .unset] [(.int (5 : Int32)), (.ref an), (.long (((((((own_nib x0).toInt64) <<< ((28 : Int32) &&& 0x3f).toInt64) ||| (((own_nib x1).toInt64) <<< ((24 : Int32) &&& 0x3f).toInt64)) ||| (((own_nib x2).toInt64) <<< ((20 : Int32) &&& 0x3f).toInt64)) ||| (((own_nib x3).toInt64) <<< ((16 : Int32) &&& 0x3f).toInt64)) ||| (((own_nib x4).toInt64) <<< ((12 : Int32) &&& 0x3f).toInt64)))])) (fun t k => ?_) ?_
                      · show Steps p.tables e below (T31.setTop (mkF m 438 #[.val (.long wa), .second, .val (.long wb), .second, .val (.int mode), .val (.int narrow), .val (.ref ac), .val (.ref an), .val (.int (Int32.ofNat n1)), .val (.int LN), .val (.int ((Int32.ofNat n1) + LN)), .val (.ref b1), .val (.long (if LN = (8 : Int32) then own_P8 x0 x1 x2 x3 x4 x5 x6 x7 else -1)), .second, .unset, .unset] [(.int (4 : Int32)), (.ref an), (.long ((((((own_nib x0).toInt64) <<< ((28 : Int32) &&& 0x3f).toInt64) ||| (((own_nib x1).toInt64) <<< ((24 : Int32) &&& 0x3f).toInt64)) ||| (((own_nib x2).toInt64) <<< ((20 : Int32) &&& 0x3f).toInt64)) ||| (((own_nib x3).toInt64) <<< ((16 : Int32) &&& 0x3f).toInt64)))])) _
                        refine X31.iaload hx (j := (4 : Int32)) (v := (.int (own_nib x4))) (by rw [e31]; exact Ar44.1) (State.isArrayOf_alike hZ.alike Ar44.2.1) Ar44.2.2 hin44 (Has.at Hs44 hin44 rfl) (g := (mkF m 438 #[.val (.long wa), .second, .val (.long wb), .second, .val (.int mode), .val (.int narrow), .val (.ref ac), .val (.ref an), .val (.int (Int32.ofNat n1)), .val (.int LN), .val (.int ((Int32.ofNat n1) + LN)), .val (.ref b1), .val (.long (if LN = (8 : Int32) then own_P8 x0 x1 x2 x3 x4 x5 x6 x7 else -1)), .second, .unset, .unset] [(.int (4 : Int32)), (.ref an), (.long ((((((own_nib x0).toInt64) <<< ((28 : Int32) &&& 0x3f).toInt64) ||| (((own_nib x1).toInt64) <<< ((24 : Int32) &&& 0x3f).toInt64)) ||| (((own_nib x2).toInt64) <<< ((20 : Int32) &&& 0x3f).toInt64)) ||| (((own_nib x3).toInt64) <<< ((16 : Int32) &&& 0x3f).toInt64)))])) rfl rfl (hb hby at_438) _ ?_
                        refine XS.i2l X31.here hx rfl (hb hby at_439) rfl ?_
                        refine XS.bipush X31.here hx rfl (hb hby at_440) ?_
                        refine XS.lshl X31.here hx rfl (hb hby at_442) rfl ?_
                        refine XS.lor X31.here hx rfl (hb hby at_443) rfl ?_
                        refine XS.aload X31.here hx rfl (hb hby at_444) rfl rfl ?_
                        refine XS.iconst X31.here hx rfl (hb hby at_446) ?_
                        exact k
                      obtain ⟨cl45, Ar45, -, S45, NN45, Hs45, -⟩ := id ((((((((((((((((((((((Vn.ext E1).other W2 ne_an_b1).other W3 ne_an_b1).other W4 ne_an_b1).other W5 ne_an_b1).other W6 ne_an_b1).other W7 ne_an_b1).other W8 ne_an_b1).other W9 ne_an_b1).other W10 ne_an_b1).other W11 ne_an_b1).other W12 ne_an_b1).other W13 ne_an_b1).other W15 ne_an_b1).other W17 ne_an_b1).other W19 ne_an_b1).other W21 ne_an_b1).other W23 ne_an_b1).other W25 ne_an_b1).other W27 ne_an_b1).other W29 ne_an_b1))
                      have hin45 : ¬ ((5 : Int32) < 0 ∨ cl45.slots.size ≤ ((5 : Int32)).toNatClampNeg) := inb_of S45 ⟨by decide, by decide⟩
                      refine own_stepW (B := T31.setTop (mkF m 457 #[.val (.long wa), .second, .val (.long wb), .second, .val (.int mode), .val (.int narrow), .val (.ref ac), .val (.ref an), .val (.int (Int32.ofNat n1)), .val (.int LN), .val (.int ((Int32.ofNat n1) + LN)), .val (.ref b1), .val (.long (if LN = (8 : Int32) then own_P8 x0 x1 x2 x3 x4 x5 x6 x7 else -1)), .second, .unset, .unset] [(.int (6 : Int32)), (.ref an), (.long ((((((((own_nib x0).toInt64) <<< ((28 : Int32) &&& 0x3f).toInt64) ||| (((own_nib x1).toInt64) <<< ((24 : Int32) &&& 0x3f).toInt64)) ||| (((own_nib x2).toInt64) <<< ((20 : Int32) &&& 0x3f).toInt64)) ||| (((own_nib x3).toInt64) <<< ((16 : Int32) &&& 0x3f).toInt64)) ||| (((own_nib x4).toInt64) <<< ((12 : Int32) &&& 0x3f).toInt64)) ||| (((own_nib x5).toInt64) <<< ((8 : Int32) &&& 0x3f).toInt64)))])) (fun t k => ?_) ?_
                      · show Steps p.tables e below (T31.setTop (mkF m 447 #[.val (.long wa), .second, .val (.long wb), .second, .val (.int mode), .val (.int narrow), .val (.ref ac), .val (.ref an), .val (.int (Int32.ofNat n1)), .val (.int LN), .val (.int ((Int32.ofNat n1) + LN)), .val (.ref b1), .val (.long (if LN = (8 : Int32) then own_P8 x0 x1 x2 x3 x4 x5 x6 x7 else -1)), .second, .unset, .unset] [(.int (5 : Int32)), (.ref an), (.long (((((((own_nib x0).toInt64) <<< ((28 : Int32) &&& 0x3f).toInt64) ||| (((own_nib x1).toInt64) <<< ((24 : Int32) &&& 0x3f).toInt64)) ||| (((own_nib x2).toInt64) <<< ((20 : Int32) &&& 0x3f).toInt64)) ||| (((own_nib x3).toInt64) <<< ((16 : Int32) &&& 0x3f).toInt64)) ||| (((own_nib x4).toInt64) <<< ((12 : Int32) &&& 0x3f).toInt64)))])) _
                        refine X31.iaload hx (j := (5 : Int32)) (v := (.int (own_nib x5))) (by rw [e31]; exact Ar45.1) (State.isArrayOf_alike hZ.alike Ar45.2.1) Ar45.2.2 hin45 (Has.at Hs45 hin45 rfl) (g := (mkF m 447 #[.val (.long wa), .second, .val (.long wb), .second, .val (.int mode), .val (.int narrow), .val (.ref ac), .val (.ref an), .val (.int (Int32.ofNat n1)), .val (.int LN), .val (.int ((Int32.ofNat n1) + LN)), .val (.ref b1), .val (.long (if LN = (8 : Int32) then own_P8 x0 x1 x2 x3 x4 x5 x6 x7 else -1)), .second, .unset, .unset] [(.int (5 : Int32)), (.ref an), (.long (((((((own_nib x0).toInt64) <<< ((28 : Int32) &&& 0x3f).toInt64) ||| (((own_nib x1).toInt64) <<< ((24 : Int32) &&& 0x3f).toInt64)) ||| (((own_nib x2).toInt64) <<< ((20 : Int32) &&& 0x3f).toInt64)) ||| (((own_nib x3).toInt64) <<< ((16 : Int32) &&& 0x3f).toInt64)) ||| (((own_nib x4).toInt64) <<< ((12 : Int32) &&& 0x3f).toInt64)))])) rfl rfl (hb hby at_447) _ ?_
                        refine XS.i2l X31.here hx rfl (hb hby at_448) rfl ?_
                        refine XS.bipush X31.here hx rfl (hb hby at_449) ?_
                        refine XS.lshl X31.here hx rfl (hb hby at_451) rfl ?_
                        refine XS.lor X31.here hx rfl (hb hby at_452) rfl ?_
                        refine XS.aload X31.here hx rfl (hb hby at_453) rfl rfl ?_
                        refine XS.bipush X31.here hx rfl (hb hby at_455) ?_
                        exact k
                      obtain ⟨cl46, Ar46, -, S46, NN46, Hs46, -⟩ := id ((((((((((((((((((((((Vn.ext E1).other W2 ne_an_b1).other W3 ne_an_b1).other W4 ne_an_b1).other W5 ne_an_b1).other W6 ne_an_b1).other W7 ne_an_b1).other W8 ne_an_b1).other W9 ne_an_b1).other W10 ne_an_b1).other W11 ne_an_b1).other W12 ne_an_b1).other W13 ne_an_b1).other W15 ne_an_b1).other W17 ne_an_b1).other W19 ne_an_b1).other W21 ne_an_b1).other W23 ne_an_b1).other W25 ne_an_b1).other W27 ne_an_b1).other W29 ne_an_b1))
                      have hin46 : ¬ ((6 : Int32) < 0 ∨ cl46.slots.size ≤ ((6 : Int32)).toNatClampNeg) := inb_of S46 ⟨by decide, by decide⟩
                      refine own_stepW (B := T31.setTop (mkF m 466 #[.val (.long wa), .second, .val (.long wb), .second, .val (.int mode), .val (.int narrow), .val (.ref ac), .val (.ref an), .val (.int (Int32.ofNat n1)), .val (.int LN), .val (.int ((Int32.ofNat n1) + LN)), .val (.ref b1), .val (.long (if LN = (8 : Int32) then own_P8 x0 x1 x2 x3 x4 x5 x6 x7 else -1)), .second, .unset, .unset] [(.int (7 : Int32)), (.ref an), (.long (((((((((own_nib x0).toInt64) <<< ((28 : Int32) &&& 0x3f).toInt64) ||| (((own_nib x1).toInt64) <<< ((24 : Int32) &&& 0x3f).toInt64)) ||| (((own_nib x2).toInt64) <<< ((20 : Int32) &&& 0x3f).toInt64)) ||| (((own_nib x3).toInt64) <<< ((16 : Int32) &&& 0x3f).toInt64)) ||| (((own_nib x4).toInt64) <<< ((12 : Int32) &&& 0x3f).toInt64)) ||| (((own_nib x5).toInt64) <<< ((8 : Int32) &&& 0x3f).toInt64)) ||| (((own_nib x6).toInt64) <<< ((4 : Int32) &&& 0x3f).toInt64)))])) (fun t k => ?_) ?_
                      · show Steps p.tables e below (T31.setTop (mkF m 457 #[.val (.long wa), .second, .val (.long wb), .second, .val (.int mode), .val (.int narrow), .val (.ref ac), .val (.ref an), .val (.int (Int32.ofNat n1)), .val (.int LN), .val (.int ((Int32.ofNat n1) + LN)), .val (.ref b1), .val (.long (if LN = (8 : Int32) then own_P8 x0 x1 x2 x3 x4 x5 x6 x7 else -1)), .second, .unset, .unset] [(.int (6 : Int32)), (.ref an), (.long ((((((((own_nib x0).toInt64) <<< ((28 : Int32) &&& 0x3f).toInt64) ||| (((own_nib x1).toInt64) <<< ((24 : Int32) &&& 0x3f).toInt64)) ||| (((own_nib x2).toInt64) <<< ((20 : Int32) &&& 0x3f).toInt64)) ||| (((own_nib x3).toInt64) <<< ((16 : Int32) &&& 0x3f).toInt64)) ||| (((own_nib x4).toInt64) <<< ((12 : Int32) &&& 0x3f).toInt64)) ||| (((own_nib x5).toInt64) <<< ((8 : Int32) &&& 0x3f).toInt64)))])) _
                        refine X31.iaload hx (j := (6 : Int32)) (v := (.int (own_nib x6))) (by rw [e31]; exact Ar46.1) (State.isArrayOf_alike hZ.alike Ar46.2.1) Ar46.2.2 hin46 (Has.at Hs46 hin46 rfl) (g := (mkF m 457 #[.val (.long wa), .second, .val (.long wb), .second, .val (.int mode), .val (.int narrow), .val (.ref ac), .val (.ref an), .val (.int (Int32.ofNat n1)), .val (.int LN), .val (.int ((Int32.ofNat n1) + LN)), .val (.ref b1), .val (.long (if LN = (8 : Int32) then own_P8 x0 x1 x2 x3 x4 x5 x6 x7 else -1)), .second, .unset, .unset] [(.int (6 : Int32)), (.ref an), (.long ((((((((own_nib x0).toInt64) <<< ((28 : Int32) &&& 0x3f).toInt64) ||| (((own_nib x1).toInt64) <<< ((24 : Int32) &&& 0x3f).toInt64)) ||| (((own_nib x2).toInt64) <<< ((20 : Int32) &&& 0x3f).toInt64)) ||| (((own_nib x3).toInt64) <<< ((16 : Int32) &&& 0x3f).toInt64)) ||| (((own_nib x4).toInt64) <<< ((12 : Int32) &&& 0x3f).toInt64)) ||| (((own_nib x5).toInt64) <<< ((8 : Int32) &&& 0x3f).toInt64)))])) rfl rfl (hb hby at_457) _ ?_
                        refine XS.i2l X31.here hx rfl (hb hby at_458) rfl ?_
                        refine XS.iconst X31.here hx rfl (hb hby at_459) ?_
                        refine XS.lshl X31.here hx rfl (hb hby at_460) rfl ?_
                        refine XS.lor X31.here hx rfl (hb hby at_461) rfl ?_
                        refine XS.aload X31.here hx rfl (hb hby at_462) rfl rfl ?_
                        refine XS.bipush X31.here hx rfl (hb hby at_464) ?_
                        exact k
                      obtain ⟨cl47, Ar47, -, S47, NN47, Hs47, -⟩ := id ((((((((((((((((((((((Vn.ext E1).other W2 ne_an_b1).other W3 ne_an_b1).other W4 ne_an_b1).other W5 ne_an_b1).other W6 ne_an_b1).other W7 ne_an_b1).other W8 ne_an_b1).other W9 ne_an_b1).other W10 ne_an_b1).other W11 ne_an_b1).other W12 ne_an_b1).other W13 ne_an_b1).other W15 ne_an_b1).other W17 ne_an_b1).other W19 ne_an_b1).other W21 ne_an_b1).other W23 ne_an_b1).other W25 ne_an_b1).other W27 ne_an_b1).other W29 ne_an_b1))
                      have hin47 : ¬ ((7 : Int32) < 0 ∨ cl47.slots.size ≤ ((7 : Int32)).toNatClampNeg) := inb_of S47 ⟨by decide, by decide⟩
                      refine own_stepW (B := T31.setTop (mkF m 475 #[.val (.long wa), .second, .val (.long wb), .second, .val (.int mode), .val (.int narrow), .val (.ref ac), .val (.ref an), .val (.int (Int32.ofNat n1)), .val (.int LN), .val (.int ((Int32.ofNat n1) + LN)), .val (.ref b1), .val (.long (if LN = (8 : Int32) then own_P8 x0 x1 x2 x3 x4 x5 x6 x7 else -1)), .second, .val (.long ((((((((((own_nib x0).toInt64) <<< ((28 : Int32) &&& 0x3f).toInt64) ||| (((own_nib x1).toInt64) <<< ((24 : Int32) &&& 0x3f).toInt64)) ||| (((own_nib x2).toInt64) <<< ((20 : Int32) &&& 0x3f).toInt64)) ||| (((own_nib x3).toInt64) <<< ((16 : Int32) &&& 0x3f).toInt64)) ||| (((own_nib x4).toInt64) <<< ((12 : Int32) &&& 0x3f).toInt64)) ||| (((own_nib x5).toInt64) <<< ((8 : Int32) &&& 0x3f).toInt64)) ||| (((own_nib x6).toInt64) <<< ((4 : Int32) &&& 0x3f).toInt64)) ||| ((own_nib x7).toInt64))), .second] [(.long ((((((((((own_nib x0).toInt64) <<< ((28 : Int32) &&& 0x3f).toInt64) ||| (((own_nib x1).toInt64) <<< ((24 : Int32) &&& 0x3f).toInt64)) ||| (((own_nib x2).toInt64) <<< ((20 : Int32) &&& 0x3f).toInt64)) ||| (((own_nib x3).toInt64) <<< ((16 : Int32) &&& 0x3f).toInt64)) ||| (((own_nib x4).toInt64) <<< ((12 : Int32) &&& 0x3f).toInt64)) ||| (((own_nib x5).toInt64) <<< ((8 : Int32) &&& 0x3f).toInt64)) ||| (((own_nib x6).toInt64) <<< ((4 : Int32) &&& 0x3f).toInt64)) ||| ((own_nib x7).toInt64))), (.long (if LN = (8 : Int32) then own_P8 x0 x1 x2 x3 x4 x5 x6 x7 else -1))])) (fun t k => ?_) ?_
                      · show Steps p.tables e below (T31.setTop (mkF m 466 #[.val (.long wa), .second, .val (.long wb), .second, .val (.int mode), .val (.int narrow), .val (.ref ac), .val (.ref an), .val (.int (Int32.ofNat n1)), .val (.int LN), .val (.int ((Int32.ofNat n1) + LN)), .val (.ref b1), .val (.long (if LN = (8 : Int32) then own_P8 x0 x1 x2 x3 x4 x5 x6 x7 else -1)), .second, .unset, .unset] [(.int (7 : Int32)), (.ref an), (.long (((((((((own_nib x0).toInt64) <<< ((28 : Int32) &&& 0x3f).toInt64) ||| (((own_nib x1).toInt64) <<< ((24 : Int32) &&& 0x3f).toInt64)) ||| (((own_nib x2).toInt64) <<< ((20 : Int32) &&& 0x3f).toInt64)) ||| (((own_nib x3).toInt64) <<< ((16 : Int32) &&& 0x3f).toInt64)) ||| (((own_nib x4).toInt64) <<< ((12 : Int32) &&& 0x3f).toInt64)) ||| (((own_nib x5).toInt64) <<< ((8 : Int32) &&& 0x3f).toInt64)) ||| (((own_nib x6).toInt64) <<< ((4 : Int32) &&& 0x3f).toInt64)))])) _
                        refine X31.iaload hx (j := (7 : Int32)) (v := (.int (own_nib x7))) (by rw [e31]; exact Ar47.1) (State.isArrayOf_alike hZ.alike Ar47.2.1) Ar47.2.2 hin47 (Has.at Hs47 hin47 rfl) (g := (mkF m 466 #[.val (.long wa), .second, .val (.long wb), .second, .val (.int mode), .val (.int narrow), .val (.ref ac), .val (.ref an), .val (.int (Int32.ofNat n1)), .val (.int LN), .val (.int ((Int32.ofNat n1) + LN)), .val (.ref b1), .val (.long (if LN = (8 : Int32) then own_P8 x0 x1 x2 x3 x4 x5 x6 x7 else -1)), .second, .unset, .unset] [(.int (7 : Int32)), (.ref an), (.long (((((((((own_nib x0).toInt64) <<< ((28 : Int32) &&& 0x3f).toInt64) ||| (((own_nib x1).toInt64) <<< ((24 : Int32) &&& 0x3f).toInt64)) ||| (((own_nib x2).toInt64) <<< ((20 : Int32) &&& 0x3f).toInt64)) ||| (((own_nib x3).toInt64) <<< ((16 : Int32) &&& 0x3f).toInt64)) ||| (((own_nib x4).toInt64) <<< ((12 : Int32) &&& 0x3f).toInt64)) ||| (((own_nib x5).toInt64) <<< ((8 : Int32) &&& 0x3f).toInt64)) ||| (((own_nib x6).toInt64) <<< ((4 : Int32) &&& 0x3f).toInt64)))])) rfl rfl (hb hby at_466) _ ?_
                        refine XS.i2l X31.here hx rfl (hb hby at_467) rfl ?_
                        refine XS.lor X31.here hx rfl (hb hby at_468) rfl ?_
                        refine XS.lstore X31.here hx rfl (hb hby at_469) rfl (l' := #[.val (.long wa), .second, .val (.long wb), .second, .val (.int mode), .val (.int narrow), .val (.ref ac), .val (.ref an), .val (.int (Int32.ofNat n1)), .val (.int LN), .val (.int ((Int32.ofNat n1) + LN)), .val (.ref b1), .val (.long (if LN = (8 : Int32) then own_P8 x0 x1 x2 x3 x4 x5 x6 x7 else -1)), .second, .val (.long ((((((((((own_nib x0).toInt64) <<< ((28 : Int32) &&& 0x3f).toInt64) ||| (((own_nib x1).toInt64) <<< ((24 : Int32) &&& 0x3f).toInt64)) ||| (((own_nib x2).toInt64) <<< ((20 : Int32) &&& 0x3f).toInt64)) ||| (((own_nib x3).toInt64) <<< ((16 : Int32) &&& 0x3f).toInt64)) ||| (((own_nib x4).toInt64) <<< ((12 : Int32) &&& 0x3f).toInt64)) ||| (((own_nib x5).toInt64) <<< ((8 : Int32) &&& 0x3f).toInt64)) ||| (((own_nib x6).toInt64) <<< ((4 : Int32) &&& 0x3f).toInt64)) ||| ((own_nib x7).toInt64))), .second]) rfl ?_
                        refine XS.lload X31.here hx rfl (hb hby at_471) rfl ?_
                        refine XS.lload X31.here hx rfl (hb hby at_473) rfl ?_
                        exact k
                      have hfin : (if LN = (8 : Int32) then own_P8 x0 x1 x2 x3 x4 x5 x6 x7 else -1) = ((((((((((own_nib x0).toInt64) <<< ((28 : Int32) &&& 0x3f).toInt64) ||| (((own_nib x1).toInt64) <<< ((24 : Int32) &&& 0x3f).toInt64)) ||| (((own_nib x2).toInt64) <<< ((20 : Int32) &&& 0x3f).toInt64)) ||| (((own_nib x3).toInt64) <<< ((16 : Int32) &&& 0x3f).toInt64)) ||| (((own_nib x4).toInt64) <<< ((12 : Int32) &&& 0x3f).toInt64)) ||| (((own_nib x5).toInt64) <<< ((8 : Int32) &&& 0x3f).toInt64)) ||| (((own_nib x6).toInt64) <<< ((4 : Int32) &&& 0x3f).toInt64)) ||| ((own_nib x7).toInt64)) := by rw [if_pos hc323, own_P8, if_neg hc338, if_neg hc345, if_neg hc352, if_neg hc359, if_neg hc366, if_neg hc373, if_neg hc381, if_neg hc389, own_join]
                      refine own_stepW (B := T31.setTop (mkF m 484 #[.val (.long wa), .second, .val (.long wb), .second, .val (.int mode), .val (.int narrow), .val (.ref ac), .val (.ref an), .val (.int (Int32.ofNat n1)), .val (.int LN), .val (.int ((Int32.ofNat n1) + LN)), .val (.ref b1), .val (.long (if LN = (8 : Int32) then own_P8 x0 x1 x2 x3 x4 x5 x6 x7 else -1)), .second, .val (.long ((((((((((own_nib x0).toInt64) <<< ((28 : Int32) &&& 0x3f).toInt64) ||| (((own_nib x1).toInt64) <<< ((24 : Int32) &&& 0x3f).toInt64)) ||| (((own_nib x2).toInt64) <<< ((20 : Int32) &&& 0x3f).toInt64)) ||| (((own_nib x3).toInt64) <<< ((16 : Int32) &&& 0x3f).toInt64)) ||| (((own_nib x4).toInt64) <<< ((12 : Int32) &&& 0x3f).toInt64)) ||| (((own_nib x5).toInt64) <<< ((8 : Int32) &&& 0x3f).toInt64)) ||| (((own_nib x6).toInt64) <<< ((4 : Int32) &&& 0x3f).toInt64)) ||| ((own_nib x7).toInt64))), .second] [(.int (1 : Int32))])) (fun t k => ?_) ?_
                      · show Steps p.tables e below (T31.setTop (mkF m 475 #[.val (.long wa), .second, .val (.long wb), .second, .val (.int mode), .val (.int narrow), .val (.ref ac), .val (.ref an), .val (.int (Int32.ofNat n1)), .val (.int LN), .val (.int ((Int32.ofNat n1) + LN)), .val (.ref b1), .val (.long (if LN = (8 : Int32) then own_P8 x0 x1 x2 x3 x4 x5 x6 x7 else -1)), .second, .val (.long ((((((((((own_nib x0).toInt64) <<< ((28 : Int32) &&& 0x3f).toInt64) ||| (((own_nib x1).toInt64) <<< ((24 : Int32) &&& 0x3f).toInt64)) ||| (((own_nib x2).toInt64) <<< ((20 : Int32) &&& 0x3f).toInt64)) ||| (((own_nib x3).toInt64) <<< ((16 : Int32) &&& 0x3f).toInt64)) ||| (((own_nib x4).toInt64) <<< ((12 : Int32) &&& 0x3f).toInt64)) ||| (((own_nib x5).toInt64) <<< ((8 : Int32) &&& 0x3f).toInt64)) ||| (((own_nib x6).toInt64) <<< ((4 : Int32) &&& 0x3f).toInt64)) ||| ((own_nib x7).toInt64))), .second] [(.long ((((((((((own_nib x0).toInt64) <<< ((28 : Int32) &&& 0x3f).toInt64) ||| (((own_nib x1).toInt64) <<< ((24 : Int32) &&& 0x3f).toInt64)) ||| (((own_nib x2).toInt64) <<< ((20 : Int32) &&& 0x3f).toInt64)) ||| (((own_nib x3).toInt64) <<< ((16 : Int32) &&& 0x3f).toInt64)) ||| (((own_nib x4).toInt64) <<< ((12 : Int32) &&& 0x3f).toInt64)) ||| (((own_nib x5).toInt64) <<< ((8 : Int32) &&& 0x3f).toInt64)) ||| (((own_nib x6).toInt64) <<< ((4 : Int32) &&& 0x3f).toInt64)) ||| ((own_nib x7).toInt64))), (.long (if LN = (8 : Int32) then own_P8 x0 x1 x2 x3 x4 x5 x6 x7 else -1))])) _
                        refine XS.lcmp X31.here hx rfl (hb hby at_475) rfl ?_
                        refine XS.ifNo X31.here hx rfl (hb hby at_476) rfl ((if0 _ _).trans (teq ((lw_eq _ _).mpr hfin)).2) ?_
                        refine XS.iconst X31.here hx rfl (hb hby at_479) ?_
                        refine XS.goto X31.here hx rfl (pc0 := 480) (pc' := 484) rfl (hb hby at_480) (by decide) (by decide) ?_
                        exact k
                      exact own_retNW X31 hSq (by rw [e31]; exact (Nat.le_trans (Nat.le_trans (Nat.le_trans (Nat.le_trans (Nat.le_trans (Nat.le_trans (Nat.le_trans (Nat.le_trans (Nat.le_trans (Nat.le_trans (Nat.le_trans (Nat.le_trans (Nat.le_trans (Nat.le_trans (Nat.le_trans (Nat.le_trans (Nat.le_trans (Nat.le_trans (Nat.le_trans (Nat.le_trans (Nat.le_trans hkq E1.1) (Keep.of_wr W2).1) (Keep.of_wr W3).1) (Keep.of_wr W4).1) (Keep.of_wr W5).1) (Keep.of_wr W6).1) (Keep.of_wr W7).1) (Keep.of_wr W8).1) (Keep.of_wr W9).1) (Keep.of_wr W10).1) (Keep.of_wr W11).1) (Keep.of_wr W12).1) (Keep.of_wr W13).1) (Keep.of_wr W15).1) (Keep.of_wr W17).1) (Keep.of_wr W19).1) (Keep.of_wr W21).1) (Keep.of_wr W23).1) (Keep.of_wr W25).1) (Keep.of_wr W27).1) (Keep.of_wr W29).1)) hx Bd.notSynchronized (t := .boolean) Bd.returns (by simp) (hb hby at_484) ⟨rfl, N31⟩ (by decide) (by decide)
    · refine own_stepW (B := T31.setTop (mkF m 475 #[.val (.long wa), .second, .val (.long wb), .second, .val (.int mode), .val (.int narrow), .val (.ref ac), .val (.ref an), .val (.int (Int32.ofNat n1)), .val (.int LN), .val (.int ((Int32.ofNat n1) + LN)), .val (.ref b1), .val (.long (if LN = (8 : Int32) then own_P8 x0 x1 x2 x3 x4 x5 x6 x7 else -1)), .second, .val (.long (-1 : Int64)), .second] [(.long (-1 : Int64)), (.long (if LN = (8 : Int32) then own_P8 x0 x1 x2 x3 x4 x5 x6 x7 else -1))])) (fun t k => ?_) ?_
      · show Steps p.tables e below (T31.setTop (mkF m 323 #[.val (.long wa), .second, .val (.long wb), .second, .val (.int mode), .val (.int narrow), .val (.ref ac), .val (.ref an), .val (.int (Int32.ofNat n1)), .val (.int LN), .val (.int ((Int32.ofNat n1) + LN)), .val (.ref b1), .val (.long (if LN = (8 : Int32) then own_P8 x0 x1 x2 x3 x4 x5 x6 x7 else -1)), .second, .unset, .unset] [(.int (8 : Int32)), (.int LN)])) _
        refine XS.icmpNo X31.here hx rfl (hb hby at_323) rfl (feq hc323).1 ?_
        refine X31.ldc2Long hx hown (mvT hZ (hw _ (List.mem_of_getElem? (i := 15) rfl))) (g := (mkF m 326 #[.val (.long wa), .second, .val (.long wb), .second, .val (.int mode), .val (.int narrow), .val (.ref ac), .val (.ref an), .val (.int (Int32.ofNat n1)), .val (.int LN), .val (.int ((Int32.ofNat n1) + LN)), .val (.ref b1), .val (.long (if LN = (8 : Int32) then own_P8 x0 x1 x2 x3 x4 x5 x6 x7 else -1)), .second, .unset, .unset] [])) rfl (hb hby at_326) _ ?_
        refine XS.lstore X31.here hx rfl (hb hby at_329) rfl (l' := #[.val (.long wa), .second, .val (.long wb), .second, .val (.int mode), .val (.int narrow), .val (.ref ac), .val (.ref an), .val (.int (Int32.ofNat n1)), .val (.int LN), .val (.int ((Int32.ofNat n1) + LN)), .val (.ref b1), .val (.long (if LN = (8 : Int32) then own_P8 x0 x1 x2 x3 x4 x5 x6 x7 else -1)), .second, .val (.long (-1 : Int64)), .second]) rfl ?_
        refine XS.goto X31.here hx rfl (pc0 := 331) (pc' := 471) rfl (hb hby at_331) (by decide) (by decide) ?_
        refine XS.lload X31.here hx rfl (hb hby at_471) rfl ?_
        refine XS.lload X31.here hx rfl (hb hby at_473) rfl ?_
        exact k
      have hfin : (if LN = (8 : Int32) then own_P8 x0 x1 x2 x3 x4 x5 x6 x7 else -1) = (-1 : Int64) := if_neg hc323
      refine own_stepW (B := T31.setTop (mkF m 484 #[.val (.long wa), .second, .val (.long wb), .second, .val (.int mode), .val (.int narrow), .val (.ref ac), .val (.ref an), .val (.int (Int32.ofNat n1)), .val (.int LN), .val (.int ((Int32.ofNat n1) + LN)), .val (.ref b1), .val (.long (if LN = (8 : Int32) then own_P8 x0 x1 x2 x3 x4 x5 x6 x7 else -1)), .second, .val (.long (-1 : Int64)), .second] [(.int (1 : Int32))])) (fun t k => ?_) ?_
      · show Steps p.tables e below (T31.setTop (mkF m 475 #[.val (.long wa), .second, .val (.long wb), .second, .val (.int mode), .val (.int narrow), .val (.ref ac), .val (.ref an), .val (.int (Int32.ofNat n1)), .val (.int LN), .val (.int ((Int32.ofNat n1) + LN)), .val (.ref b1), .val (.long (if LN = (8 : Int32) then own_P8 x0 x1 x2 x3 x4 x5 x6 x7 else -1)), .second, .val (.long (-1 : Int64)), .second] [(.long (-1 : Int64)), (.long (if LN = (8 : Int32) then own_P8 x0 x1 x2 x3 x4 x5 x6 x7 else -1))])) _
        refine XS.lcmp X31.here hx rfl (hb hby at_475) rfl ?_
        refine XS.ifNo X31.here hx rfl (hb hby at_476) rfl ((if0 _ _).trans (teq ((lw_eq _ _).mpr hfin)).2) ?_
        refine XS.iconst X31.here hx rfl (hb hby at_479) ?_
        refine XS.goto X31.here hx rfl (pc0 := 480) (pc' := 484) rfl (hb hby at_480) (by decide) (by decide) ?_
        exact k
      exact own_retNW X31 hSq (by rw [e31]; exact (Nat.le_trans (Nat.le_trans (Nat.le_trans (Nat.le_trans (Nat.le_trans (Nat.le_trans (Nat.le_trans (Nat.le_trans (Nat.le_trans (Nat.le_trans (Nat.le_trans (Nat.le_trans (Nat.le_trans (Nat.le_trans (Nat.le_trans (Nat.le_trans (Nat.le_trans (Nat.le_trans (Nat.le_trans (Nat.le_trans (Nat.le_trans hkq E1.1) (Keep.of_wr W2).1) (Keep.of_wr W3).1) (Keep.of_wr W4).1) (Keep.of_wr W5).1) (Keep.of_wr W6).1) (Keep.of_wr W7).1) (Keep.of_wr W8).1) (Keep.of_wr W9).1) (Keep.of_wr W10).1) (Keep.of_wr W11).1) (Keep.of_wr W12).1) (Keep.of_wr W13).1) (Keep.of_wr W15).1) (Keep.of_wr W17).1) (Keep.of_wr W19).1) (Keep.of_wr W21).1) (Keep.of_wr W23).1) (Keep.of_wr W25).1) (Keep.of_wr W27).1) (Keep.of_wr W29).1)) hx Bd.notSynchronized (t := .boolean) Bd.returns (by simp) (hb hby at_484) ⟨rfl, N31⟩ (by decide) (by decide)
  have contA7 : ∀ (ac an : Addr) (kc kn : ClassId) (Tc : State) (hc : Heap) (lc : List Loc) (kq : Nat) (vmc : Vm) (sa b : Addr) (k : ClassId) (x0 x1 x2 x3 x4 x5 x6 : Int32), (Stand p l e room_1 (s.setVm vmc) m #[(.long wa), (.long wb), (.int mode), (.int narrow)] below meth c Tc lc 4 84) → (Tc.heap = hc) → (s.Since vmc kq) → (kq ≤ hc.size) → (Z.Warmed39 (s.setVm vmc).vm) → ((s.setVm vmc).vm.findClass "tidemark/RecordFormParseChecksumPinLaw" = some m.cls) → (Fr n0 lc) → (Keep h0 hc []) → (h0.size ≤ ac) → (h0.size ≤ an) → (ac ≠ an) → (Arv Z hc ac kc .char (8 : Int32) [(.int x0), (.int x1), (.int x2), (.int x3), (.int x4), (.int x5), (.int x6), (.int (0 : Int32))] (.int (0 : Int32))) → (Arv Z hc an kn .int (8 : Int32) [(.int (own_nib x0)), (.int (own_nib x1)), (.int (own_nib x2)), (.int (own_nib x3)), (.int (own_nib x4)), (.int (own_nib x5)), (.int (own_nib x6)), (.int (0 : Int32))] (.int (0 : Int32))) → (nar .char x0 = x0) → (nar .char x1 = x1) → (nar .char x2 = x2) → (nar .char x3 = x3) → (nar .char x4 = x4) → (nar .char x5 = x5) → (nar .char x6 = x6) → (Exa Z hc sa "java/lang/String") → (Fld Z hc sa "java/lang/String" "coder" "B" (.int (0 : Int32))) → (Fld Z hc sa "java/lang/String" "value" "[B" (.ref b)) → (Arv Z hc b k .byte (16 : Int32) [(.int (48 : Int32)), (.int (49 : Int32)), (.int (50 : Int32)), (.int (51 : Int32)), (.int (52 : Int32)), (.int (53 : Int32)), (.int (54 : Int32)), (.int (55 : Int32)), (.int (56 : Int32)), (.int (57 : Int32)), (.int (97 : Int32)), (.int (98 : Int32)), (.int (99 : Int32)), (.int (100 : Int32)), (.int (101 : Int32)), (.int (102 : Int32))] (.int 0)) → (Lit (s.setVm vmc) "tidemark/RecordFormParseChecksumPinLaw" 22 sa) → own_GoW p e below s (Q0 Z wa wb mode narrow cs vf h0 n0) room_1.cells room_1.slots (Tc.setTop (mkF m 104 #[.val (.long wa), .second, .val (.long wb), .second, .val (.int mode), .val (.int narrow), .val (.ref ac), .val (.ref an), .unset, .unset, .unset, .unset, .unset, .unset, .unset, .unset] [])) := by
    intro ac an kc kn Tc hc lc kq vmc sa b k x0 x1 x2 x3 x4 x5 x6 Xc ec hSq hkq hZ hown Nc Kc szc szn nee Vc Vn y0 y1 y2 y3 y4 y5 y6 P_0 P_1 P_2 V_b Lt
    have g_ac : n0 ≤ ac := Nat.le_trans Z0 szc
    have g_an : n0 ≤ an := Nat.le_trans Z0 szn
    refine own_stepW (B := Tc.setTop (mkF m 115 #[.val (.long wa), .second, .val (.long wb), .second, .val (.int mode), .val (.int narrow), .val (.ref ac), .val (.ref an), .unset, .unset, .unset, .unset, .unset, .unset, .unset, .unset] [(.int narrow), (.int mode), (.long wb), (.int (7 : Int32)), (.ref an), (.ref ac)])) (fun t k => ?_) ?_
    · show Steps p.tables e below (Tc.setTop (mkF m 104 #[.val (.long wa), .second, .val (.long wb), .second, .val (.int mode), .val (.int narrow), .val (.ref ac), .val (.ref an), .unset, .unset, .unset, .unset, .unset, .unset, .unset, .unset] [])) _
      refine XS.aload Xc.here hx rfl (hb hby at_104) rfl rfl ?_
      refine XS.aload Xc.here hx rfl (hb hby at_106) rfl rfl ?_
      refine XS.bipush Xc.here hx rfl (hb hby at_108) ?_
      refine XS.lloadN Xc.here hx rfl (hb hby at_110) rfl ?_
      refine XS.iload Xc.here hx rfl (hb hby at_111) rfl ?_
      refine XS.iload Xc.here hx rfl (hb hby at_113) rfl ?_
      exact k
    obtain ⟨_, _, ⟨T48, L48, k48, n48⟩, -, X48, ⟨Lc48, hQ48, l48, y48, z48⟩, st48⟩ := Jvm.LawKit.callS Xc hx (y := (⟨"tidemark/RecordFormParseChecksumPinLaw", "draw", "([C[IIJII)V"⟩ : MethodName)) hown (mvT hZ (hw _ (List.mem_of_getElem? (i := 2) rfl))) (mvT hZ (hw _ (List.mem_of_getElem? (i := 3) rfl))) (mvT hZ (hw _ (List.mem_of_getElem? (i := 4) rfl))) (mvT hZ (hw _ (List.mem_of_getElem? (i := 5) rfl))) (by decide) (own_backL (W := 0) (rm1w l Z a0 hw [] ac an (7 : Int32) wb mode narrow kc kn [(.int x0), (.int x1), (.int x2), (.int x3), (.int x4), (.int x5), (.int x6), (.int (0 : Int32))] [(.int (own_nib x0)), (.int (own_nib x1)), (.int (own_nib x2)), (.int (own_nib x3)), (.int (own_nib x4)), (.int (own_nib x5)), (.int (own_nib x6)), (.int (0 : Int32))] sa b k cs vf hc n0 (Nat.le_trans Z0 Kc.1) Vc rfl Vn rfl (by decide) (by decide) nee g_ac g_an P_0 P_1 P_2 V_b (own_staKeep S_C Kc ns0) hcs (own_staKeep S_F Kc ns0) hvf) hZ (hw _ (List.mem_of_getElem? (i := 5) rfl)) (hw _ (List.mem_of_getElem? (i := 4) rfl)) (by decide) (by decide) Lt) (g := (mkF m 115 #[.val (.long wa), .second, .val (.long wb), .second, .val (.int mode), .val (.int narrow), .val (.ref ac), .val (.ref an), .unset, .unset, .unset, .unset, .unset, .unset, .unset, .unset] [(.int narrow), (.int mode), (.long wb), (.int (7 : Int32)), (.ref an), (.ref ac)])) rfl (by rw [hml]; rfl) (argsL := [(.ref ac), (.ref an), (.int (7 : Int32)), (.long wb), (.int mode), (.int narrow)]) (rest := []) (lenOf pd_11 rfl) rfl (by show 2 * 0 + _ ≤ _; exact Nat.le_of_eq rfl) (hb hby at_115) (fun _ _ => ⟨rfl, ec, (by decide : 4 + 0 ≤ _), (by decide : 84 + 0 ≤ _)⟩)
    dsimp only [Pt.U, Pt.locs, Pt.cells, Pt.slots] at X48 l48 y48 z48 st48 hQ48
    subst l48 y48 z48
    obtain ⟨rfl, N48q, K48, ⟨x48, y48, Vc48, Vn48⟩⟩ := hQ48
    have N48 := Fr.app Nc N48q
    refine own_stepW st48 ?_
    show own_GoW p e below s _ _ _ (T48.setTop (mkF m 118 #[.val (.long wa), .second, .val (.long wb), .second, .val (.int mode), .val (.int narrow), .val (.ref ac), .val (.ref an), .unset, .unset, .unset, .unset, .unset, .unset, .unset, .unset] []))
    exact tail ac an kc kn _ _ _ _ _ x0 x1 x2 x3 x4 x5 x6 x48 X48 rfl hSq (Nat.le_trans hkq K48.1) hZ hown N48 (Kc.trans K48 (allS (Or.inr szc) (allS (Or.inr szn) all0))) szc szn nee Vc48 Vn48 y0 y1 y2 y3 y4 y5 y6 y48
  have contB7 : ∀ (ac an : Addr) (kc kn : ClassId) (Tc : State) (hc : Heap) (lc : List Loc) (kq : Nat) (x0 x1 x2 x3 x4 x5 x6 : Int32), (Stand p l e room_1 (s.setVm s.vm) m #[(.long wa), (.long wb), (.int mode), (.int narrow)] below meth c Tc lc 2 16) → (Tc.heap = hc) → (s.Since s.vm kq) → (kq ≤ hc.size) → (Z.Warmed39 (s.setVm s.vm).vm) → ((s.setVm s.vm).vm.findClass "tidemark/RecordFormParseChecksumPinLaw" = some m.cls) → (Fr n0 lc) → (Keep h0 hc []) → (h0.size ≤ ac) → (h0.size ≤ an) → (ac ≠ an) → (Arv Z hc ac kc .char (8 : Int32) [(.int x0), (.int x1), (.int x2), (.int x3), (.int x4), (.int x5), (.int x6), (.int (0 : Int32))] (.int (0 : Int32))) → (Arv Z hc an kn .int (8 : Int32) [(.int (own_nib x0)), (.int (own_nib x1)), (.int (own_nib x2)), (.int (own_nib x3)), (.int (own_nib x4)), (.int (own_nib x5)), (.int (own_nib x6)), (.int (0 : Int32))] (.int (0 : Int32))) → (nar .char x0 = x0) → (nar .char x1 = x1) → (nar .char x2 = x2) → (nar .char x3 = x3) → (nar .char x4 = x4) → (nar .char x5 = x5) → (nar .char x6 = x6) → own_GoW p e below s (Q0 Z wa wb mode narrow cs vf h0 n0) room_1.cells room_1.slots (Tc.setTop (mkF m 104 #[.val (.long wa), .second, .val (.long wb), .second, .val (.int mode), .val (.int narrow), .val (.ref ac), .val (.ref an), .unset, .unset, .unset, .unset, .unset, .unset, .unset, .unset] [])) := by
    intro ac an kc kn Tc hc lc kq x0 x1 x2 x3 x4 x5 x6 Xc ec hSq hkq hZ hown Nc Kc szc szn nee Vc Vn y0 y1 y2 y3 y4 y5 y6
    have g_ac : n0 ≤ ac := Nat.le_trans Z0 szc
    have g_an : n0 ≤ an := Nat.le_trans Z0 szn
    refine own_stepW (B := Tc.setTop (mkF m 115 #[.val (.long wa), .second, .val (.long wb), .second, .val (.int mode), .val (.int narrow), .val (.ref ac), .val (.ref an), .unset, .unset, .unset, .unset, .unset, .unset, .unset, .unset] [(.int narrow), (.int mode), (.long wb), (.int (7 : Int32)), (.ref an), (.ref ac)])) (fun t k => ?_) ?_
    · show Steps p.tables e below (Tc.setTop (mkF m 104 #[.val (.long wa), .second, .val (.long wb), .second, .val (.int mode), .val (.int narrow), .val (.ref ac), .val (.ref an), .unset, .unset, .unset, .unset, .unset, .unset, .unset, .unset] [])) _
      refine XS.aload Xc.here hx rfl (hb hby at_104) rfl rfl ?_
      refine XS.aload Xc.here hx rfl (hb hby at_106) rfl rfl ?_
      refine XS.bipush Xc.here hx rfl (hb hby at_108) ?_
      refine XS.lloadN Xc.here hx rfl (hb hby at_110) rfl ?_
      refine XS.iload Xc.here hx rfl (hb hby at_111) rfl ?_
      refine XS.iload Xc.here hx rfl (hb hby at_113) rfl ?_
      exact k
    by_cases hbit : (((mode.toUInt32 >>> ((7 : Int32) &&& 31).toUInt32).toInt32) &&& (1 : Int32)) = (0 : Int32)
    · obtain ⟨_, _, ⟨T49, L49, k49, n49⟩, -, X49, ⟨Lc49, hQ49, l49, y49, z49⟩, st49⟩ := Jvm.LawKit.callS Xc hx (y := (⟨"tidemark/RecordFormParseChecksumPinLaw", "draw", "([C[IIJII)V"⟩ : MethodName)) hown (mvT hZ (hw _ (List.mem_of_getElem? (i := 2) rfl))) (mvT hZ (hw _ (List.mem_of_getElem? (i := 3) rfl))) (mvT hZ (hw _ (List.mem_of_getElem? (i := 4) rfl))) (mvT hZ (hw _ (List.mem_of_getElem? (i := 5) rfl))) (by decide) (backOf (W := 0) (rm1n l Z a0 hw [] ac an (7 : Int32) wb mode narrow kc kn [(.int x0), (.int x1), (.int x2), (.int x3), (.int x4), (.int x5), (.int x6), (.int (0 : Int32))] [(.int (own_nib x0)), (.int (own_nib x1)), (.int (own_nib x2)), (.int (own_nib x3)), (.int (own_nib x4)), (.int (own_nib x5)), (.int (own_nib x6)), (.int (0 : Int32))] hc n0 (Nat.le_trans Z0 Kc.1) Vc rfl Vn rfl (by decide) (by decide) nee g_ac g_an hbit) hZ (hw _ (List.mem_of_getElem? (i := 5) rfl)) (hw _ (List.mem_of_getElem? (i := 4) rfl)) (by decide) (by decide) ) (g := (mkF m 115 #[.val (.long wa), .second, .val (.long wb), .second, .val (.int mode), .val (.int narrow), .val (.ref ac), .val (.ref an), .unset, .unset, .unset, .unset, .unset, .unset, .unset, .unset] [(.int narrow), (.int mode), (.long wb), (.int (7 : Int32)), (.ref an), (.ref ac)])) rfl (by rw [hml]; rfl) (argsL := [(.ref ac), (.ref an), (.int (7 : Int32)), (.long wb), (.int mode), (.int narrow)]) (rest := []) (lenOf pd_11 rfl) rfl (by show 2 * 0 + _ ≤ _; exact Nat.le_of_eq rfl) (hb hby at_115) (fun _ _ => ⟨rfl, ec, (by decide : 2 + 0 ≤ _), (by decide : 16 + 0 ≤ _)⟩)
      dsimp only [Pt.U, Pt.locs, Pt.cells, Pt.slots] at X49 l49 y49 z49 st49 hQ49
      subst l49 y49 z49
      obtain ⟨rfl, N49q, K49, ⟨x49, y49, Vc49, Vn49⟩⟩ := hQ49
      have N49 := Fr.app Nc N49q
      refine own_stepW st49 ?_
      show own_GoW p e below s _ _ _ (T49.setTop (mkF m 118 #[.val (.long wa), .second, .val (.long wb), .second, .val (.int mode), .val (.int narrow), .val (.ref ac), .val (.ref an), .unset, .unset, .unset, .unset, .unset, .unset, .unset, .unset] []))
      exact tail ac an kc kn _ _ _ _ _ x0 x1 x2 x3 x4 x5 x6 x49 (Stand.more X49 (by decide) (by decide)) rfl hSq (Nat.le_trans hkq K49.1) hZ hown N49 (Kc.trans K49 (allS (Or.inr szc) (allS (Or.inr szn) all0))) szc szn nee Vc49 Vn49 y0 y1 y2 y3 y4 y5 y6 y49
    · obtain ⟨_, _, ⟨T50, L50, k50, n50⟩, -, X50, hSx50, gx50, ⟨Lc50, hQ50, l50, y50, z50⟩, st50⟩ := callSS Xc hx (y := (⟨"tidemark/RecordFormParseChecksumPinLaw", "draw", "([C[IIJII)V"⟩ : MethodName)) hown (mvT hZ (hw _ (List.mem_of_getElem? (i := 2) rfl))) (mvT hZ (hw _ (List.mem_of_getElem? (i := 3) rfl))) (mvT hZ (hw _ (List.mem_of_getElem? (i := 4) rfl))) (mvT hZ (hw _ (List.mem_of_getElem? (i := 5) rfl))) (by decide) (own_backC (W := 0) (rm1c l Z a0 hw [] ac an (7 : Int32) wb mode narrow kc kn [(.int x0), (.int x1), (.int x2), (.int x3), (.int x4), (.int x5), (.int x6), (.int (0 : Int32))] [(.int (own_nib x0)), (.int (own_nib x1)), (.int (own_nib x2)), (.int (own_nib x3)), (.int (own_nib x4)), (.int (own_nib x5)), (.int (own_nib x6)), (.int (0 : Int32))] cs vf hc n0 (Nat.le_trans Z0 Kc.1) Vc rfl Vn rfl (by decide) (by decide) nee g_ac g_an hbit (own_ext O0 Kc) hcw hh0 (own_staKeep S_C Kc ns0) hcs (own_staKeep S_F Kc ns0) hvf) hZ (hw _ (List.mem_of_getElem? (i := 5) rfl)) (hw _ (List.mem_of_getElem? (i := 4) rfl)) (by decide) (by decide) I0) (g := (mkF m 115 #[.val (.long wa), .second, .val (.long wb), .second, .val (.int mode), .val (.int narrow), .val (.ref ac), .val (.ref an), .unset, .unset, .unset, .unset, .unset, .unset, .unset, .unset] [(.int narrow), (.int mode), (.long wb), (.int (7 : Int32)), (.ref an), (.ref ac)])) rfl (by rw [hml]; rfl) (argsL := [(.ref ac), (.ref an), (.int (7 : Int32)), (.long wb), (.int mode), (.int narrow)]) (rest := []) (lenOf pd_11 rfl) rfl (by show 2 * 0 + _ ≤ _; exact Nat.le_of_eq rfl) (hb hby at_115) (fun _ _ => ⟨rfl, ec, (by decide : 2 + 2 ≤ _), (by decide : 16 + 68 ≤ _)⟩)
      dsimp only [Pt.U, Pt.locs, Pt.cells, Pt.slots] at X50 l50 y50 z50 st50 hQ50 hSx50 gx50
      subst l50 y50 z50
      obtain ⟨rfl, N50q, K50, ⟨x50, y50, Vc50, Vn50⟩, sa, b, k, P_0, P_1, P_2, V_b, Lt⟩ := hQ50
      have N50 := Fr.app Nc N50q
      refine own_viaW st50 ?_
      obtain ⟨X50, hS50, hZ, hown⟩ := rebS hSq (by rw [ec]; exact hkq) X50 hSx50 gx50 hZ hown
      show own_GoW p e below s _ _ _ (T50.setTop (mkF m 118 #[.val (.long wa), .second, .val (.long wb), .second, .val (.int mode), .val (.int narrow), .val (.ref ac), .val (.ref an), .unset, .unset, .unset, .unset, .unset, .unset, .unset, .unset] []))
      exact tail ac an kc kn _ _ _ _ _ x0 x1 x2 x3 x4 x5 x6 x50 X50 rfl hS50 (Nat.le_refl T50.heap.size) hZ hown N50 (Kc.trans K50 (allS (Or.inr szc) (allS (Or.inr szn) all0))) szc szn nee Vc50 Vn50 y0 y1 y2 y3 y4 y5 y6 y50
  have contA6 : ∀ (ac an : Addr) (kc kn : ClassId) (Tc : State) (hc : Heap) (lc : List Loc) (kq : Nat) (vmc : Vm) (sa b : Addr) (k : ClassId) (x0 x1 x2 x3 x4 x5 : Int32), (Stand p l e room_1 (s.setVm vmc) m #[(.long wa), (.long wb), (.int mode), (.int narrow)] below meth c Tc lc 4 84) → (Tc.heap = hc) → (s.Since vmc kq) → (kq ≤ hc.size) → (Z.Warmed39 (s.setVm vmc).vm) → ((s.setVm vmc).vm.findClass "tidemark/RecordFormParseChecksumPinLaw" = some m.cls) → (Fr n0 lc) → (Keep h0 hc []) → (h0.size ≤ ac) → (h0.size ≤ an) → (ac ≠ an) → (Arv Z hc ac kc .char (8 : Int32) [(.int x0), (.int x1), (.int x2), (.int x3), (.int x4), (.int x5), (.int (0 : Int32)), (.int (0 : Int32))] (.int (0 : Int32))) → (Arv Z hc an kn .int (8 : Int32) [(.int (own_nib x0)), (.int (own_nib x1)), (.int (own_nib x2)), (.int (own_nib x3)), (.int (own_nib x4)), (.int (own_nib x5)), (.int (0 : Int32)), (.int (0 : Int32))] (.int (0 : Int32))) → (nar .char x0 = x0) → (nar .char x1 = x1) → (nar .char x2 = x2) → (nar .char x3 = x3) → (nar .char x4 = x4) → (nar .char x5 = x5) → (Exa Z hc sa "java/lang/String") → (Fld Z hc sa "java/lang/String" "coder" "B" (.int (0 : Int32))) → (Fld Z hc sa "java/lang/String" "value" "[B" (.ref b)) → (Arv Z hc b k .byte (16 : Int32) [(.int (48 : Int32)), (.int (49 : Int32)), (.int (50 : Int32)), (.int (51 : Int32)), (.int (52 : Int32)), (.int (53 : Int32)), (.int (54 : Int32)), (.int (55 : Int32)), (.int (56 : Int32)), (.int (57 : Int32)), (.int (97 : Int32)), (.int (98 : Int32)), (.int (99 : Int32)), (.int (100 : Int32)), (.int (101 : Int32)), (.int (102 : Int32))] (.int 0)) → (Lit (s.setVm vmc) "tidemark/RecordFormParseChecksumPinLaw" 22 sa) → own_GoW p e below s (Q0 Z wa wb mode narrow cs vf h0 n0) room_1.cells room_1.slots (Tc.setTop (mkF m 90 #[.val (.long wa), .second, .val (.long wb), .second, .val (.int mode), .val (.int narrow), .val (.ref ac), .val (.ref an), .unset, .unset, .unset, .unset, .unset, .unset, .unset, .unset] [])) := by
    intro ac an kc kn Tc hc lc kq vmc sa b k x0 x1 x2 x3 x4 x5 Xc ec hSq hkq hZ hown Nc Kc szc szn nee Vc Vn y0 y1 y2 y3 y4 y5 P_0 P_1 P_2 V_b Lt
    have g_ac : n0 ≤ ac := Nat.le_trans Z0 szc
    have g_an : n0 ≤ an := Nat.le_trans Z0 szn
    refine own_stepW (B := Tc.setTop (mkF m 101 #[.val (.long wa), .second, .val (.long wb), .second, .val (.int mode), .val (.int narrow), .val (.ref ac), .val (.ref an), .unset, .unset, .unset, .unset, .unset, .unset, .unset, .unset] [(.int narrow), (.int mode), (.long wb), (.int (6 : Int32)), (.ref an), (.ref ac)])) (fun t k => ?_) ?_
    · show Steps p.tables e below (Tc.setTop (mkF m 90 #[.val (.long wa), .second, .val (.long wb), .second, .val (.int mode), .val (.int narrow), .val (.ref ac), .val (.ref an), .unset, .unset, .unset, .unset, .unset, .unset, .unset, .unset] [])) _
      refine XS.aload Xc.here hx rfl (hb hby at_90) rfl rfl ?_
      refine XS.aload Xc.here hx rfl (hb hby at_92) rfl rfl ?_
      refine XS.bipush Xc.here hx rfl (hb hby at_94) ?_
      refine XS.lloadN Xc.here hx rfl (hb hby at_96) rfl ?_
      refine XS.iload Xc.here hx rfl (hb hby at_97) rfl ?_
      refine XS.iload Xc.here hx rfl (hb hby at_99) rfl ?_
      exact k
    obtain ⟨_, _, ⟨T51, L51, k51, n51⟩, -, X51, ⟨Lc51, hQ51, l51, y51, z51⟩, st51⟩ := Jvm.LawKit.callS Xc hx (y := (⟨"tidemark/RecordFormParseChecksumPinLaw", "draw", "([C[IIJII)V"⟩ : MethodName)) hown (mvT hZ (hw _ (List.mem_of_getElem? (i := 2) rfl))) (mvT hZ (hw _ (List.mem_of_getElem? (i := 3) rfl))) (mvT hZ (hw _ (List.mem_of_getElem? (i := 4) rfl))) (mvT hZ (hw _ (List.mem_of_getElem? (i := 5) rfl))) (by decide) (own_backL (W := 0) (rm1w l Z a0 hw [] ac an (6 : Int32) wb mode narrow kc kn [(.int x0), (.int x1), (.int x2), (.int x3), (.int x4), (.int x5), (.int (0 : Int32)), (.int (0 : Int32))] [(.int (own_nib x0)), (.int (own_nib x1)), (.int (own_nib x2)), (.int (own_nib x3)), (.int (own_nib x4)), (.int (own_nib x5)), (.int (0 : Int32)), (.int (0 : Int32))] sa b k cs vf hc n0 (Nat.le_trans Z0 Kc.1) Vc rfl Vn rfl (by decide) (by decide) nee g_ac g_an P_0 P_1 P_2 V_b (own_staKeep S_C Kc ns0) hcs (own_staKeep S_F Kc ns0) hvf) hZ (hw _ (List.mem_of_getElem? (i := 5) rfl)) (hw _ (List.mem_of_getElem? (i := 4) rfl)) (by decide) (by decide) Lt) (g := (mkF m 101 #[.val (.long wa), .second, .val (.long wb), .second, .val (.int mode), .val (.int narrow), .val (.ref ac), .val (.ref an), .unset, .unset, .unset, .unset, .unset, .unset, .unset, .unset] [(.int narrow), (.int mode), (.long wb), (.int (6 : Int32)), (.ref an), (.ref ac)])) rfl (by rw [hml]; rfl) (argsL := [(.ref ac), (.ref an), (.int (6 : Int32)), (.long wb), (.int mode), (.int narrow)]) (rest := []) (lenOf pd_11 rfl) rfl (by show 2 * 0 + _ ≤ _; exact Nat.le_of_eq rfl) (hb hby at_101) (fun _ _ => ⟨rfl, ec, (by decide : 4 + 0 ≤ _), (by decide : 84 + 0 ≤ _)⟩)
    dsimp only [Pt.U, Pt.locs, Pt.cells, Pt.slots] at X51 l51 y51 z51 st51 hQ51
    subst l51 y51 z51
    obtain ⟨rfl, N51q, K51, ⟨x51, y51, Vc51, Vn51⟩⟩ := hQ51
    have N51 := Fr.app Nc N51q
    refine own_stepW st51 ?_
    show own_GoW p e below s _ _ _ (T51.setTop (mkF m 104 #[.val (.long wa), .second, .val (.long wb), .second, .val (.int mode), .val (.int narrow), .val (.ref ac), .val (.ref an), .unset, .unset, .unset, .unset, .unset, .unset, .unset, .unset] []))
    exact contA7 ac an kc kn _ _ _ _ _ _ _ _ x0 x1 x2 x3 x4 x5 x51 X51 rfl hSq (Nat.le_trans hkq K51.1) hZ hown N51 (Kc.trans K51 (allS (Or.inr szc) (allS (Or.inr szn) all0))) szc szn nee Vc51 Vn51 y0 y1 y2 y3 y4 y5 y51 (P_0.keep K51) (P_1.keep K51 (ninS (Exa.neArv P_0 Vc (hw _ (List.mem_of_getElem? (i := 18) rfl))) (ninS (Exa.neArv P_0 Vn (hw _ (List.mem_of_getElem? (i := 18) rfl))) nin0))) (P_2.keep K51 (ninS (Exa.neArv P_0 Vc (hw _ (List.mem_of_getElem? (i := 18) rfl))) (ninS (Exa.neArv P_0 Vn (hw _ (List.mem_of_getElem? (i := 18) rfl))) nin0))) (V_b.keep K51 (ninS (arv_ne V_b Vc (Or.inl (by decide))) (ninS (arv_ne V_b Vn (Or.inl (by decide))) nin0))) Lt
  have contB6 : ∀ (ac an : Addr) (kc kn : ClassId) (Tc : State) (hc : Heap) (lc : List Loc) (kq : Nat) (x0 x1 x2 x3 x4 x5 : Int32), (Stand p l e room_1 (s.setVm s.vm) m #[(.long wa), (.long wb), (.int mode), (.int narrow)] below meth c Tc lc 2 16) → (Tc.heap = hc) → (s.Since s.vm kq) → (kq ≤ hc.size) → (Z.Warmed39 (s.setVm s.vm).vm) → ((s.setVm s.vm).vm.findClass "tidemark/RecordFormParseChecksumPinLaw" = some m.cls) → (Fr n0 lc) → (Keep h0 hc []) → (h0.size ≤ ac) → (h0.size ≤ an) → (ac ≠ an) → (Arv Z hc ac kc .char (8 : Int32) [(.int x0), (.int x1), (.int x2), (.int x3), (.int x4), (.int x5), (.int (0 : Int32)), (.int (0 : Int32))] (.int (0 : Int32))) → (Arv Z hc an kn .int (8 : Int32) [(.int (own_nib x0)), (.int (own_nib x1)), (.int (own_nib x2)), (.int (own_nib x3)), (.int (own_nib x4)), (.int (own_nib x5)), (.int (0 : Int32)), (.int (0 : Int32))] (.int (0 : Int32))) → (nar .char x0 = x0) → (nar .char x1 = x1) → (nar .char x2 = x2) → (nar .char x3 = x3) → (nar .char x4 = x4) → (nar .char x5 = x5) → own_GoW p e below s (Q0 Z wa wb mode narrow cs vf h0 n0) room_1.cells room_1.slots (Tc.setTop (mkF m 90 #[.val (.long wa), .second, .val (.long wb), .second, .val (.int mode), .val (.int narrow), .val (.ref ac), .val (.ref an), .unset, .unset, .unset, .unset, .unset, .unset, .unset, .unset] [])) := by
    intro ac an kc kn Tc hc lc kq x0 x1 x2 x3 x4 x5 Xc ec hSq hkq hZ hown Nc Kc szc szn nee Vc Vn y0 y1 y2 y3 y4 y5
    have g_ac : n0 ≤ ac := Nat.le_trans Z0 szc
    have g_an : n0 ≤ an := Nat.le_trans Z0 szn
    refine own_stepW (B := Tc.setTop (mkF m 101 #[.val (.long wa), .second, .val (.long wb), .second, .val (.int mode), .val (.int narrow), .val (.ref ac), .val (.ref an), .unset, .unset, .unset, .unset, .unset, .unset, .unset, .unset] [(.int narrow), (.int mode), (.long wb), (.int (6 : Int32)), (.ref an), (.ref ac)])) (fun t k => ?_) ?_
    · show Steps p.tables e below (Tc.setTop (mkF m 90 #[.val (.long wa), .second, .val (.long wb), .second, .val (.int mode), .val (.int narrow), .val (.ref ac), .val (.ref an), .unset, .unset, .unset, .unset, .unset, .unset, .unset, .unset] [])) _
      refine XS.aload Xc.here hx rfl (hb hby at_90) rfl rfl ?_
      refine XS.aload Xc.here hx rfl (hb hby at_92) rfl rfl ?_
      refine XS.bipush Xc.here hx rfl (hb hby at_94) ?_
      refine XS.lloadN Xc.here hx rfl (hb hby at_96) rfl ?_
      refine XS.iload Xc.here hx rfl (hb hby at_97) rfl ?_
      refine XS.iload Xc.here hx rfl (hb hby at_99) rfl ?_
      exact k
    by_cases hbit : (((mode.toUInt32 >>> ((6 : Int32) &&& 31).toUInt32).toInt32) &&& (1 : Int32)) = (0 : Int32)
    · obtain ⟨_, _, ⟨T52, L52, k52, n52⟩, -, X52, ⟨Lc52, hQ52, l52, y52, z52⟩, st52⟩ := Jvm.LawKit.callS Xc hx (y := (⟨"tidemark/RecordFormParseChecksumPinLaw", "draw", "([C[IIJII)V"⟩ : MethodName)) hown (mvT hZ (hw _ (List.mem_of_getElem? (i := 2) rfl))) (mvT hZ (hw _ (List.mem_of_getElem? (i := 3) rfl))) (mvT hZ (hw _ (List.mem_of_getElem? (i := 4) rfl))) (mvT hZ (hw _ (List.mem_of_getElem? (i := 5) rfl))) (by decide) (backOf (W := 0) (rm1n l Z a0 hw [] ac an (6 : Int32) wb mode narrow kc kn [(.int x0), (.int x1), (.int x2), (.int x3), (.int x4), (.int x5), (.int (0 : Int32)), (.int (0 : Int32))] [(.int (own_nib x0)), (.int (own_nib x1)), (.int (own_nib x2)), (.int (own_nib x3)), (.int (own_nib x4)), (.int (own_nib x5)), (.int (0 : Int32)), (.int (0 : Int32))] hc n0 (Nat.le_trans Z0 Kc.1) Vc rfl Vn rfl (by decide) (by decide) nee g_ac g_an hbit) hZ (hw _ (List.mem_of_getElem? (i := 5) rfl)) (hw _ (List.mem_of_getElem? (i := 4) rfl)) (by decide) (by decide) ) (g := (mkF m 101 #[.val (.long wa), .second, .val (.long wb), .second, .val (.int mode), .val (.int narrow), .val (.ref ac), .val (.ref an), .unset, .unset, .unset, .unset, .unset, .unset, .unset, .unset] [(.int narrow), (.int mode), (.long wb), (.int (6 : Int32)), (.ref an), (.ref ac)])) rfl (by rw [hml]; rfl) (argsL := [(.ref ac), (.ref an), (.int (6 : Int32)), (.long wb), (.int mode), (.int narrow)]) (rest := []) (lenOf pd_11 rfl) rfl (by show 2 * 0 + _ ≤ _; exact Nat.le_of_eq rfl) (hb hby at_101) (fun _ _ => ⟨rfl, ec, (by decide : 2 + 0 ≤ _), (by decide : 16 + 0 ≤ _)⟩)
      dsimp only [Pt.U, Pt.locs, Pt.cells, Pt.slots] at X52 l52 y52 z52 st52 hQ52
      subst l52 y52 z52
      obtain ⟨rfl, N52q, K52, ⟨x52, y52, Vc52, Vn52⟩⟩ := hQ52
      have N52 := Fr.app Nc N52q
      refine own_stepW st52 ?_
      show own_GoW p e below s _ _ _ (T52.setTop (mkF m 104 #[.val (.long wa), .second, .val (.long wb), .second, .val (.int mode), .val (.int narrow), .val (.ref ac), .val (.ref an), .unset, .unset, .unset, .unset, .unset, .unset, .unset, .unset] []))
      exact contB7 ac an kc kn _ _ _ _ x0 x1 x2 x3 x4 x5 x52 X52 rfl hSq (Nat.le_trans hkq K52.1) hZ hown N52 (Kc.trans K52 (allS (Or.inr szc) (allS (Or.inr szn) all0))) szc szn nee Vc52 Vn52 y0 y1 y2 y3 y4 y5 y52
    · obtain ⟨_, _, ⟨T53, L53, k53, n53⟩, -, X53, hSx53, gx53, ⟨Lc53, hQ53, l53, y53, z53⟩, st53⟩ := callSS Xc hx (y := (⟨"tidemark/RecordFormParseChecksumPinLaw", "draw", "([C[IIJII)V"⟩ : MethodName)) hown (mvT hZ (hw _ (List.mem_of_getElem? (i := 2) rfl))) (mvT hZ (hw _ (List.mem_of_getElem? (i := 3) rfl))) (mvT hZ (hw _ (List.mem_of_getElem? (i := 4) rfl))) (mvT hZ (hw _ (List.mem_of_getElem? (i := 5) rfl))) (by decide) (own_backC (W := 0) (rm1c l Z a0 hw [] ac an (6 : Int32) wb mode narrow kc kn [(.int x0), (.int x1), (.int x2), (.int x3), (.int x4), (.int x5), (.int (0 : Int32)), (.int (0 : Int32))] [(.int (own_nib x0)), (.int (own_nib x1)), (.int (own_nib x2)), (.int (own_nib x3)), (.int (own_nib x4)), (.int (own_nib x5)), (.int (0 : Int32)), (.int (0 : Int32))] cs vf hc n0 (Nat.le_trans Z0 Kc.1) Vc rfl Vn rfl (by decide) (by decide) nee g_ac g_an hbit (own_ext O0 Kc) hcw hh0 (own_staKeep S_C Kc ns0) hcs (own_staKeep S_F Kc ns0) hvf) hZ (hw _ (List.mem_of_getElem? (i := 5) rfl)) (hw _ (List.mem_of_getElem? (i := 4) rfl)) (by decide) (by decide) I0) (g := (mkF m 101 #[.val (.long wa), .second, .val (.long wb), .second, .val (.int mode), .val (.int narrow), .val (.ref ac), .val (.ref an), .unset, .unset, .unset, .unset, .unset, .unset, .unset, .unset] [(.int narrow), (.int mode), (.long wb), (.int (6 : Int32)), (.ref an), (.ref ac)])) rfl (by rw [hml]; rfl) (argsL := [(.ref ac), (.ref an), (.int (6 : Int32)), (.long wb), (.int mode), (.int narrow)]) (rest := []) (lenOf pd_11 rfl) rfl (by show 2 * 0 + _ ≤ _; exact Nat.le_of_eq rfl) (hb hby at_101) (fun _ _ => ⟨rfl, ec, (by decide : 2 + 2 ≤ _), (by decide : 16 + 68 ≤ _)⟩)
      dsimp only [Pt.U, Pt.locs, Pt.cells, Pt.slots] at X53 l53 y53 z53 st53 hQ53 hSx53 gx53
      subst l53 y53 z53
      obtain ⟨rfl, N53q, K53, ⟨x53, y53, Vc53, Vn53⟩, sa, b, k, P_0, P_1, P_2, V_b, Lt⟩ := hQ53
      have N53 := Fr.app Nc N53q
      refine own_viaW st53 ?_
      obtain ⟨X53, hS53, hZ, hown⟩ := rebS hSq (by rw [ec]; exact hkq) X53 hSx53 gx53 hZ hown
      show own_GoW p e below s _ _ _ (T53.setTop (mkF m 104 #[.val (.long wa), .second, .val (.long wb), .second, .val (.int mode), .val (.int narrow), .val (.ref ac), .val (.ref an), .unset, .unset, .unset, .unset, .unset, .unset, .unset, .unset] []))
      exact contA7 ac an kc kn _ _ _ _ _ _ _ _ x0 x1 x2 x3 x4 x5 x53 X53 rfl hS53 (Nat.le_refl T53.heap.size) hZ hown N53 (Kc.trans K53 (allS (Or.inr szc) (allS (Or.inr szn) all0))) szc szn nee Vc53 Vn53 y0 y1 y2 y3 y4 y5 y53 P_0 P_1 P_2 V_b Lt
  have contA5 : ∀ (ac an : Addr) (kc kn : ClassId) (Tc : State) (hc : Heap) (lc : List Loc) (kq : Nat) (vmc : Vm) (sa b : Addr) (k : ClassId) (x0 x1 x2 x3 x4 : Int32), (Stand p l e room_1 (s.setVm vmc) m #[(.long wa), (.long wb), (.int mode), (.int narrow)] below meth c Tc lc 4 84) → (Tc.heap = hc) → (s.Since vmc kq) → (kq ≤ hc.size) → (Z.Warmed39 (s.setVm vmc).vm) → ((s.setVm vmc).vm.findClass "tidemark/RecordFormParseChecksumPinLaw" = some m.cls) → (Fr n0 lc) → (Keep h0 hc []) → (h0.size ≤ ac) → (h0.size ≤ an) → (ac ≠ an) → (Arv Z hc ac kc .char (8 : Int32) [(.int x0), (.int x1), (.int x2), (.int x3), (.int x4), (.int (0 : Int32)), (.int (0 : Int32)), (.int (0 : Int32))] (.int (0 : Int32))) → (Arv Z hc an kn .int (8 : Int32) [(.int (own_nib x0)), (.int (own_nib x1)), (.int (own_nib x2)), (.int (own_nib x3)), (.int (own_nib x4)), (.int (0 : Int32)), (.int (0 : Int32)), (.int (0 : Int32))] (.int (0 : Int32))) → (nar .char x0 = x0) → (nar .char x1 = x1) → (nar .char x2 = x2) → (nar .char x3 = x3) → (nar .char x4 = x4) → (Exa Z hc sa "java/lang/String") → (Fld Z hc sa "java/lang/String" "coder" "B" (.int (0 : Int32))) → (Fld Z hc sa "java/lang/String" "value" "[B" (.ref b)) → (Arv Z hc b k .byte (16 : Int32) [(.int (48 : Int32)), (.int (49 : Int32)), (.int (50 : Int32)), (.int (51 : Int32)), (.int (52 : Int32)), (.int (53 : Int32)), (.int (54 : Int32)), (.int (55 : Int32)), (.int (56 : Int32)), (.int (57 : Int32)), (.int (97 : Int32)), (.int (98 : Int32)), (.int (99 : Int32)), (.int (100 : Int32)), (.int (101 : Int32)), (.int (102 : Int32))] (.int 0)) → (Lit (s.setVm vmc) "tidemark/RecordFormParseChecksumPinLaw" 22 sa) → own_GoW p e below s (Q0 Z wa wb mode narrow cs vf h0 n0) room_1.cells room_1.slots (Tc.setTop (mkF m 77 #[.val (.long wa), .second, .val (.long wb), .second, .val (.int mode), .val (.int narrow), .val (.ref ac), .val (.ref an), .unset, .unset, .unset, .unset, .unset, .unset, .unset, .unset] [])) := by
    intro ac an kc kn Tc hc lc kq vmc sa b k x0 x1 x2 x3 x4 Xc ec hSq hkq hZ hown Nc Kc szc szn nee Vc Vn y0 y1 y2 y3 y4 P_0 P_1 P_2 V_b Lt
    have g_ac : n0 ≤ ac := Nat.le_trans Z0 szc
    have g_an : n0 ≤ an := Nat.le_trans Z0 szn
    refine own_stepW (B := Tc.setTop (mkF m 87 #[.val (.long wa), .second, .val (.long wb), .second, .val (.int mode), .val (.int narrow), .val (.ref ac), .val (.ref an), .unset, .unset, .unset, .unset, .unset, .unset, .unset, .unset] [(.int narrow), (.int mode), (.long wb), (.int (5 : Int32)), (.ref an), (.ref ac)])) (fun t k => ?_) ?_
    · show Steps p.tables e below (Tc.setTop (mkF m 77 #[.val (.long wa), .second, .val (.long wb), .second, .val (.int mode), .val (.int narrow), .val (.ref ac), .val (.ref an), .unset, .unset, .unset, .unset, .unset, .unset, .unset, .unset] [])) _
      refine XS.aload Xc.here hx rfl (hb hby at_77) rfl rfl ?_
      refine XS.aload Xc.here hx rfl (hb hby at_79) rfl rfl ?_
      refine XS.iconst Xc.here hx rfl (hb hby at_81) ?_
      refine XS.lloadN Xc.here hx rfl (hb hby at_82) rfl ?_
      refine XS.iload Xc.here hx rfl (hb hby at_83) rfl ?_
      refine XS.iload Xc.here hx rfl (hb hby at_85) rfl ?_
      exact k
    obtain ⟨_, _, ⟨T54, L54, k54, n54⟩, -, X54, ⟨Lc54, hQ54, l54, y54, z54⟩, st54⟩ := Jvm.LawKit.callS Xc hx (y := (⟨"tidemark/RecordFormParseChecksumPinLaw", "draw", "([C[IIJII)V"⟩ : MethodName)) hown (mvT hZ (hw _ (List.mem_of_getElem? (i := 2) rfl))) (mvT hZ (hw _ (List.mem_of_getElem? (i := 3) rfl))) (mvT hZ (hw _ (List.mem_of_getElem? (i := 4) rfl))) (mvT hZ (hw _ (List.mem_of_getElem? (i := 5) rfl))) (by decide) (own_backL (W := 0) (rm1w l Z a0 hw [] ac an (5 : Int32) wb mode narrow kc kn [(.int x0), (.int x1), (.int x2), (.int x3), (.int x4), (.int (0 : Int32)), (.int (0 : Int32)), (.int (0 : Int32))] [(.int (own_nib x0)), (.int (own_nib x1)), (.int (own_nib x2)), (.int (own_nib x3)), (.int (own_nib x4)), (.int (0 : Int32)), (.int (0 : Int32)), (.int (0 : Int32))] sa b k cs vf hc n0 (Nat.le_trans Z0 Kc.1) Vc rfl Vn rfl (by decide) (by decide) nee g_ac g_an P_0 P_1 P_2 V_b (own_staKeep S_C Kc ns0) hcs (own_staKeep S_F Kc ns0) hvf) hZ (hw _ (List.mem_of_getElem? (i := 5) rfl)) (hw _ (List.mem_of_getElem? (i := 4) rfl)) (by decide) (by decide) Lt) (g := (mkF m 87 #[.val (.long wa), .second, .val (.long wb), .second, .val (.int mode), .val (.int narrow), .val (.ref ac), .val (.ref an), .unset, .unset, .unset, .unset, .unset, .unset, .unset, .unset] [(.int narrow), (.int mode), (.long wb), (.int (5 : Int32)), (.ref an), (.ref ac)])) rfl (by rw [hml]; rfl) (argsL := [(.ref ac), (.ref an), (.int (5 : Int32)), (.long wb), (.int mode), (.int narrow)]) (rest := []) (lenOf pd_11 rfl) rfl (by show 2 * 0 + _ ≤ _; exact Nat.le_of_eq rfl) (hb hby at_87) (fun _ _ => ⟨rfl, ec, (by decide : 4 + 0 ≤ _), (by decide : 84 + 0 ≤ _)⟩)
    dsimp only [Pt.U, Pt.locs, Pt.cells, Pt.slots] at X54 l54 y54 z54 st54 hQ54
    subst l54 y54 z54
    obtain ⟨rfl, N54q, K54, ⟨x54, y54, Vc54, Vn54⟩⟩ := hQ54
    have N54 := Fr.app Nc N54q
    refine own_stepW st54 ?_
    show own_GoW p e below s _ _ _ (T54.setTop (mkF m 90 #[.val (.long wa), .second, .val (.long wb), .second, .val (.int mode), .val (.int narrow), .val (.ref ac), .val (.ref an), .unset, .unset, .unset, .unset, .unset, .unset, .unset, .unset] []))
    exact contA6 ac an kc kn _ _ _ _ _ _ _ _ x0 x1 x2 x3 x4 x54 X54 rfl hSq (Nat.le_trans hkq K54.1) hZ hown N54 (Kc.trans K54 (allS (Or.inr szc) (allS (Or.inr szn) all0))) szc szn nee Vc54 Vn54 y0 y1 y2 y3 y4 y54 (P_0.keep K54) (P_1.keep K54 (ninS (Exa.neArv P_0 Vc (hw _ (List.mem_of_getElem? (i := 18) rfl))) (ninS (Exa.neArv P_0 Vn (hw _ (List.mem_of_getElem? (i := 18) rfl))) nin0))) (P_2.keep K54 (ninS (Exa.neArv P_0 Vc (hw _ (List.mem_of_getElem? (i := 18) rfl))) (ninS (Exa.neArv P_0 Vn (hw _ (List.mem_of_getElem? (i := 18) rfl))) nin0))) (V_b.keep K54 (ninS (arv_ne V_b Vc (Or.inl (by decide))) (ninS (arv_ne V_b Vn (Or.inl (by decide))) nin0))) Lt
  have contB5 : ∀ (ac an : Addr) (kc kn : ClassId) (Tc : State) (hc : Heap) (lc : List Loc) (kq : Nat) (x0 x1 x2 x3 x4 : Int32), (Stand p l e room_1 (s.setVm s.vm) m #[(.long wa), (.long wb), (.int mode), (.int narrow)] below meth c Tc lc 2 16) → (Tc.heap = hc) → (s.Since s.vm kq) → (kq ≤ hc.size) → (Z.Warmed39 (s.setVm s.vm).vm) → ((s.setVm s.vm).vm.findClass "tidemark/RecordFormParseChecksumPinLaw" = some m.cls) → (Fr n0 lc) → (Keep h0 hc []) → (h0.size ≤ ac) → (h0.size ≤ an) → (ac ≠ an) → (Arv Z hc ac kc .char (8 : Int32) [(.int x0), (.int x1), (.int x2), (.int x3), (.int x4), (.int (0 : Int32)), (.int (0 : Int32)), (.int (0 : Int32))] (.int (0 : Int32))) → (Arv Z hc an kn .int (8 : Int32) [(.int (own_nib x0)), (.int (own_nib x1)), (.int (own_nib x2)), (.int (own_nib x3)), (.int (own_nib x4)), (.int (0 : Int32)), (.int (0 : Int32)), (.int (0 : Int32))] (.int (0 : Int32))) → (nar .char x0 = x0) → (nar .char x1 = x1) → (nar .char x2 = x2) → (nar .char x3 = x3) → (nar .char x4 = x4) → own_GoW p e below s (Q0 Z wa wb mode narrow cs vf h0 n0) room_1.cells room_1.slots (Tc.setTop (mkF m 77 #[.val (.long wa), .second, .val (.long wb), .second, .val (.int mode), .val (.int narrow), .val (.ref ac), .val (.ref an), .unset, .unset, .unset, .unset, .unset, .unset, .unset, .unset] [])) := by
    intro ac an kc kn Tc hc lc kq x0 x1 x2 x3 x4 Xc ec hSq hkq hZ hown Nc Kc szc szn nee Vc Vn y0 y1 y2 y3 y4
    have g_ac : n0 ≤ ac := Nat.le_trans Z0 szc
    have g_an : n0 ≤ an := Nat.le_trans Z0 szn
    refine own_stepW (B := Tc.setTop (mkF m 87 #[.val (.long wa), .second, .val (.long wb), .second, .val (.int mode), .val (.int narrow), .val (.ref ac), .val (.ref an), .unset, .unset, .unset, .unset, .unset, .unset, .unset, .unset] [(.int narrow), (.int mode), (.long wb), (.int (5 : Int32)), (.ref an), (.ref ac)])) (fun t k => ?_) ?_
    · show Steps p.tables e below (Tc.setTop (mkF m 77 #[.val (.long wa), .second, .val (.long wb), .second, .val (.int mode), .val (.int narrow), .val (.ref ac), .val (.ref an), .unset, .unset, .unset, .unset, .unset, .unset, .unset, .unset] [])) _
      refine XS.aload Xc.here hx rfl (hb hby at_77) rfl rfl ?_
      refine XS.aload Xc.here hx rfl (hb hby at_79) rfl rfl ?_
      refine XS.iconst Xc.here hx rfl (hb hby at_81) ?_
      refine XS.lloadN Xc.here hx rfl (hb hby at_82) rfl ?_
      refine XS.iload Xc.here hx rfl (hb hby at_83) rfl ?_
      refine XS.iload Xc.here hx rfl (hb hby at_85) rfl ?_
      exact k
    by_cases hbit : (((mode.toUInt32 >>> ((5 : Int32) &&& 31).toUInt32).toInt32) &&& (1 : Int32)) = (0 : Int32)
    · obtain ⟨_, _, ⟨T55, L55, k55, n55⟩, -, X55, ⟨Lc55, hQ55, l55, y55, z55⟩, st55⟩ := Jvm.LawKit.callS Xc hx (y := (⟨"tidemark/RecordFormParseChecksumPinLaw", "draw", "([C[IIJII)V"⟩ : MethodName)) hown (mvT hZ (hw _ (List.mem_of_getElem? (i := 2) rfl))) (mvT hZ (hw _ (List.mem_of_getElem? (i := 3) rfl))) (mvT hZ (hw _ (List.mem_of_getElem? (i := 4) rfl))) (mvT hZ (hw _ (List.mem_of_getElem? (i := 5) rfl))) (by decide) (backOf (W := 0) (rm1n l Z a0 hw [] ac an (5 : Int32) wb mode narrow kc kn [(.int x0), (.int x1), (.int x2), (.int x3), (.int x4), (.int (0 : Int32)), (.int (0 : Int32)), (.int (0 : Int32))] [(.int (own_nib x0)), (.int (own_nib x1)), (.int (own_nib x2)), (.int (own_nib x3)), (.int (own_nib x4)), (.int (0 : Int32)), (.int (0 : Int32)), (.int (0 : Int32))] hc n0 (Nat.le_trans Z0 Kc.1) Vc rfl Vn rfl (by decide) (by decide) nee g_ac g_an hbit) hZ (hw _ (List.mem_of_getElem? (i := 5) rfl)) (hw _ (List.mem_of_getElem? (i := 4) rfl)) (by decide) (by decide) ) (g := (mkF m 87 #[.val (.long wa), .second, .val (.long wb), .second, .val (.int mode), .val (.int narrow), .val (.ref ac), .val (.ref an), .unset, .unset, .unset, .unset, .unset, .unset, .unset, .unset] [(.int narrow), (.int mode), (.long wb), (.int (5 : Int32)), (.ref an), (.ref ac)])) rfl (by rw [hml]; rfl) (argsL := [(.ref ac), (.ref an), (.int (5 : Int32)), (.long wb), (.int mode), (.int narrow)]) (rest := []) (lenOf pd_11 rfl) rfl (by show 2 * 0 + _ ≤ _; exact Nat.le_of_eq rfl) (hb hby at_87) (fun _ _ => ⟨rfl, ec, (by decide : 2 + 0 ≤ _), (by decide : 16 + 0 ≤ _)⟩)
      dsimp only [Pt.U, Pt.locs, Pt.cells, Pt.slots] at X55 l55 y55 z55 st55 hQ55
      subst l55 y55 z55
      obtain ⟨rfl, N55q, K55, ⟨x55, y55, Vc55, Vn55⟩⟩ := hQ55
      have N55 := Fr.app Nc N55q
      refine own_stepW st55 ?_
      show own_GoW p e below s _ _ _ (T55.setTop (mkF m 90 #[.val (.long wa), .second, .val (.long wb), .second, .val (.int mode), .val (.int narrow), .val (.ref ac), .val (.ref an), .unset, .unset, .unset, .unset, .unset, .unset, .unset, .unset] []))
      exact contB6 ac an kc kn _ _ _ _ x0 x1 x2 x3 x4 x55 X55 rfl hSq (Nat.le_trans hkq K55.1) hZ hown N55 (Kc.trans K55 (allS (Or.inr szc) (allS (Or.inr szn) all0))) szc szn nee Vc55 Vn55 y0 y1 y2 y3 y4 y55
    · obtain ⟨_, _, ⟨T56, L56, k56, n56⟩, -, X56, hSx56, gx56, ⟨Lc56, hQ56, l56, y56, z56⟩, st56⟩ := callSS Xc hx (y := (⟨"tidemark/RecordFormParseChecksumPinLaw", "draw", "([C[IIJII)V"⟩ : MethodName)) hown (mvT hZ (hw _ (List.mem_of_getElem? (i := 2) rfl))) (mvT hZ (hw _ (List.mem_of_getElem? (i := 3) rfl))) (mvT hZ (hw _ (List.mem_of_getElem? (i := 4) rfl))) (mvT hZ (hw _ (List.mem_of_getElem? (i := 5) rfl))) (by decide) (own_backC (W := 0) (rm1c l Z a0 hw [] ac an (5 : Int32) wb mode narrow kc kn [(.int x0), (.int x1), (.int x2), (.int x3), (.int x4), (.int (0 : Int32)), (.int (0 : Int32)), (.int (0 : Int32))] [(.int (own_nib x0)), (.int (own_nib x1)), (.int (own_nib x2)), (.int (own_nib x3)), (.int (own_nib x4)), (.int (0 : Int32)), (.int (0 : Int32)), (.int (0 : Int32))] cs vf hc n0 (Nat.le_trans Z0 Kc.1) Vc rfl Vn rfl (by decide) (by decide) nee g_ac g_an hbit (own_ext O0 Kc) hcw hh0 (own_staKeep S_C Kc ns0) hcs (own_staKeep S_F Kc ns0) hvf) hZ (hw _ (List.mem_of_getElem? (i := 5) rfl)) (hw _ (List.mem_of_getElem? (i := 4) rfl)) (by decide) (by decide) I0) (g := (mkF m 87 #[.val (.long wa), .second, .val (.long wb), .second, .val (.int mode), .val (.int narrow), .val (.ref ac), .val (.ref an), .unset, .unset, .unset, .unset, .unset, .unset, .unset, .unset] [(.int narrow), (.int mode), (.long wb), (.int (5 : Int32)), (.ref an), (.ref ac)])) rfl (by rw [hml]; rfl) (argsL := [(.ref ac), (.ref an), (.int (5 : Int32)), (.long wb), (.int mode), (.int narrow)]) (rest := []) (lenOf pd_11 rfl) rfl (by show 2 * 0 + _ ≤ _; exact Nat.le_of_eq rfl) (hb hby at_87) (fun _ _ => ⟨rfl, ec, (by decide : 2 + 2 ≤ _), (by decide : 16 + 68 ≤ _)⟩)
      dsimp only [Pt.U, Pt.locs, Pt.cells, Pt.slots] at X56 l56 y56 z56 st56 hQ56 hSx56 gx56
      subst l56 y56 z56
      obtain ⟨rfl, N56q, K56, ⟨x56, y56, Vc56, Vn56⟩, sa, b, k, P_0, P_1, P_2, V_b, Lt⟩ := hQ56
      have N56 := Fr.app Nc N56q
      refine own_viaW st56 ?_
      obtain ⟨X56, hS56, hZ, hown⟩ := rebS hSq (by rw [ec]; exact hkq) X56 hSx56 gx56 hZ hown
      show own_GoW p e below s _ _ _ (T56.setTop (mkF m 90 #[.val (.long wa), .second, .val (.long wb), .second, .val (.int mode), .val (.int narrow), .val (.ref ac), .val (.ref an), .unset, .unset, .unset, .unset, .unset, .unset, .unset, .unset] []))
      exact contA6 ac an kc kn _ _ _ _ _ _ _ _ x0 x1 x2 x3 x4 x56 X56 rfl hS56 (Nat.le_refl T56.heap.size) hZ hown N56 (Kc.trans K56 (allS (Or.inr szc) (allS (Or.inr szn) all0))) szc szn nee Vc56 Vn56 y0 y1 y2 y3 y4 y56 P_0 P_1 P_2 V_b Lt
  have contA4 : ∀ (ac an : Addr) (kc kn : ClassId) (Tc : State) (hc : Heap) (lc : List Loc) (kq : Nat) (vmc : Vm) (sa b : Addr) (k : ClassId) (x0 x1 x2 x3 : Int32), (Stand p l e room_1 (s.setVm vmc) m #[(.long wa), (.long wb), (.int mode), (.int narrow)] below meth c Tc lc 4 84) → (Tc.heap = hc) → (s.Since vmc kq) → (kq ≤ hc.size) → (Z.Warmed39 (s.setVm vmc).vm) → ((s.setVm vmc).vm.findClass "tidemark/RecordFormParseChecksumPinLaw" = some m.cls) → (Fr n0 lc) → (Keep h0 hc []) → (h0.size ≤ ac) → (h0.size ≤ an) → (ac ≠ an) → (Arv Z hc ac kc .char (8 : Int32) [(.int x0), (.int x1), (.int x2), (.int x3), (.int (0 : Int32)), (.int (0 : Int32)), (.int (0 : Int32)), (.int (0 : Int32))] (.int (0 : Int32))) → (Arv Z hc an kn .int (8 : Int32) [(.int (own_nib x0)), (.int (own_nib x1)), (.int (own_nib x2)), (.int (own_nib x3)), (.int (0 : Int32)), (.int (0 : Int32)), (.int (0 : Int32)), (.int (0 : Int32))] (.int (0 : Int32))) → (nar .char x0 = x0) → (nar .char x1 = x1) → (nar .char x2 = x2) → (nar .char x3 = x3) → (Exa Z hc sa "java/lang/String") → (Fld Z hc sa "java/lang/String" "coder" "B" (.int (0 : Int32))) → (Fld Z hc sa "java/lang/String" "value" "[B" (.ref b)) → (Arv Z hc b k .byte (16 : Int32) [(.int (48 : Int32)), (.int (49 : Int32)), (.int (50 : Int32)), (.int (51 : Int32)), (.int (52 : Int32)), (.int (53 : Int32)), (.int (54 : Int32)), (.int (55 : Int32)), (.int (56 : Int32)), (.int (57 : Int32)), (.int (97 : Int32)), (.int (98 : Int32)), (.int (99 : Int32)), (.int (100 : Int32)), (.int (101 : Int32)), (.int (102 : Int32))] (.int 0)) → (Lit (s.setVm vmc) "tidemark/RecordFormParseChecksumPinLaw" 22 sa) → own_GoW p e below s (Q0 Z wa wb mode narrow cs vf h0 n0) room_1.cells room_1.slots (Tc.setTop (mkF m 64 #[.val (.long wa), .second, .val (.long wb), .second, .val (.int mode), .val (.int narrow), .val (.ref ac), .val (.ref an), .unset, .unset, .unset, .unset, .unset, .unset, .unset, .unset] [])) := by
    intro ac an kc kn Tc hc lc kq vmc sa b k x0 x1 x2 x3 Xc ec hSq hkq hZ hown Nc Kc szc szn nee Vc Vn y0 y1 y2 y3 P_0 P_1 P_2 V_b Lt
    have g_ac : n0 ≤ ac := Nat.le_trans Z0 szc
    have g_an : n0 ≤ an := Nat.le_trans Z0 szn
    refine own_stepW (B := Tc.setTop (mkF m 74 #[.val (.long wa), .second, .val (.long wb), .second, .val (.int mode), .val (.int narrow), .val (.ref ac), .val (.ref an), .unset, .unset, .unset, .unset, .unset, .unset, .unset, .unset] [(.int narrow), (.int mode), (.long wb), (.int (4 : Int32)), (.ref an), (.ref ac)])) (fun t k => ?_) ?_
    · show Steps p.tables e below (Tc.setTop (mkF m 64 #[.val (.long wa), .second, .val (.long wb), .second, .val (.int mode), .val (.int narrow), .val (.ref ac), .val (.ref an), .unset, .unset, .unset, .unset, .unset, .unset, .unset, .unset] [])) _
      refine XS.aload Xc.here hx rfl (hb hby at_64) rfl rfl ?_
      refine XS.aload Xc.here hx rfl (hb hby at_66) rfl rfl ?_
      refine XS.iconst Xc.here hx rfl (hb hby at_68) ?_
      refine XS.lloadN Xc.here hx rfl (hb hby at_69) rfl ?_
      refine XS.iload Xc.here hx rfl (hb hby at_70) rfl ?_
      refine XS.iload Xc.here hx rfl (hb hby at_72) rfl ?_
      exact k
    obtain ⟨_, _, ⟨T57, L57, k57, n57⟩, -, X57, ⟨Lc57, hQ57, l57, y57, z57⟩, st57⟩ := Jvm.LawKit.callS Xc hx (y := (⟨"tidemark/RecordFormParseChecksumPinLaw", "draw", "([C[IIJII)V"⟩ : MethodName)) hown (mvT hZ (hw _ (List.mem_of_getElem? (i := 2) rfl))) (mvT hZ (hw _ (List.mem_of_getElem? (i := 3) rfl))) (mvT hZ (hw _ (List.mem_of_getElem? (i := 4) rfl))) (mvT hZ (hw _ (List.mem_of_getElem? (i := 5) rfl))) (by decide) (own_backL (W := 0) (rm1w l Z a0 hw [] ac an (4 : Int32) wb mode narrow kc kn [(.int x0), (.int x1), (.int x2), (.int x3), (.int (0 : Int32)), (.int (0 : Int32)), (.int (0 : Int32)), (.int (0 : Int32))] [(.int (own_nib x0)), (.int (own_nib x1)), (.int (own_nib x2)), (.int (own_nib x3)), (.int (0 : Int32)), (.int (0 : Int32)), (.int (0 : Int32)), (.int (0 : Int32))] sa b k cs vf hc n0 (Nat.le_trans Z0 Kc.1) Vc rfl Vn rfl (by decide) (by decide) nee g_ac g_an P_0 P_1 P_2 V_b (own_staKeep S_C Kc ns0) hcs (own_staKeep S_F Kc ns0) hvf) hZ (hw _ (List.mem_of_getElem? (i := 5) rfl)) (hw _ (List.mem_of_getElem? (i := 4) rfl)) (by decide) (by decide) Lt) (g := (mkF m 74 #[.val (.long wa), .second, .val (.long wb), .second, .val (.int mode), .val (.int narrow), .val (.ref ac), .val (.ref an), .unset, .unset, .unset, .unset, .unset, .unset, .unset, .unset] [(.int narrow), (.int mode), (.long wb), (.int (4 : Int32)), (.ref an), (.ref ac)])) rfl (by rw [hml]; rfl) (argsL := [(.ref ac), (.ref an), (.int (4 : Int32)), (.long wb), (.int mode), (.int narrow)]) (rest := []) (lenOf pd_11 rfl) rfl (by show 2 * 0 + _ ≤ _; exact Nat.le_of_eq rfl) (hb hby at_74) (fun _ _ => ⟨rfl, ec, (by decide : 4 + 0 ≤ _), (by decide : 84 + 0 ≤ _)⟩)
    dsimp only [Pt.U, Pt.locs, Pt.cells, Pt.slots] at X57 l57 y57 z57 st57 hQ57
    subst l57 y57 z57
    obtain ⟨rfl, N57q, K57, ⟨x57, y57, Vc57, Vn57⟩⟩ := hQ57
    have N57 := Fr.app Nc N57q
    refine own_stepW st57 ?_
    show own_GoW p e below s _ _ _ (T57.setTop (mkF m 77 #[.val (.long wa), .second, .val (.long wb), .second, .val (.int mode), .val (.int narrow), .val (.ref ac), .val (.ref an), .unset, .unset, .unset, .unset, .unset, .unset, .unset, .unset] []))
    exact contA5 ac an kc kn _ _ _ _ _ _ _ _ x0 x1 x2 x3 x57 X57 rfl hSq (Nat.le_trans hkq K57.1) hZ hown N57 (Kc.trans K57 (allS (Or.inr szc) (allS (Or.inr szn) all0))) szc szn nee Vc57 Vn57 y0 y1 y2 y3 y57 (P_0.keep K57) (P_1.keep K57 (ninS (Exa.neArv P_0 Vc (hw _ (List.mem_of_getElem? (i := 18) rfl))) (ninS (Exa.neArv P_0 Vn (hw _ (List.mem_of_getElem? (i := 18) rfl))) nin0))) (P_2.keep K57 (ninS (Exa.neArv P_0 Vc (hw _ (List.mem_of_getElem? (i := 18) rfl))) (ninS (Exa.neArv P_0 Vn (hw _ (List.mem_of_getElem? (i := 18) rfl))) nin0))) (V_b.keep K57 (ninS (arv_ne V_b Vc (Or.inl (by decide))) (ninS (arv_ne V_b Vn (Or.inl (by decide))) nin0))) Lt
  have contB4 : ∀ (ac an : Addr) (kc kn : ClassId) (Tc : State) (hc : Heap) (lc : List Loc) (kq : Nat) (x0 x1 x2 x3 : Int32), (Stand p l e room_1 (s.setVm s.vm) m #[(.long wa), (.long wb), (.int mode), (.int narrow)] below meth c Tc lc 2 16) → (Tc.heap = hc) → (s.Since s.vm kq) → (kq ≤ hc.size) → (Z.Warmed39 (s.setVm s.vm).vm) → ((s.setVm s.vm).vm.findClass "tidemark/RecordFormParseChecksumPinLaw" = some m.cls) → (Fr n0 lc) → (Keep h0 hc []) → (h0.size ≤ ac) → (h0.size ≤ an) → (ac ≠ an) → (Arv Z hc ac kc .char (8 : Int32) [(.int x0), (.int x1), (.int x2), (.int x3), (.int (0 : Int32)), (.int (0 : Int32)), (.int (0 : Int32)), (.int (0 : Int32))] (.int (0 : Int32))) → (Arv Z hc an kn .int (8 : Int32) [(.int (own_nib x0)), (.int (own_nib x1)), (.int (own_nib x2)), (.int (own_nib x3)), (.int (0 : Int32)), (.int (0 : Int32)), (.int (0 : Int32)), (.int (0 : Int32))] (.int (0 : Int32))) → (nar .char x0 = x0) → (nar .char x1 = x1) → (nar .char x2 = x2) → (nar .char x3 = x3) → own_GoW p e below s (Q0 Z wa wb mode narrow cs vf h0 n0) room_1.cells room_1.slots (Tc.setTop (mkF m 64 #[.val (.long wa), .second, .val (.long wb), .second, .val (.int mode), .val (.int narrow), .val (.ref ac), .val (.ref an), .unset, .unset, .unset, .unset, .unset, .unset, .unset, .unset] [])) := by
    intro ac an kc kn Tc hc lc kq x0 x1 x2 x3 Xc ec hSq hkq hZ hown Nc Kc szc szn nee Vc Vn y0 y1 y2 y3
    have g_ac : n0 ≤ ac := Nat.le_trans Z0 szc
    have g_an : n0 ≤ an := Nat.le_trans Z0 szn
    refine own_stepW (B := Tc.setTop (mkF m 74 #[.val (.long wa), .second, .val (.long wb), .second, .val (.int mode), .val (.int narrow), .val (.ref ac), .val (.ref an), .unset, .unset, .unset, .unset, .unset, .unset, .unset, .unset] [(.int narrow), (.int mode), (.long wb), (.int (4 : Int32)), (.ref an), (.ref ac)])) (fun t k => ?_) ?_
    · show Steps p.tables e below (Tc.setTop (mkF m 64 #[.val (.long wa), .second, .val (.long wb), .second, .val (.int mode), .val (.int narrow), .val (.ref ac), .val (.ref an), .unset, .unset, .unset, .unset, .unset, .unset, .unset, .unset] [])) _
      refine XS.aload Xc.here hx rfl (hb hby at_64) rfl rfl ?_
      refine XS.aload Xc.here hx rfl (hb hby at_66) rfl rfl ?_
      refine XS.iconst Xc.here hx rfl (hb hby at_68) ?_
      refine XS.lloadN Xc.here hx rfl (hb hby at_69) rfl ?_
      refine XS.iload Xc.here hx rfl (hb hby at_70) rfl ?_
      refine XS.iload Xc.here hx rfl (hb hby at_72) rfl ?_
      exact k
    by_cases hbit : (((mode.toUInt32 >>> ((4 : Int32) &&& 31).toUInt32).toInt32) &&& (1 : Int32)) = (0 : Int32)
    · obtain ⟨_, _, ⟨T58, L58, k58, n58⟩, -, X58, ⟨Lc58, hQ58, l58, y58, z58⟩, st58⟩ := Jvm.LawKit.callS Xc hx (y := (⟨"tidemark/RecordFormParseChecksumPinLaw", "draw", "([C[IIJII)V"⟩ : MethodName)) hown (mvT hZ (hw _ (List.mem_of_getElem? (i := 2) rfl))) (mvT hZ (hw _ (List.mem_of_getElem? (i := 3) rfl))) (mvT hZ (hw _ (List.mem_of_getElem? (i := 4) rfl))) (mvT hZ (hw _ (List.mem_of_getElem? (i := 5) rfl))) (by decide) (backOf (W := 0) (rm1n l Z a0 hw [] ac an (4 : Int32) wb mode narrow kc kn [(.int x0), (.int x1), (.int x2), (.int x3), (.int (0 : Int32)), (.int (0 : Int32)), (.int (0 : Int32)), (.int (0 : Int32))] [(.int (own_nib x0)), (.int (own_nib x1)), (.int (own_nib x2)), (.int (own_nib x3)), (.int (0 : Int32)), (.int (0 : Int32)), (.int (0 : Int32)), (.int (0 : Int32))] hc n0 (Nat.le_trans Z0 Kc.1) Vc rfl Vn rfl (by decide) (by decide) nee g_ac g_an hbit) hZ (hw _ (List.mem_of_getElem? (i := 5) rfl)) (hw _ (List.mem_of_getElem? (i := 4) rfl)) (by decide) (by decide) ) (g := (mkF m 74 #[.val (.long wa), .second, .val (.long wb), .second, .val (.int mode), .val (.int narrow), .val (.ref ac), .val (.ref an), .unset, .unset, .unset, .unset, .unset, .unset, .unset, .unset] [(.int narrow), (.int mode), (.long wb), (.int (4 : Int32)), (.ref an), (.ref ac)])) rfl (by rw [hml]; rfl) (argsL := [(.ref ac), (.ref an), (.int (4 : Int32)), (.long wb), (.int mode), (.int narrow)]) (rest := []) (lenOf pd_11 rfl) rfl (by show 2 * 0 + _ ≤ _; exact Nat.le_of_eq rfl) (hb hby at_74) (fun _ _ => ⟨rfl, ec, (by decide : 2 + 0 ≤ _), (by decide : 16 + 0 ≤ _)⟩)
      dsimp only [Pt.U, Pt.locs, Pt.cells, Pt.slots] at X58 l58 y58 z58 st58 hQ58
      subst l58 y58 z58
      obtain ⟨rfl, N58q, K58, ⟨x58, y58, Vc58, Vn58⟩⟩ := hQ58
      have N58 := Fr.app Nc N58q
      refine own_stepW st58 ?_
      show own_GoW p e below s _ _ _ (T58.setTop (mkF m 77 #[.val (.long wa), .second, .val (.long wb), .second, .val (.int mode), .val (.int narrow), .val (.ref ac), .val (.ref an), .unset, .unset, .unset, .unset, .unset, .unset, .unset, .unset] []))
      exact contB5 ac an kc kn _ _ _ _ x0 x1 x2 x3 x58 X58 rfl hSq (Nat.le_trans hkq K58.1) hZ hown N58 (Kc.trans K58 (allS (Or.inr szc) (allS (Or.inr szn) all0))) szc szn nee Vc58 Vn58 y0 y1 y2 y3 y58
    · obtain ⟨_, _, ⟨T59, L59, k59, n59⟩, -, X59, hSx59, gx59, ⟨Lc59, hQ59, l59, y59, z59⟩, st59⟩ := callSS Xc hx (y := (⟨"tidemark/RecordFormParseChecksumPinLaw", "draw", "([C[IIJII)V"⟩ : MethodName)) hown (mvT hZ (hw _ (List.mem_of_getElem? (i := 2) rfl))) (mvT hZ (hw _ (List.mem_of_getElem? (i := 3) rfl))) (mvT hZ (hw _ (List.mem_of_getElem? (i := 4) rfl))) (mvT hZ (hw _ (List.mem_of_getElem? (i := 5) rfl))) (by decide) (own_backC (W := 0) (rm1c l Z a0 hw [] ac an (4 : Int32) wb mode narrow kc kn [(.int x0), (.int x1), (.int x2), (.int x3), (.int (0 : Int32)), (.int (0 : Int32)), (.int (0 : Int32)), (.int (0 : Int32))] [(.int (own_nib x0)), (.int (own_nib x1)), (.int (own_nib x2)), (.int (own_nib x3)), (.int (0 : Int32)), (.int (0 : Int32)), (.int (0 : Int32)), (.int (0 : Int32))] cs vf hc n0 (Nat.le_trans Z0 Kc.1) Vc rfl Vn rfl (by decide) (by decide) nee g_ac g_an hbit (own_ext O0 Kc) hcw hh0 (own_staKeep S_C Kc ns0) hcs (own_staKeep S_F Kc ns0) hvf) hZ (hw _ (List.mem_of_getElem? (i := 5) rfl)) (hw _ (List.mem_of_getElem? (i := 4) rfl)) (by decide) (by decide) I0) (g := (mkF m 74 #[.val (.long wa), .second, .val (.long wb), .second, .val (.int mode), .val (.int narrow), .val (.ref ac), .val (.ref an), .unset, .unset, .unset, .unset, .unset, .unset, .unset, .unset] [(.int narrow), (.int mode), (.long wb), (.int (4 : Int32)), (.ref an), (.ref ac)])) rfl (by rw [hml]; rfl) (argsL := [(.ref ac), (.ref an), (.int (4 : Int32)), (.long wb), (.int mode), (.int narrow)]) (rest := []) (lenOf pd_11 rfl) rfl (by show 2 * 0 + _ ≤ _; exact Nat.le_of_eq rfl) (hb hby at_74) (fun _ _ => ⟨rfl, ec, (by decide : 2 + 2 ≤ _), (by decide : 16 + 68 ≤ _)⟩)
      dsimp only [Pt.U, Pt.locs, Pt.cells, Pt.slots] at X59 l59 y59 z59 st59 hQ59 hSx59 gx59
      subst l59 y59 z59
      obtain ⟨rfl, N59q, K59, ⟨x59, y59, Vc59, Vn59⟩, sa, b, k, P_0, P_1, P_2, V_b, Lt⟩ := hQ59
      have N59 := Fr.app Nc N59q
      refine own_viaW st59 ?_
      obtain ⟨X59, hS59, hZ, hown⟩ := rebS hSq (by rw [ec]; exact hkq) X59 hSx59 gx59 hZ hown
      show own_GoW p e below s _ _ _ (T59.setTop (mkF m 77 #[.val (.long wa), .second, .val (.long wb), .second, .val (.int mode), .val (.int narrow), .val (.ref ac), .val (.ref an), .unset, .unset, .unset, .unset, .unset, .unset, .unset, .unset] []))
      exact contA5 ac an kc kn _ _ _ _ _ _ _ _ x0 x1 x2 x3 x59 X59 rfl hS59 (Nat.le_refl T59.heap.size) hZ hown N59 (Kc.trans K59 (allS (Or.inr szc) (allS (Or.inr szn) all0))) szc szn nee Vc59 Vn59 y0 y1 y2 y3 y59 P_0 P_1 P_2 V_b Lt
  have contA3 : ∀ (ac an : Addr) (kc kn : ClassId) (Tc : State) (hc : Heap) (lc : List Loc) (kq : Nat) (vmc : Vm) (sa b : Addr) (k : ClassId) (x0 x1 x2 : Int32), (Stand p l e room_1 (s.setVm vmc) m #[(.long wa), (.long wb), (.int mode), (.int narrow)] below meth c Tc lc 4 84) → (Tc.heap = hc) → (s.Since vmc kq) → (kq ≤ hc.size) → (Z.Warmed39 (s.setVm vmc).vm) → ((s.setVm vmc).vm.findClass "tidemark/RecordFormParseChecksumPinLaw" = some m.cls) → (Fr n0 lc) → (Keep h0 hc []) → (h0.size ≤ ac) → (h0.size ≤ an) → (ac ≠ an) → (Arv Z hc ac kc .char (8 : Int32) [(.int x0), (.int x1), (.int x2), (.int (0 : Int32)), (.int (0 : Int32)), (.int (0 : Int32)), (.int (0 : Int32)), (.int (0 : Int32))] (.int (0 : Int32))) → (Arv Z hc an kn .int (8 : Int32) [(.int (own_nib x0)), (.int (own_nib x1)), (.int (own_nib x2)), (.int (0 : Int32)), (.int (0 : Int32)), (.int (0 : Int32)), (.int (0 : Int32)), (.int (0 : Int32))] (.int (0 : Int32))) → (nar .char x0 = x0) → (nar .char x1 = x1) → (nar .char x2 = x2) → (Exa Z hc sa "java/lang/String") → (Fld Z hc sa "java/lang/String" "coder" "B" (.int (0 : Int32))) → (Fld Z hc sa "java/lang/String" "value" "[B" (.ref b)) → (Arv Z hc b k .byte (16 : Int32) [(.int (48 : Int32)), (.int (49 : Int32)), (.int (50 : Int32)), (.int (51 : Int32)), (.int (52 : Int32)), (.int (53 : Int32)), (.int (54 : Int32)), (.int (55 : Int32)), (.int (56 : Int32)), (.int (57 : Int32)), (.int (97 : Int32)), (.int (98 : Int32)), (.int (99 : Int32)), (.int (100 : Int32)), (.int (101 : Int32)), (.int (102 : Int32))] (.int 0)) → (Lit (s.setVm vmc) "tidemark/RecordFormParseChecksumPinLaw" 22 sa) → own_GoW p e below s (Q0 Z wa wb mode narrow cs vf h0 n0) room_1.cells room_1.slots (Tc.setTop (mkF m 51 #[.val (.long wa), .second, .val (.long wb), .second, .val (.int mode), .val (.int narrow), .val (.ref ac), .val (.ref an), .unset, .unset, .unset, .unset, .unset, .unset, .unset, .unset] [])) := by
    intro ac an kc kn Tc hc lc kq vmc sa b k x0 x1 x2 Xc ec hSq hkq hZ hown Nc Kc szc szn nee Vc Vn y0 y1 y2 P_0 P_1 P_2 V_b Lt
    have g_ac : n0 ≤ ac := Nat.le_trans Z0 szc
    have g_an : n0 ≤ an := Nat.le_trans Z0 szn
    refine own_stepW (B := Tc.setTop (mkF m 61 #[.val (.long wa), .second, .val (.long wb), .second, .val (.int mode), .val (.int narrow), .val (.ref ac), .val (.ref an), .unset, .unset, .unset, .unset, .unset, .unset, .unset, .unset] [(.int narrow), (.int mode), (.long wa), (.int (3 : Int32)), (.ref an), (.ref ac)])) (fun t k => ?_) ?_
    · show Steps p.tables e below (Tc.setTop (mkF m 51 #[.val (.long wa), .second, .val (.long wb), .second, .val (.int mode), .val (.int narrow), .val (.ref ac), .val (.ref an), .unset, .unset, .unset, .unset, .unset, .unset, .unset, .unset] [])) _
      refine XS.aload Xc.here hx rfl (hb hby at_51) rfl rfl ?_
      refine XS.aload Xc.here hx rfl (hb hby at_53) rfl rfl ?_
      refine XS.iconst Xc.here hx rfl (hb hby at_55) ?_
      refine XS.lloadN Xc.here hx rfl (hb hby at_56) rfl ?_
      refine XS.iload Xc.here hx rfl (hb hby at_57) rfl ?_
      refine XS.iload Xc.here hx rfl (hb hby at_59) rfl ?_
      exact k
    obtain ⟨_, _, ⟨T60, L60, k60, n60⟩, -, X60, ⟨Lc60, hQ60, l60, y60, z60⟩, st60⟩ := Jvm.LawKit.callS Xc hx (y := (⟨"tidemark/RecordFormParseChecksumPinLaw", "draw", "([C[IIJII)V"⟩ : MethodName)) hown (mvT hZ (hw _ (List.mem_of_getElem? (i := 2) rfl))) (mvT hZ (hw _ (List.mem_of_getElem? (i := 3) rfl))) (mvT hZ (hw _ (List.mem_of_getElem? (i := 4) rfl))) (mvT hZ (hw _ (List.mem_of_getElem? (i := 5) rfl))) (by decide) (own_backL (W := 0) (rm1w l Z a0 hw [] ac an (3 : Int32) wa mode narrow kc kn [(.int x0), (.int x1), (.int x2), (.int (0 : Int32)), (.int (0 : Int32)), (.int (0 : Int32)), (.int (0 : Int32)), (.int (0 : Int32))] [(.int (own_nib x0)), (.int (own_nib x1)), (.int (own_nib x2)), (.int (0 : Int32)), (.int (0 : Int32)), (.int (0 : Int32)), (.int (0 : Int32)), (.int (0 : Int32))] sa b k cs vf hc n0 (Nat.le_trans Z0 Kc.1) Vc rfl Vn rfl (by decide) (by decide) nee g_ac g_an P_0 P_1 P_2 V_b (own_staKeep S_C Kc ns0) hcs (own_staKeep S_F Kc ns0) hvf) hZ (hw _ (List.mem_of_getElem? (i := 5) rfl)) (hw _ (List.mem_of_getElem? (i := 4) rfl)) (by decide) (by decide) Lt) (g := (mkF m 61 #[.val (.long wa), .second, .val (.long wb), .second, .val (.int mode), .val (.int narrow), .val (.ref ac), .val (.ref an), .unset, .unset, .unset, .unset, .unset, .unset, .unset, .unset] [(.int narrow), (.int mode), (.long wa), (.int (3 : Int32)), (.ref an), (.ref ac)])) rfl (by rw [hml]; rfl) (argsL := [(.ref ac), (.ref an), (.int (3 : Int32)), (.long wa), (.int mode), (.int narrow)]) (rest := []) (lenOf pd_11 rfl) rfl (by show 2 * 0 + _ ≤ _; exact Nat.le_of_eq rfl) (hb hby at_61) (fun _ _ => ⟨rfl, ec, (by decide : 4 + 0 ≤ _), (by decide : 84 + 0 ≤ _)⟩)
    dsimp only [Pt.U, Pt.locs, Pt.cells, Pt.slots] at X60 l60 y60 z60 st60 hQ60
    subst l60 y60 z60
    obtain ⟨rfl, N60q, K60, ⟨x60, y60, Vc60, Vn60⟩⟩ := hQ60
    have N60 := Fr.app Nc N60q
    refine own_stepW st60 ?_
    show own_GoW p e below s _ _ _ (T60.setTop (mkF m 64 #[.val (.long wa), .second, .val (.long wb), .second, .val (.int mode), .val (.int narrow), .val (.ref ac), .val (.ref an), .unset, .unset, .unset, .unset, .unset, .unset, .unset, .unset] []))
    exact contA4 ac an kc kn _ _ _ _ _ _ _ _ x0 x1 x2 x60 X60 rfl hSq (Nat.le_trans hkq K60.1) hZ hown N60 (Kc.trans K60 (allS (Or.inr szc) (allS (Or.inr szn) all0))) szc szn nee Vc60 Vn60 y0 y1 y2 y60 (P_0.keep K60) (P_1.keep K60 (ninS (Exa.neArv P_0 Vc (hw _ (List.mem_of_getElem? (i := 18) rfl))) (ninS (Exa.neArv P_0 Vn (hw _ (List.mem_of_getElem? (i := 18) rfl))) nin0))) (P_2.keep K60 (ninS (Exa.neArv P_0 Vc (hw _ (List.mem_of_getElem? (i := 18) rfl))) (ninS (Exa.neArv P_0 Vn (hw _ (List.mem_of_getElem? (i := 18) rfl))) nin0))) (V_b.keep K60 (ninS (arv_ne V_b Vc (Or.inl (by decide))) (ninS (arv_ne V_b Vn (Or.inl (by decide))) nin0))) Lt
  have contB3 : ∀ (ac an : Addr) (kc kn : ClassId) (Tc : State) (hc : Heap) (lc : List Loc) (kq : Nat) (x0 x1 x2 : Int32), (Stand p l e room_1 (s.setVm s.vm) m #[(.long wa), (.long wb), (.int mode), (.int narrow)] below meth c Tc lc 2 16) → (Tc.heap = hc) → (s.Since s.vm kq) → (kq ≤ hc.size) → (Z.Warmed39 (s.setVm s.vm).vm) → ((s.setVm s.vm).vm.findClass "tidemark/RecordFormParseChecksumPinLaw" = some m.cls) → (Fr n0 lc) → (Keep h0 hc []) → (h0.size ≤ ac) → (h0.size ≤ an) → (ac ≠ an) → (Arv Z hc ac kc .char (8 : Int32) [(.int x0), (.int x1), (.int x2), (.int (0 : Int32)), (.int (0 : Int32)), (.int (0 : Int32)), (.int (0 : Int32)), (.int (0 : Int32))] (.int (0 : Int32))) → (Arv Z hc an kn .int (8 : Int32) [(.int (own_nib x0)), (.int (own_nib x1)), (.int (own_nib x2)), (.int (0 : Int32)), (.int (0 : Int32)), (.int (0 : Int32)), (.int (0 : Int32)), (.int (0 : Int32))] (.int (0 : Int32))) → (nar .char x0 = x0) → (nar .char x1 = x1) → (nar .char x2 = x2) → own_GoW p e below s (Q0 Z wa wb mode narrow cs vf h0 n0) room_1.cells room_1.slots (Tc.setTop (mkF m 51 #[.val (.long wa), .second, .val (.long wb), .second, .val (.int mode), .val (.int narrow), .val (.ref ac), .val (.ref an), .unset, .unset, .unset, .unset, .unset, .unset, .unset, .unset] [])) := by
    intro ac an kc kn Tc hc lc kq x0 x1 x2 Xc ec hSq hkq hZ hown Nc Kc szc szn nee Vc Vn y0 y1 y2
    have g_ac : n0 ≤ ac := Nat.le_trans Z0 szc
    have g_an : n0 ≤ an := Nat.le_trans Z0 szn
    refine own_stepW (B := Tc.setTop (mkF m 61 #[.val (.long wa), .second, .val (.long wb), .second, .val (.int mode), .val (.int narrow), .val (.ref ac), .val (.ref an), .unset, .unset, .unset, .unset, .unset, .unset, .unset, .unset] [(.int narrow), (.int mode), (.long wa), (.int (3 : Int32)), (.ref an), (.ref ac)])) (fun t k => ?_) ?_
    · show Steps p.tables e below (Tc.setTop (mkF m 51 #[.val (.long wa), .second, .val (.long wb), .second, .val (.int mode), .val (.int narrow), .val (.ref ac), .val (.ref an), .unset, .unset, .unset, .unset, .unset, .unset, .unset, .unset] [])) _
      refine XS.aload Xc.here hx rfl (hb hby at_51) rfl rfl ?_
      refine XS.aload Xc.here hx rfl (hb hby at_53) rfl rfl ?_
      refine XS.iconst Xc.here hx rfl (hb hby at_55) ?_
      refine XS.lloadN Xc.here hx rfl (hb hby at_56) rfl ?_
      refine XS.iload Xc.here hx rfl (hb hby at_57) rfl ?_
      refine XS.iload Xc.here hx rfl (hb hby at_59) rfl ?_
      exact k
    by_cases hbit : (((mode.toUInt32 >>> ((3 : Int32) &&& 31).toUInt32).toInt32) &&& (1 : Int32)) = (0 : Int32)
    · obtain ⟨_, _, ⟨T61, L61, k61, n61⟩, -, X61, ⟨Lc61, hQ61, l61, y61, z61⟩, st61⟩ := Jvm.LawKit.callS Xc hx (y := (⟨"tidemark/RecordFormParseChecksumPinLaw", "draw", "([C[IIJII)V"⟩ : MethodName)) hown (mvT hZ (hw _ (List.mem_of_getElem? (i := 2) rfl))) (mvT hZ (hw _ (List.mem_of_getElem? (i := 3) rfl))) (mvT hZ (hw _ (List.mem_of_getElem? (i := 4) rfl))) (mvT hZ (hw _ (List.mem_of_getElem? (i := 5) rfl))) (by decide) (backOf (W := 0) (rm1n l Z a0 hw [] ac an (3 : Int32) wa mode narrow kc kn [(.int x0), (.int x1), (.int x2), (.int (0 : Int32)), (.int (0 : Int32)), (.int (0 : Int32)), (.int (0 : Int32)), (.int (0 : Int32))] [(.int (own_nib x0)), (.int (own_nib x1)), (.int (own_nib x2)), (.int (0 : Int32)), (.int (0 : Int32)), (.int (0 : Int32)), (.int (0 : Int32)), (.int (0 : Int32))] hc n0 (Nat.le_trans Z0 Kc.1) Vc rfl Vn rfl (by decide) (by decide) nee g_ac g_an hbit) hZ (hw _ (List.mem_of_getElem? (i := 5) rfl)) (hw _ (List.mem_of_getElem? (i := 4) rfl)) (by decide) (by decide) ) (g := (mkF m 61 #[.val (.long wa), .second, .val (.long wb), .second, .val (.int mode), .val (.int narrow), .val (.ref ac), .val (.ref an), .unset, .unset, .unset, .unset, .unset, .unset, .unset, .unset] [(.int narrow), (.int mode), (.long wa), (.int (3 : Int32)), (.ref an), (.ref ac)])) rfl (by rw [hml]; rfl) (argsL := [(.ref ac), (.ref an), (.int (3 : Int32)), (.long wa), (.int mode), (.int narrow)]) (rest := []) (lenOf pd_11 rfl) rfl (by show 2 * 0 + _ ≤ _; exact Nat.le_of_eq rfl) (hb hby at_61) (fun _ _ => ⟨rfl, ec, (by decide : 2 + 0 ≤ _), (by decide : 16 + 0 ≤ _)⟩)
      dsimp only [Pt.U, Pt.locs, Pt.cells, Pt.slots] at X61 l61 y61 z61 st61 hQ61
      subst l61 y61 z61
      obtain ⟨rfl, N61q, K61, ⟨x61, y61, Vc61, Vn61⟩⟩ := hQ61
      have N61 := Fr.app Nc N61q
      refine own_stepW st61 ?_
      show own_GoW p e below s _ _ _ (T61.setTop (mkF m 64 #[.val (.long wa), .second, .val (.long wb), .second, .val (.int mode), .val (.int narrow), .val (.ref ac), .val (.ref an), .unset, .unset, .unset, .unset, .unset, .unset, .unset, .unset] []))
      exact contB4 ac an kc kn _ _ _ _ x0 x1 x2 x61 X61 rfl hSq (Nat.le_trans hkq K61.1) hZ hown N61 (Kc.trans K61 (allS (Or.inr szc) (allS (Or.inr szn) all0))) szc szn nee Vc61 Vn61 y0 y1 y2 y61
    · obtain ⟨_, _, ⟨T62, L62, k62, n62⟩, -, X62, hSx62, gx62, ⟨Lc62, hQ62, l62, y62, z62⟩, st62⟩ := callSS Xc hx (y := (⟨"tidemark/RecordFormParseChecksumPinLaw", "draw", "([C[IIJII)V"⟩ : MethodName)) hown (mvT hZ (hw _ (List.mem_of_getElem? (i := 2) rfl))) (mvT hZ (hw _ (List.mem_of_getElem? (i := 3) rfl))) (mvT hZ (hw _ (List.mem_of_getElem? (i := 4) rfl))) (mvT hZ (hw _ (List.mem_of_getElem? (i := 5) rfl))) (by decide) (own_backC (W := 0) (rm1c l Z a0 hw [] ac an (3 : Int32) wa mode narrow kc kn [(.int x0), (.int x1), (.int x2), (.int (0 : Int32)), (.int (0 : Int32)), (.int (0 : Int32)), (.int (0 : Int32)), (.int (0 : Int32))] [(.int (own_nib x0)), (.int (own_nib x1)), (.int (own_nib x2)), (.int (0 : Int32)), (.int (0 : Int32)), (.int (0 : Int32)), (.int (0 : Int32)), (.int (0 : Int32))] cs vf hc n0 (Nat.le_trans Z0 Kc.1) Vc rfl Vn rfl (by decide) (by decide) nee g_ac g_an hbit (own_ext O0 Kc) hcw hh0 (own_staKeep S_C Kc ns0) hcs (own_staKeep S_F Kc ns0) hvf) hZ (hw _ (List.mem_of_getElem? (i := 5) rfl)) (hw _ (List.mem_of_getElem? (i := 4) rfl)) (by decide) (by decide) I0) (g := (mkF m 61 #[.val (.long wa), .second, .val (.long wb), .second, .val (.int mode), .val (.int narrow), .val (.ref ac), .val (.ref an), .unset, .unset, .unset, .unset, .unset, .unset, .unset, .unset] [(.int narrow), (.int mode), (.long wa), (.int (3 : Int32)), (.ref an), (.ref ac)])) rfl (by rw [hml]; rfl) (argsL := [(.ref ac), (.ref an), (.int (3 : Int32)), (.long wa), (.int mode), (.int narrow)]) (rest := []) (lenOf pd_11 rfl) rfl (by show 2 * 0 + _ ≤ _; exact Nat.le_of_eq rfl) (hb hby at_61) (fun _ _ => ⟨rfl, ec, (by decide : 2 + 2 ≤ _), (by decide : 16 + 68 ≤ _)⟩)
      dsimp only [Pt.U, Pt.locs, Pt.cells, Pt.slots] at X62 l62 y62 z62 st62 hQ62 hSx62 gx62
      subst l62 y62 z62
      obtain ⟨rfl, N62q, K62, ⟨x62, y62, Vc62, Vn62⟩, sa, b, k, P_0, P_1, P_2, V_b, Lt⟩ := hQ62
      have N62 := Fr.app Nc N62q
      refine own_viaW st62 ?_
      obtain ⟨X62, hS62, hZ, hown⟩ := rebS hSq (by rw [ec]; exact hkq) X62 hSx62 gx62 hZ hown
      show own_GoW p e below s _ _ _ (T62.setTop (mkF m 64 #[.val (.long wa), .second, .val (.long wb), .second, .val (.int mode), .val (.int narrow), .val (.ref ac), .val (.ref an), .unset, .unset, .unset, .unset, .unset, .unset, .unset, .unset] []))
      exact contA4 ac an kc kn _ _ _ _ _ _ _ _ x0 x1 x2 x62 X62 rfl hS62 (Nat.le_refl T62.heap.size) hZ hown N62 (Kc.trans K62 (allS (Or.inr szc) (allS (Or.inr szn) all0))) szc szn nee Vc62 Vn62 y0 y1 y2 y62 P_0 P_1 P_2 V_b Lt
  have contA2 : ∀ (ac an : Addr) (kc kn : ClassId) (Tc : State) (hc : Heap) (lc : List Loc) (kq : Nat) (vmc : Vm) (sa b : Addr) (k : ClassId) (x0 x1 : Int32), (Stand p l e room_1 (s.setVm vmc) m #[(.long wa), (.long wb), (.int mode), (.int narrow)] below meth c Tc lc 4 84) → (Tc.heap = hc) → (s.Since vmc kq) → (kq ≤ hc.size) → (Z.Warmed39 (s.setVm vmc).vm) → ((s.setVm vmc).vm.findClass "tidemark/RecordFormParseChecksumPinLaw" = some m.cls) → (Fr n0 lc) → (Keep h0 hc []) → (h0.size ≤ ac) → (h0.size ≤ an) → (ac ≠ an) → (Arv Z hc ac kc .char (8 : Int32) [(.int x0), (.int x1), (.int (0 : Int32)), (.int (0 : Int32)), (.int (0 : Int32)), (.int (0 : Int32)), (.int (0 : Int32)), (.int (0 : Int32))] (.int (0 : Int32))) → (Arv Z hc an kn .int (8 : Int32) [(.int (own_nib x0)), (.int (own_nib x1)), (.int (0 : Int32)), (.int (0 : Int32)), (.int (0 : Int32)), (.int (0 : Int32)), (.int (0 : Int32)), (.int (0 : Int32))] (.int (0 : Int32))) → (nar .char x0 = x0) → (nar .char x1 = x1) → (Exa Z hc sa "java/lang/String") → (Fld Z hc sa "java/lang/String" "coder" "B" (.int (0 : Int32))) → (Fld Z hc sa "java/lang/String" "value" "[B" (.ref b)) → (Arv Z hc b k .byte (16 : Int32) [(.int (48 : Int32)), (.int (49 : Int32)), (.int (50 : Int32)), (.int (51 : Int32)), (.int (52 : Int32)), (.int (53 : Int32)), (.int (54 : Int32)), (.int (55 : Int32)), (.int (56 : Int32)), (.int (57 : Int32)), (.int (97 : Int32)), (.int (98 : Int32)), (.int (99 : Int32)), (.int (100 : Int32)), (.int (101 : Int32)), (.int (102 : Int32))] (.int 0)) → (Lit (s.setVm vmc) "tidemark/RecordFormParseChecksumPinLaw" 22 sa) → own_GoW p e below s (Q0 Z wa wb mode narrow cs vf h0 n0) room_1.cells room_1.slots (Tc.setTop (mkF m 38 #[.val (.long wa), .second, .val (.long wb), .second, .val (.int mode), .val (.int narrow), .val (.ref ac), .val (.ref an), .unset, .unset, .unset, .unset, .unset, .unset, .unset, .unset] [])) := by
    intro ac an kc kn Tc hc lc kq vmc sa b k x0 x1 Xc ec hSq hkq hZ hown Nc Kc szc szn nee Vc Vn y0 y1 P_0 P_1 P_2 V_b Lt
    have g_ac : n0 ≤ ac := Nat.le_trans Z0 szc
    have g_an : n0 ≤ an := Nat.le_trans Z0 szn
    refine own_stepW (B := Tc.setTop (mkF m 48 #[.val (.long wa), .second, .val (.long wb), .second, .val (.int mode), .val (.int narrow), .val (.ref ac), .val (.ref an), .unset, .unset, .unset, .unset, .unset, .unset, .unset, .unset] [(.int narrow), (.int mode), (.long wa), (.int (2 : Int32)), (.ref an), (.ref ac)])) (fun t k => ?_) ?_
    · show Steps p.tables e below (Tc.setTop (mkF m 38 #[.val (.long wa), .second, .val (.long wb), .second, .val (.int mode), .val (.int narrow), .val (.ref ac), .val (.ref an), .unset, .unset, .unset, .unset, .unset, .unset, .unset, .unset] [])) _
      refine XS.aload Xc.here hx rfl (hb hby at_38) rfl rfl ?_
      refine XS.aload Xc.here hx rfl (hb hby at_40) rfl rfl ?_
      refine XS.iconst Xc.here hx rfl (hb hby at_42) ?_
      refine XS.lloadN Xc.here hx rfl (hb hby at_43) rfl ?_
      refine XS.iload Xc.here hx rfl (hb hby at_44) rfl ?_
      refine XS.iload Xc.here hx rfl (hb hby at_46) rfl ?_
      exact k
    obtain ⟨_, _, ⟨T63, L63, k63, n63⟩, -, X63, ⟨Lc63, hQ63, l63, y63, z63⟩, st63⟩ := Jvm.LawKit.callS Xc hx (y := (⟨"tidemark/RecordFormParseChecksumPinLaw", "draw", "([C[IIJII)V"⟩ : MethodName)) hown (mvT hZ (hw _ (List.mem_of_getElem? (i := 2) rfl))) (mvT hZ (hw _ (List.mem_of_getElem? (i := 3) rfl))) (mvT hZ (hw _ (List.mem_of_getElem? (i := 4) rfl))) (mvT hZ (hw _ (List.mem_of_getElem? (i := 5) rfl))) (by decide) (own_backL (W := 0) (rm1w l Z a0 hw [] ac an (2 : Int32) wa mode narrow kc kn [(.int x0), (.int x1), (.int (0 : Int32)), (.int (0 : Int32)), (.int (0 : Int32)), (.int (0 : Int32)), (.int (0 : Int32)), (.int (0 : Int32))] [(.int (own_nib x0)), (.int (own_nib x1)), (.int (0 : Int32)), (.int (0 : Int32)), (.int (0 : Int32)), (.int (0 : Int32)), (.int (0 : Int32)), (.int (0 : Int32))] sa b k cs vf hc n0 (Nat.le_trans Z0 Kc.1) Vc rfl Vn rfl (by decide) (by decide) nee g_ac g_an P_0 P_1 P_2 V_b (own_staKeep S_C Kc ns0) hcs (own_staKeep S_F Kc ns0) hvf) hZ (hw _ (List.mem_of_getElem? (i := 5) rfl)) (hw _ (List.mem_of_getElem? (i := 4) rfl)) (by decide) (by decide) Lt) (g := (mkF m 48 #[.val (.long wa), .second, .val (.long wb), .second, .val (.int mode), .val (.int narrow), .val (.ref ac), .val (.ref an), .unset, .unset, .unset, .unset, .unset, .unset, .unset, .unset] [(.int narrow), (.int mode), (.long wa), (.int (2 : Int32)), (.ref an), (.ref ac)])) rfl (by rw [hml]; rfl) (argsL := [(.ref ac), (.ref an), (.int (2 : Int32)), (.long wa), (.int mode), (.int narrow)]) (rest := []) (lenOf pd_11 rfl) rfl (by show 2 * 0 + _ ≤ _; exact Nat.le_of_eq rfl) (hb hby at_48) (fun _ _ => ⟨rfl, ec, (by decide : 4 + 0 ≤ _), (by decide : 84 + 0 ≤ _)⟩)
    dsimp only [Pt.U, Pt.locs, Pt.cells, Pt.slots] at X63 l63 y63 z63 st63 hQ63
    subst l63 y63 z63
    obtain ⟨rfl, N63q, K63, ⟨x63, y63, Vc63, Vn63⟩⟩ := hQ63
    have N63 := Fr.app Nc N63q
    refine own_stepW st63 ?_
    show own_GoW p e below s _ _ _ (T63.setTop (mkF m 51 #[.val (.long wa), .second, .val (.long wb), .second, .val (.int mode), .val (.int narrow), .val (.ref ac), .val (.ref an), .unset, .unset, .unset, .unset, .unset, .unset, .unset, .unset] []))
    exact contA3 ac an kc kn _ _ _ _ _ _ _ _ x0 x1 x63 X63 rfl hSq (Nat.le_trans hkq K63.1) hZ hown N63 (Kc.trans K63 (allS (Or.inr szc) (allS (Or.inr szn) all0))) szc szn nee Vc63 Vn63 y0 y1 y63 (P_0.keep K63) (P_1.keep K63 (ninS (Exa.neArv P_0 Vc (hw _ (List.mem_of_getElem? (i := 18) rfl))) (ninS (Exa.neArv P_0 Vn (hw _ (List.mem_of_getElem? (i := 18) rfl))) nin0))) (P_2.keep K63 (ninS (Exa.neArv P_0 Vc (hw _ (List.mem_of_getElem? (i := 18) rfl))) (ninS (Exa.neArv P_0 Vn (hw _ (List.mem_of_getElem? (i := 18) rfl))) nin0))) (V_b.keep K63 (ninS (arv_ne V_b Vc (Or.inl (by decide))) (ninS (arv_ne V_b Vn (Or.inl (by decide))) nin0))) Lt
  have contB2 : ∀ (ac an : Addr) (kc kn : ClassId) (Tc : State) (hc : Heap) (lc : List Loc) (kq : Nat) (x0 x1 : Int32), (Stand p l e room_1 (s.setVm s.vm) m #[(.long wa), (.long wb), (.int mode), (.int narrow)] below meth c Tc lc 2 16) → (Tc.heap = hc) → (s.Since s.vm kq) → (kq ≤ hc.size) → (Z.Warmed39 (s.setVm s.vm).vm) → ((s.setVm s.vm).vm.findClass "tidemark/RecordFormParseChecksumPinLaw" = some m.cls) → (Fr n0 lc) → (Keep h0 hc []) → (h0.size ≤ ac) → (h0.size ≤ an) → (ac ≠ an) → (Arv Z hc ac kc .char (8 : Int32) [(.int x0), (.int x1), (.int (0 : Int32)), (.int (0 : Int32)), (.int (0 : Int32)), (.int (0 : Int32)), (.int (0 : Int32)), (.int (0 : Int32))] (.int (0 : Int32))) → (Arv Z hc an kn .int (8 : Int32) [(.int (own_nib x0)), (.int (own_nib x1)), (.int (0 : Int32)), (.int (0 : Int32)), (.int (0 : Int32)), (.int (0 : Int32)), (.int (0 : Int32)), (.int (0 : Int32))] (.int (0 : Int32))) → (nar .char x0 = x0) → (nar .char x1 = x1) → own_GoW p e below s (Q0 Z wa wb mode narrow cs vf h0 n0) room_1.cells room_1.slots (Tc.setTop (mkF m 38 #[.val (.long wa), .second, .val (.long wb), .second, .val (.int mode), .val (.int narrow), .val (.ref ac), .val (.ref an), .unset, .unset, .unset, .unset, .unset, .unset, .unset, .unset] [])) := by
    intro ac an kc kn Tc hc lc kq x0 x1 Xc ec hSq hkq hZ hown Nc Kc szc szn nee Vc Vn y0 y1
    have g_ac : n0 ≤ ac := Nat.le_trans Z0 szc
    have g_an : n0 ≤ an := Nat.le_trans Z0 szn
    refine own_stepW (B := Tc.setTop (mkF m 48 #[.val (.long wa), .second, .val (.long wb), .second, .val (.int mode), .val (.int narrow), .val (.ref ac), .val (.ref an), .unset, .unset, .unset, .unset, .unset, .unset, .unset, .unset] [(.int narrow), (.int mode), (.long wa), (.int (2 : Int32)), (.ref an), (.ref ac)])) (fun t k => ?_) ?_
    · show Steps p.tables e below (Tc.setTop (mkF m 38 #[.val (.long wa), .second, .val (.long wb), .second, .val (.int mode), .val (.int narrow), .val (.ref ac), .val (.ref an), .unset, .unset, .unset, .unset, .unset, .unset, .unset, .unset] [])) _
      refine XS.aload Xc.here hx rfl (hb hby at_38) rfl rfl ?_
      refine XS.aload Xc.here hx rfl (hb hby at_40) rfl rfl ?_
      refine XS.iconst Xc.here hx rfl (hb hby at_42) ?_
      refine XS.lloadN Xc.here hx rfl (hb hby at_43) rfl ?_
      refine XS.iload Xc.here hx rfl (hb hby at_44) rfl ?_
      refine XS.iload Xc.here hx rfl (hb hby at_46) rfl ?_
      exact k
    by_cases hbit : (((mode.toUInt32 >>> ((2 : Int32) &&& 31).toUInt32).toInt32) &&& (1 : Int32)) = (0 : Int32)
    · obtain ⟨_, _, ⟨T64, L64, k64, n64⟩, -, X64, ⟨Lc64, hQ64, l64, y64, z64⟩, st64⟩ := Jvm.LawKit.callS Xc hx (y := (⟨"tidemark/RecordFormParseChecksumPinLaw", "draw", "([C[IIJII)V"⟩ : MethodName)) hown (mvT hZ (hw _ (List.mem_of_getElem? (i := 2) rfl))) (mvT hZ (hw _ (List.mem_of_getElem? (i := 3) rfl))) (mvT hZ (hw _ (List.mem_of_getElem? (i := 4) rfl))) (mvT hZ (hw _ (List.mem_of_getElem? (i := 5) rfl))) (by decide) (backOf (W := 0) (rm1n l Z a0 hw [] ac an (2 : Int32) wa mode narrow kc kn [(.int x0), (.int x1), (.int (0 : Int32)), (.int (0 : Int32)), (.int (0 : Int32)), (.int (0 : Int32)), (.int (0 : Int32)), (.int (0 : Int32))] [(.int (own_nib x0)), (.int (own_nib x1)), (.int (0 : Int32)), (.int (0 : Int32)), (.int (0 : Int32)), (.int (0 : Int32)), (.int (0 : Int32)), (.int (0 : Int32))] hc n0 (Nat.le_trans Z0 Kc.1) Vc rfl Vn rfl (by decide) (by decide) nee g_ac g_an hbit) hZ (hw _ (List.mem_of_getElem? (i := 5) rfl)) (hw _ (List.mem_of_getElem? (i := 4) rfl)) (by decide) (by decide) ) (g := (mkF m 48 #[.val (.long wa), .second, .val (.long wb), .second, .val (.int mode), .val (.int narrow), .val (.ref ac), .val (.ref an), .unset, .unset, .unset, .unset, .unset, .unset, .unset, .unset] [(.int narrow), (.int mode), (.long wa), (.int (2 : Int32)), (.ref an), (.ref ac)])) rfl (by rw [hml]; rfl) (argsL := [(.ref ac), (.ref an), (.int (2 : Int32)), (.long wa), (.int mode), (.int narrow)]) (rest := []) (lenOf pd_11 rfl) rfl (by show 2 * 0 + _ ≤ _; exact Nat.le_of_eq rfl) (hb hby at_48) (fun _ _ => ⟨rfl, ec, (by decide : 2 + 0 ≤ _), (by decide : 16 + 0 ≤ _)⟩)
      dsimp only [Pt.U, Pt.locs, Pt.cells, Pt.slots] at X64 l64 y64 z64 st64 hQ64
      subst l64 y64 z64
      obtain ⟨rfl, N64q, K64, ⟨x64, y64, Vc64, Vn64⟩⟩ := hQ64
      have N64 := Fr.app Nc N64q
      refine own_stepW st64 ?_
      show own_GoW p e below s _ _ _ (T64.setTop (mkF m 51 #[.val (.long wa), .second, .val (.long wb), .second, .val (.int mode), .val (.int narrow), .val (.ref ac), .val (.ref an), .unset, .unset, .unset, .unset, .unset, .unset, .unset, .unset] []))
      exact contB3 ac an kc kn _ _ _ _ x0 x1 x64 X64 rfl hSq (Nat.le_trans hkq K64.1) hZ hown N64 (Kc.trans K64 (allS (Or.inr szc) (allS (Or.inr szn) all0))) szc szn nee Vc64 Vn64 y0 y1 y64
    · obtain ⟨_, _, ⟨T65, L65, k65, n65⟩, -, X65, hSx65, gx65, ⟨Lc65, hQ65, l65, y65, z65⟩, st65⟩ := callSS Xc hx (y := (⟨"tidemark/RecordFormParseChecksumPinLaw", "draw", "([C[IIJII)V"⟩ : MethodName)) hown (mvT hZ (hw _ (List.mem_of_getElem? (i := 2) rfl))) (mvT hZ (hw _ (List.mem_of_getElem? (i := 3) rfl))) (mvT hZ (hw _ (List.mem_of_getElem? (i := 4) rfl))) (mvT hZ (hw _ (List.mem_of_getElem? (i := 5) rfl))) (by decide) (own_backC (W := 0) (rm1c l Z a0 hw [] ac an (2 : Int32) wa mode narrow kc kn [(.int x0), (.int x1), (.int (0 : Int32)), (.int (0 : Int32)), (.int (0 : Int32)), (.int (0 : Int32)), (.int (0 : Int32)), (.int (0 : Int32))] [(.int (own_nib x0)), (.int (own_nib x1)), (.int (0 : Int32)), (.int (0 : Int32)), (.int (0 : Int32)), (.int (0 : Int32)), (.int (0 : Int32)), (.int (0 : Int32))] cs vf hc n0 (Nat.le_trans Z0 Kc.1) Vc rfl Vn rfl (by decide) (by decide) nee g_ac g_an hbit (own_ext O0 Kc) hcw hh0 (own_staKeep S_C Kc ns0) hcs (own_staKeep S_F Kc ns0) hvf) hZ (hw _ (List.mem_of_getElem? (i := 5) rfl)) (hw _ (List.mem_of_getElem? (i := 4) rfl)) (by decide) (by decide) I0) (g := (mkF m 48 #[.val (.long wa), .second, .val (.long wb), .second, .val (.int mode), .val (.int narrow), .val (.ref ac), .val (.ref an), .unset, .unset, .unset, .unset, .unset, .unset, .unset, .unset] [(.int narrow), (.int mode), (.long wa), (.int (2 : Int32)), (.ref an), (.ref ac)])) rfl (by rw [hml]; rfl) (argsL := [(.ref ac), (.ref an), (.int (2 : Int32)), (.long wa), (.int mode), (.int narrow)]) (rest := []) (lenOf pd_11 rfl) rfl (by show 2 * 0 + _ ≤ _; exact Nat.le_of_eq rfl) (hb hby at_48) (fun _ _ => ⟨rfl, ec, (by decide : 2 + 2 ≤ _), (by decide : 16 + 68 ≤ _)⟩)
      dsimp only [Pt.U, Pt.locs, Pt.cells, Pt.slots] at X65 l65 y65 z65 st65 hQ65 hSx65 gx65
      subst l65 y65 z65
      obtain ⟨rfl, N65q, K65, ⟨x65, y65, Vc65, Vn65⟩, sa, b, k, P_0, P_1, P_2, V_b, Lt⟩ := hQ65
      have N65 := Fr.app Nc N65q
      refine own_viaW st65 ?_
      obtain ⟨X65, hS65, hZ, hown⟩ := rebS hSq (by rw [ec]; exact hkq) X65 hSx65 gx65 hZ hown
      show own_GoW p e below s _ _ _ (T65.setTop (mkF m 51 #[.val (.long wa), .second, .val (.long wb), .second, .val (.int mode), .val (.int narrow), .val (.ref ac), .val (.ref an), .unset, .unset, .unset, .unset, .unset, .unset, .unset, .unset] []))
      exact contA3 ac an kc kn _ _ _ _ _ _ _ _ x0 x1 x65 X65 rfl hS65 (Nat.le_refl T65.heap.size) hZ hown N65 (Kc.trans K65 (allS (Or.inr szc) (allS (Or.inr szn) all0))) szc szn nee Vc65 Vn65 y0 y1 y65 P_0 P_1 P_2 V_b Lt
  have contA1 : ∀ (ac an : Addr) (kc kn : ClassId) (Tc : State) (hc : Heap) (lc : List Loc) (kq : Nat) (vmc : Vm) (sa b : Addr) (k : ClassId) (x0 : Int32), (Stand p l e room_1 (s.setVm vmc) m #[(.long wa), (.long wb), (.int mode), (.int narrow)] below meth c Tc lc 4 84) → (Tc.heap = hc) → (s.Since vmc kq) → (kq ≤ hc.size) → (Z.Warmed39 (s.setVm vmc).vm) → ((s.setVm vmc).vm.findClass "tidemark/RecordFormParseChecksumPinLaw" = some m.cls) → (Fr n0 lc) → (Keep h0 hc []) → (h0.size ≤ ac) → (h0.size ≤ an) → (ac ≠ an) → (Arv Z hc ac kc .char (8 : Int32) [(.int x0), (.int (0 : Int32)), (.int (0 : Int32)), (.int (0 : Int32)), (.int (0 : Int32)), (.int (0 : Int32)), (.int (0 : Int32)), (.int (0 : Int32))] (.int (0 : Int32))) → (Arv Z hc an kn .int (8 : Int32) [(.int (own_nib x0)), (.int (0 : Int32)), (.int (0 : Int32)), (.int (0 : Int32)), (.int (0 : Int32)), (.int (0 : Int32)), (.int (0 : Int32)), (.int (0 : Int32))] (.int (0 : Int32))) → (nar .char x0 = x0) → (Exa Z hc sa "java/lang/String") → (Fld Z hc sa "java/lang/String" "coder" "B" (.int (0 : Int32))) → (Fld Z hc sa "java/lang/String" "value" "[B" (.ref b)) → (Arv Z hc b k .byte (16 : Int32) [(.int (48 : Int32)), (.int (49 : Int32)), (.int (50 : Int32)), (.int (51 : Int32)), (.int (52 : Int32)), (.int (53 : Int32)), (.int (54 : Int32)), (.int (55 : Int32)), (.int (56 : Int32)), (.int (57 : Int32)), (.int (97 : Int32)), (.int (98 : Int32)), (.int (99 : Int32)), (.int (100 : Int32)), (.int (101 : Int32)), (.int (102 : Int32))] (.int 0)) → (Lit (s.setVm vmc) "tidemark/RecordFormParseChecksumPinLaw" 22 sa) → own_GoW p e below s (Q0 Z wa wb mode narrow cs vf h0 n0) room_1.cells room_1.slots (Tc.setTop (mkF m 25 #[.val (.long wa), .second, .val (.long wb), .second, .val (.int mode), .val (.int narrow), .val (.ref ac), .val (.ref an), .unset, .unset, .unset, .unset, .unset, .unset, .unset, .unset] [])) := by
    intro ac an kc kn Tc hc lc kq vmc sa b k x0 Xc ec hSq hkq hZ hown Nc Kc szc szn nee Vc Vn y0 P_0 P_1 P_2 V_b Lt
    have g_ac : n0 ≤ ac := Nat.le_trans Z0 szc
    have g_an : n0 ≤ an := Nat.le_trans Z0 szn
    refine own_stepW (B := Tc.setTop (mkF m 35 #[.val (.long wa), .second, .val (.long wb), .second, .val (.int mode), .val (.int narrow), .val (.ref ac), .val (.ref an), .unset, .unset, .unset, .unset, .unset, .unset, .unset, .unset] [(.int narrow), (.int mode), (.long wa), (.int (1 : Int32)), (.ref an), (.ref ac)])) (fun t k => ?_) ?_
    · show Steps p.tables e below (Tc.setTop (mkF m 25 #[.val (.long wa), .second, .val (.long wb), .second, .val (.int mode), .val (.int narrow), .val (.ref ac), .val (.ref an), .unset, .unset, .unset, .unset, .unset, .unset, .unset, .unset] [])) _
      refine XS.aload Xc.here hx rfl (hb hby at_25) rfl rfl ?_
      refine XS.aload Xc.here hx rfl (hb hby at_27) rfl rfl ?_
      refine XS.iconst Xc.here hx rfl (hb hby at_29) ?_
      refine XS.lloadN Xc.here hx rfl (hb hby at_30) rfl ?_
      refine XS.iload Xc.here hx rfl (hb hby at_31) rfl ?_
      refine XS.iload Xc.here hx rfl (hb hby at_33) rfl ?_
      exact k
    obtain ⟨_, _, ⟨T66, L66, k66, n66⟩, -, X66, ⟨Lc66, hQ66, l66, y66, z66⟩, st66⟩ := Jvm.LawKit.callS Xc hx (y := (⟨"tidemark/RecordFormParseChecksumPinLaw", "draw", "([C[IIJII)V"⟩ : MethodName)) hown (mvT hZ (hw _ (List.mem_of_getElem? (i := 2) rfl))) (mvT hZ (hw _ (List.mem_of_getElem? (i := 3) rfl))) (mvT hZ (hw _ (List.mem_of_getElem? (i := 4) rfl))) (mvT hZ (hw _ (List.mem_of_getElem? (i := 5) rfl))) (by decide) (own_backL (W := 0) (rm1w l Z a0 hw [] ac an (1 : Int32) wa mode narrow kc kn [(.int x0), (.int (0 : Int32)), (.int (0 : Int32)), (.int (0 : Int32)), (.int (0 : Int32)), (.int (0 : Int32)), (.int (0 : Int32)), (.int (0 : Int32))] [(.int (own_nib x0)), (.int (0 : Int32)), (.int (0 : Int32)), (.int (0 : Int32)), (.int (0 : Int32)), (.int (0 : Int32)), (.int (0 : Int32)), (.int (0 : Int32))] sa b k cs vf hc n0 (Nat.le_trans Z0 Kc.1) Vc rfl Vn rfl (by decide) (by decide) nee g_ac g_an P_0 P_1 P_2 V_b (own_staKeep S_C Kc ns0) hcs (own_staKeep S_F Kc ns0) hvf) hZ (hw _ (List.mem_of_getElem? (i := 5) rfl)) (hw _ (List.mem_of_getElem? (i := 4) rfl)) (by decide) (by decide) Lt) (g := (mkF m 35 #[.val (.long wa), .second, .val (.long wb), .second, .val (.int mode), .val (.int narrow), .val (.ref ac), .val (.ref an), .unset, .unset, .unset, .unset, .unset, .unset, .unset, .unset] [(.int narrow), (.int mode), (.long wa), (.int (1 : Int32)), (.ref an), (.ref ac)])) rfl (by rw [hml]; rfl) (argsL := [(.ref ac), (.ref an), (.int (1 : Int32)), (.long wa), (.int mode), (.int narrow)]) (rest := []) (lenOf pd_11 rfl) rfl (by show 2 * 0 + _ ≤ _; exact Nat.le_of_eq rfl) (hb hby at_35) (fun _ _ => ⟨rfl, ec, (by decide : 4 + 0 ≤ _), (by decide : 84 + 0 ≤ _)⟩)
    dsimp only [Pt.U, Pt.locs, Pt.cells, Pt.slots] at X66 l66 y66 z66 st66 hQ66
    subst l66 y66 z66
    obtain ⟨rfl, N66q, K66, ⟨x66, y66, Vc66, Vn66⟩⟩ := hQ66
    have N66 := Fr.app Nc N66q
    refine own_stepW st66 ?_
    show own_GoW p e below s _ _ _ (T66.setTop (mkF m 38 #[.val (.long wa), .second, .val (.long wb), .second, .val (.int mode), .val (.int narrow), .val (.ref ac), .val (.ref an), .unset, .unset, .unset, .unset, .unset, .unset, .unset, .unset] []))
    exact contA2 ac an kc kn _ _ _ _ _ _ _ _ x0 x66 X66 rfl hSq (Nat.le_trans hkq K66.1) hZ hown N66 (Kc.trans K66 (allS (Or.inr szc) (allS (Or.inr szn) all0))) szc szn nee Vc66 Vn66 y0 y66 (P_0.keep K66) (P_1.keep K66 (ninS (Exa.neArv P_0 Vc (hw _ (List.mem_of_getElem? (i := 18) rfl))) (ninS (Exa.neArv P_0 Vn (hw _ (List.mem_of_getElem? (i := 18) rfl))) nin0))) (P_2.keep K66 (ninS (Exa.neArv P_0 Vc (hw _ (List.mem_of_getElem? (i := 18) rfl))) (ninS (Exa.neArv P_0 Vn (hw _ (List.mem_of_getElem? (i := 18) rfl))) nin0))) (V_b.keep K66 (ninS (arv_ne V_b Vc (Or.inl (by decide))) (ninS (arv_ne V_b Vn (Or.inl (by decide))) nin0))) Lt
  have contB1 : ∀ (ac an : Addr) (kc kn : ClassId) (Tc : State) (hc : Heap) (lc : List Loc) (kq : Nat) (x0 : Int32), (Stand p l e room_1 (s.setVm s.vm) m #[(.long wa), (.long wb), (.int mode), (.int narrow)] below meth c Tc lc 2 16) → (Tc.heap = hc) → (s.Since s.vm kq) → (kq ≤ hc.size) → (Z.Warmed39 (s.setVm s.vm).vm) → ((s.setVm s.vm).vm.findClass "tidemark/RecordFormParseChecksumPinLaw" = some m.cls) → (Fr n0 lc) → (Keep h0 hc []) → (h0.size ≤ ac) → (h0.size ≤ an) → (ac ≠ an) → (Arv Z hc ac kc .char (8 : Int32) [(.int x0), (.int (0 : Int32)), (.int (0 : Int32)), (.int (0 : Int32)), (.int (0 : Int32)), (.int (0 : Int32)), (.int (0 : Int32)), (.int (0 : Int32))] (.int (0 : Int32))) → (Arv Z hc an kn .int (8 : Int32) [(.int (own_nib x0)), (.int (0 : Int32)), (.int (0 : Int32)), (.int (0 : Int32)), (.int (0 : Int32)), (.int (0 : Int32)), (.int (0 : Int32)), (.int (0 : Int32))] (.int (0 : Int32))) → (nar .char x0 = x0) → own_GoW p e below s (Q0 Z wa wb mode narrow cs vf h0 n0) room_1.cells room_1.slots (Tc.setTop (mkF m 25 #[.val (.long wa), .second, .val (.long wb), .second, .val (.int mode), .val (.int narrow), .val (.ref ac), .val (.ref an), .unset, .unset, .unset, .unset, .unset, .unset, .unset, .unset] [])) := by
    intro ac an kc kn Tc hc lc kq x0 Xc ec hSq hkq hZ hown Nc Kc szc szn nee Vc Vn y0
    have g_ac : n0 ≤ ac := Nat.le_trans Z0 szc
    have g_an : n0 ≤ an := Nat.le_trans Z0 szn
    refine own_stepW (B := Tc.setTop (mkF m 35 #[.val (.long wa), .second, .val (.long wb), .second, .val (.int mode), .val (.int narrow), .val (.ref ac), .val (.ref an), .unset, .unset, .unset, .unset, .unset, .unset, .unset, .unset] [(.int narrow), (.int mode), (.long wa), (.int (1 : Int32)), (.ref an), (.ref ac)])) (fun t k => ?_) ?_
    · show Steps p.tables e below (Tc.setTop (mkF m 25 #[.val (.long wa), .second, .val (.long wb), .second, .val (.int mode), .val (.int narrow), .val (.ref ac), .val (.ref an), .unset, .unset, .unset, .unset, .unset, .unset, .unset, .unset] [])) _
      refine XS.aload Xc.here hx rfl (hb hby at_25) rfl rfl ?_
      refine XS.aload Xc.here hx rfl (hb hby at_27) rfl rfl ?_
      refine XS.iconst Xc.here hx rfl (hb hby at_29) ?_
      refine XS.lloadN Xc.here hx rfl (hb hby at_30) rfl ?_
      refine XS.iload Xc.here hx rfl (hb hby at_31) rfl ?_
      refine XS.iload Xc.here hx rfl (hb hby at_33) rfl ?_
      exact k
    by_cases hbit : (((mode.toUInt32 >>> ((1 : Int32) &&& 31).toUInt32).toInt32) &&& (1 : Int32)) = (0 : Int32)
    · obtain ⟨_, _, ⟨T67, L67, k67, n67⟩, -, X67, ⟨Lc67, hQ67, l67, y67, z67⟩, st67⟩ := Jvm.LawKit.callS Xc hx (y := (⟨"tidemark/RecordFormParseChecksumPinLaw", "draw", "([C[IIJII)V"⟩ : MethodName)) hown (mvT hZ (hw _ (List.mem_of_getElem? (i := 2) rfl))) (mvT hZ (hw _ (List.mem_of_getElem? (i := 3) rfl))) (mvT hZ (hw _ (List.mem_of_getElem? (i := 4) rfl))) (mvT hZ (hw _ (List.mem_of_getElem? (i := 5) rfl))) (by decide) (backOf (W := 0) (rm1n l Z a0 hw [] ac an (1 : Int32) wa mode narrow kc kn [(.int x0), (.int (0 : Int32)), (.int (0 : Int32)), (.int (0 : Int32)), (.int (0 : Int32)), (.int (0 : Int32)), (.int (0 : Int32)), (.int (0 : Int32))] [(.int (own_nib x0)), (.int (0 : Int32)), (.int (0 : Int32)), (.int (0 : Int32)), (.int (0 : Int32)), (.int (0 : Int32)), (.int (0 : Int32)), (.int (0 : Int32))] hc n0 (Nat.le_trans Z0 Kc.1) Vc rfl Vn rfl (by decide) (by decide) nee g_ac g_an hbit) hZ (hw _ (List.mem_of_getElem? (i := 5) rfl)) (hw _ (List.mem_of_getElem? (i := 4) rfl)) (by decide) (by decide) ) (g := (mkF m 35 #[.val (.long wa), .second, .val (.long wb), .second, .val (.int mode), .val (.int narrow), .val (.ref ac), .val (.ref an), .unset, .unset, .unset, .unset, .unset, .unset, .unset, .unset] [(.int narrow), (.int mode), (.long wa), (.int (1 : Int32)), (.ref an), (.ref ac)])) rfl (by rw [hml]; rfl) (argsL := [(.ref ac), (.ref an), (.int (1 : Int32)), (.long wa), (.int mode), (.int narrow)]) (rest := []) (lenOf pd_11 rfl) rfl (by show 2 * 0 + _ ≤ _; exact Nat.le_of_eq rfl) (hb hby at_35) (fun _ _ => ⟨rfl, ec, (by decide : 2 + 0 ≤ _), (by decide : 16 + 0 ≤ _)⟩)
      dsimp only [Pt.U, Pt.locs, Pt.cells, Pt.slots] at X67 l67 y67 z67 st67 hQ67
      subst l67 y67 z67
      obtain ⟨rfl, N67q, K67, ⟨x67, y67, Vc67, Vn67⟩⟩ := hQ67
      have N67 := Fr.app Nc N67q
      refine own_stepW st67 ?_
      show own_GoW p e below s _ _ _ (T67.setTop (mkF m 38 #[.val (.long wa), .second, .val (.long wb), .second, .val (.int mode), .val (.int narrow), .val (.ref ac), .val (.ref an), .unset, .unset, .unset, .unset, .unset, .unset, .unset, .unset] []))
      exact contB2 ac an kc kn _ _ _ _ x0 x67 X67 rfl hSq (Nat.le_trans hkq K67.1) hZ hown N67 (Kc.trans K67 (allS (Or.inr szc) (allS (Or.inr szn) all0))) szc szn nee Vc67 Vn67 y0 y67
    · obtain ⟨_, _, ⟨T68, L68, k68, n68⟩, -, X68, hSx68, gx68, ⟨Lc68, hQ68, l68, y68, z68⟩, st68⟩ := callSS Xc hx (y := (⟨"tidemark/RecordFormParseChecksumPinLaw", "draw", "([C[IIJII)V"⟩ : MethodName)) hown (mvT hZ (hw _ (List.mem_of_getElem? (i := 2) rfl))) (mvT hZ (hw _ (List.mem_of_getElem? (i := 3) rfl))) (mvT hZ (hw _ (List.mem_of_getElem? (i := 4) rfl))) (mvT hZ (hw _ (List.mem_of_getElem? (i := 5) rfl))) (by decide) (own_backC (W := 0) (rm1c l Z a0 hw [] ac an (1 : Int32) wa mode narrow kc kn [(.int x0), (.int (0 : Int32)), (.int (0 : Int32)), (.int (0 : Int32)), (.int (0 : Int32)), (.int (0 : Int32)), (.int (0 : Int32)), (.int (0 : Int32))] [(.int (own_nib x0)), (.int (0 : Int32)), (.int (0 : Int32)), (.int (0 : Int32)), (.int (0 : Int32)), (.int (0 : Int32)), (.int (0 : Int32)), (.int (0 : Int32))] cs vf hc n0 (Nat.le_trans Z0 Kc.1) Vc rfl Vn rfl (by decide) (by decide) nee g_ac g_an hbit (own_ext O0 Kc) hcw hh0 (own_staKeep S_C Kc ns0) hcs (own_staKeep S_F Kc ns0) hvf) hZ (hw _ (List.mem_of_getElem? (i := 5) rfl)) (hw _ (List.mem_of_getElem? (i := 4) rfl)) (by decide) (by decide) I0) (g := (mkF m 35 #[.val (.long wa), .second, .val (.long wb), .second, .val (.int mode), .val (.int narrow), .val (.ref ac), .val (.ref an), .unset, .unset, .unset, .unset, .unset, .unset, .unset, .unset] [(.int narrow), (.int mode), (.long wa), (.int (1 : Int32)), (.ref an), (.ref ac)])) rfl (by rw [hml]; rfl) (argsL := [(.ref ac), (.ref an), (.int (1 : Int32)), (.long wa), (.int mode), (.int narrow)]) (rest := []) (lenOf pd_11 rfl) rfl (by show 2 * 0 + _ ≤ _; exact Nat.le_of_eq rfl) (hb hby at_35) (fun _ _ => ⟨rfl, ec, (by decide : 2 + 2 ≤ _), (by decide : 16 + 68 ≤ _)⟩)
      dsimp only [Pt.U, Pt.locs, Pt.cells, Pt.slots] at X68 l68 y68 z68 st68 hQ68 hSx68 gx68
      subst l68 y68 z68
      obtain ⟨rfl, N68q, K68, ⟨x68, y68, Vc68, Vn68⟩, sa, b, k, P_0, P_1, P_2, V_b, Lt⟩ := hQ68
      have N68 := Fr.app Nc N68q
      refine own_viaW st68 ?_
      obtain ⟨X68, hS68, hZ, hown⟩ := rebS hSq (by rw [ec]; exact hkq) X68 hSx68 gx68 hZ hown
      show own_GoW p e below s _ _ _ (T68.setTop (mkF m 38 #[.val (.long wa), .second, .val (.long wb), .second, .val (.int mode), .val (.int narrow), .val (.ref ac), .val (.ref an), .unset, .unset, .unset, .unset, .unset, .unset, .unset, .unset] []))
      exact contA2 ac an kc kn _ _ _ _ _ _ _ _ x0 x68 X68 rfl hS68 (Nat.le_refl T68.heap.size) hZ hown N68 (Kc.trans K68 (allS (Or.inr szc) (allS (Or.inr szn) all0))) szc szn nee Vc68 Vn68 y0 y68 P_0 P_1 P_2 V_b Lt
  have contB0 : ∀ (ac an : Addr) (kc kn : ClassId) (Tc : State) (hc : Heap) (lc : List Loc) (kq : Nat), (Stand p l e room_1 (s.setVm s.vm) m #[(.long wa), (.long wb), (.int mode), (.int narrow)] below meth c Tc lc 2 16) → (Tc.heap = hc) → (s.Since s.vm kq) → (kq ≤ hc.size) → (Z.Warmed39 (s.setVm s.vm).vm) → ((s.setVm s.vm).vm.findClass "tidemark/RecordFormParseChecksumPinLaw" = some m.cls) → (Fr n0 lc) → (Keep h0 hc []) → (h0.size ≤ ac) → (h0.size ≤ an) → (ac ≠ an) → (Arv Z hc ac kc .char (8 : Int32) [(.int (0 : Int32)), (.int (0 : Int32)), (.int (0 : Int32)), (.int (0 : Int32)), (.int (0 : Int32)), (.int (0 : Int32)), (.int (0 : Int32)), (.int (0 : Int32))] (.int (0 : Int32))) → (Arv Z hc an kn .int (8 : Int32) [(.int (0 : Int32)), (.int (0 : Int32)), (.int (0 : Int32)), (.int (0 : Int32)), (.int (0 : Int32)), (.int (0 : Int32)), (.int (0 : Int32)), (.int (0 : Int32))] (.int (0 : Int32))) → own_GoW p e below s (Q0 Z wa wb mode narrow cs vf h0 n0) room_1.cells room_1.slots (Tc.setTop (mkF m 12 #[.val (.long wa), .second, .val (.long wb), .second, .val (.int mode), .val (.int narrow), .val (.ref ac), .val (.ref an), .unset, .unset, .unset, .unset, .unset, .unset, .unset, .unset] [])) := by
    intro ac an kc kn Tc hc lc kq Xc ec hSq hkq hZ hown Nc Kc szc szn nee Vc Vn
    have g_ac : n0 ≤ ac := Nat.le_trans Z0 szc
    have g_an : n0 ≤ an := Nat.le_trans Z0 szn
    refine own_stepW (B := Tc.setTop (mkF m 22 #[.val (.long wa), .second, .val (.long wb), .second, .val (.int mode), .val (.int narrow), .val (.ref ac), .val (.ref an), .unset, .unset, .unset, .unset, .unset, .unset, .unset, .unset] [(.int narrow), (.int mode), (.long wa), (.int (0 : Int32)), (.ref an), (.ref ac)])) (fun t k => ?_) ?_
    · show Steps p.tables e below (Tc.setTop (mkF m 12 #[.val (.long wa), .second, .val (.long wb), .second, .val (.int mode), .val (.int narrow), .val (.ref ac), .val (.ref an), .unset, .unset, .unset, .unset, .unset, .unset, .unset, .unset] [])) _
      refine XS.aload Xc.here hx rfl (hb hby at_12) rfl rfl ?_
      refine XS.aload Xc.here hx rfl (hb hby at_14) rfl rfl ?_
      refine XS.iconst Xc.here hx rfl (hb hby at_16) ?_
      refine XS.lloadN Xc.here hx rfl (hb hby at_17) rfl ?_
      refine XS.iload Xc.here hx rfl (hb hby at_18) rfl ?_
      refine XS.iload Xc.here hx rfl (hb hby at_20) rfl ?_
      exact k
    by_cases hbit : (((mode.toUInt32 >>> ((0 : Int32) &&& 31).toUInt32).toInt32) &&& (1 : Int32)) = (0 : Int32)
    · obtain ⟨_, _, ⟨T69, L69, k69, n69⟩, -, X69, ⟨Lc69, hQ69, l69, y69, z69⟩, st69⟩ := Jvm.LawKit.callS Xc hx (y := (⟨"tidemark/RecordFormParseChecksumPinLaw", "draw", "([C[IIJII)V"⟩ : MethodName)) hown (mvT hZ (hw _ (List.mem_of_getElem? (i := 2) rfl))) (mvT hZ (hw _ (List.mem_of_getElem? (i := 3) rfl))) (mvT hZ (hw _ (List.mem_of_getElem? (i := 4) rfl))) (mvT hZ (hw _ (List.mem_of_getElem? (i := 5) rfl))) (by decide) (backOf (W := 0) (rm1n l Z a0 hw [] ac an (0 : Int32) wa mode narrow kc kn [(.int (0 : Int32)), (.int (0 : Int32)), (.int (0 : Int32)), (.int (0 : Int32)), (.int (0 : Int32)), (.int (0 : Int32)), (.int (0 : Int32)), (.int (0 : Int32))] [(.int (0 : Int32)), (.int (0 : Int32)), (.int (0 : Int32)), (.int (0 : Int32)), (.int (0 : Int32)), (.int (0 : Int32)), (.int (0 : Int32)), (.int (0 : Int32))] hc n0 (Nat.le_trans Z0 Kc.1) Vc rfl Vn rfl (by decide) (by decide) nee g_ac g_an hbit) hZ (hw _ (List.mem_of_getElem? (i := 5) rfl)) (hw _ (List.mem_of_getElem? (i := 4) rfl)) (by decide) (by decide) ) (g := (mkF m 22 #[.val (.long wa), .second, .val (.long wb), .second, .val (.int mode), .val (.int narrow), .val (.ref ac), .val (.ref an), .unset, .unset, .unset, .unset, .unset, .unset, .unset, .unset] [(.int narrow), (.int mode), (.long wa), (.int (0 : Int32)), (.ref an), (.ref ac)])) rfl (by rw [hml]; rfl) (argsL := [(.ref ac), (.ref an), (.int (0 : Int32)), (.long wa), (.int mode), (.int narrow)]) (rest := []) (lenOf pd_11 rfl) rfl (by show 2 * 0 + _ ≤ _; exact Nat.le_of_eq rfl) (hb hby at_22) (fun _ _ => ⟨rfl, ec, (by decide : 2 + 0 ≤ _), (by decide : 16 + 0 ≤ _)⟩)
      dsimp only [Pt.U, Pt.locs, Pt.cells, Pt.slots] at X69 l69 y69 z69 st69 hQ69
      subst l69 y69 z69
      obtain ⟨rfl, N69q, K69, ⟨x69, y69, Vc69, Vn69⟩⟩ := hQ69
      have N69 := Fr.app Nc N69q
      refine own_stepW st69 ?_
      show own_GoW p e below s _ _ _ (T69.setTop (mkF m 25 #[.val (.long wa), .second, .val (.long wb), .second, .val (.int mode), .val (.int narrow), .val (.ref ac), .val (.ref an), .unset, .unset, .unset, .unset, .unset, .unset, .unset, .unset] []))
      exact contB1 ac an kc kn _ _ _ _  x69 X69 rfl hSq (Nat.le_trans hkq K69.1) hZ hown N69 (Kc.trans K69 (allS (Or.inr szc) (allS (Or.inr szn) all0))) szc szn nee Vc69 Vn69 y69
    · obtain ⟨_, _, ⟨T70, L70, k70, n70⟩, -, X70, hSx70, gx70, ⟨Lc70, hQ70, l70, y70, z70⟩, st70⟩ := callSS Xc hx (y := (⟨"tidemark/RecordFormParseChecksumPinLaw", "draw", "([C[IIJII)V"⟩ : MethodName)) hown (mvT hZ (hw _ (List.mem_of_getElem? (i := 2) rfl))) (mvT hZ (hw _ (List.mem_of_getElem? (i := 3) rfl))) (mvT hZ (hw _ (List.mem_of_getElem? (i := 4) rfl))) (mvT hZ (hw _ (List.mem_of_getElem? (i := 5) rfl))) (by decide) (own_backC (W := 0) (rm1c l Z a0 hw [] ac an (0 : Int32) wa mode narrow kc kn [(.int (0 : Int32)), (.int (0 : Int32)), (.int (0 : Int32)), (.int (0 : Int32)), (.int (0 : Int32)), (.int (0 : Int32)), (.int (0 : Int32)), (.int (0 : Int32))] [(.int (0 : Int32)), (.int (0 : Int32)), (.int (0 : Int32)), (.int (0 : Int32)), (.int (0 : Int32)), (.int (0 : Int32)), (.int (0 : Int32)), (.int (0 : Int32))] cs vf hc n0 (Nat.le_trans Z0 Kc.1) Vc rfl Vn rfl (by decide) (by decide) nee g_ac g_an hbit (own_ext O0 Kc) hcw hh0 (own_staKeep S_C Kc ns0) hcs (own_staKeep S_F Kc ns0) hvf) hZ (hw _ (List.mem_of_getElem? (i := 5) rfl)) (hw _ (List.mem_of_getElem? (i := 4) rfl)) (by decide) (by decide) I0) (g := (mkF m 22 #[.val (.long wa), .second, .val (.long wb), .second, .val (.int mode), .val (.int narrow), .val (.ref ac), .val (.ref an), .unset, .unset, .unset, .unset, .unset, .unset, .unset, .unset] [(.int narrow), (.int mode), (.long wa), (.int (0 : Int32)), (.ref an), (.ref ac)])) rfl (by rw [hml]; rfl) (argsL := [(.ref ac), (.ref an), (.int (0 : Int32)), (.long wa), (.int mode), (.int narrow)]) (rest := []) (lenOf pd_11 rfl) rfl (by show 2 * 0 + _ ≤ _; exact Nat.le_of_eq rfl) (hb hby at_22) (fun _ _ => ⟨rfl, ec, (by decide : 2 + 2 ≤ _), (by decide : 16 + 68 ≤ _)⟩)
      dsimp only [Pt.U, Pt.locs, Pt.cells, Pt.slots] at X70 l70 y70 z70 st70 hQ70 hSx70 gx70
      subst l70 y70 z70
      obtain ⟨rfl, N70q, K70, ⟨x70, y70, Vc70, Vn70⟩, sa, b, k, P_0, P_1, P_2, V_b, Lt⟩ := hQ70
      have N70 := Fr.app Nc N70q
      refine own_viaW st70 ?_
      obtain ⟨X70, hS70, hZ, hown⟩ := rebS hSq (by rw [ec]; exact hkq) X70 hSx70 gx70 hZ hown
      show own_GoW p e below s _ _ _ (T70.setTop (mkF m 25 #[.val (.long wa), .second, .val (.long wb), .second, .val (.int mode), .val (.int narrow), .val (.ref ac), .val (.ref an), .unset, .unset, .unset, .unset, .unset, .unset, .unset, .unset] []))
      exact contA1 ac an kc kn _ _ _ _ _ _ _ _  x70 X70 rfl hS70 (Nat.le_refl T70.heap.size) hZ hown N70 (Kc.trans K70 (allS (Or.inr szc) (allS (Or.inr szn) all0))) szc szn nee Vc70 Vn70 y70 P_0 P_1 P_2 V_b Lt
  refine own_stepW (B := s₁.setTop (mkF m 2 #[.val (.long wa), .second, .val (.long wb), .second, .val (.int mode), .val (.int narrow), .unset, .unset, .unset, .unset, .unset, .unset, .unset, .unset, .unset, .unset] [(.int (8 : Int32))])) (fun t k => ?_) ?_
  · show Steps p.tables e below (s₁.setTop (mkF m 0 #[.val (.long wa), .second, .val (.long wb), .second, .val (.int mode), .val (.int narrow), .unset, .unset, .unset, .unset, .unset, .unset, .unset, .unset, .unset, .unset] [])) _
    refine XS.bipush X0.here hx rfl (hb hby at_0) ?_
    exact k
  obtain ⟨T71, h71, k71, X71, e71, E71, A71, st71⟩ := newP X0 hx hZ (hw _ (List.mem_of_getElem? (i := 0) rfl)) e0 (g := (mkF m 2 #[.val (.long wa), .second, .val (.long wb), .second, .val (.int mode), .val (.int narrow), .unset, .unset, .unset, .unset, .unset, .unset, .unset, .unset, .unset, .unset] [(.int (8 : Int32))])) rfl (hb hby at_2) rfl (by decide) (cap := 8) (by decide) (by decide) (by decide) (by decide)
  obtain ⟨b71, g71⟩ : ∃ z, z = h0.size := ⟨_, rfl⟩
  rw [← g71] at A71 st71
  have g_b71 : n0 ≤ b71 := Nat.le_trans Z0 (Nat.le_of_eq g71.symm)
  have V_b71 : Arv Z h71 b71 k71 .char (8 : Int32) [(.int (0 : Int32)), (.int (0 : Int32)), (.int (0 : Int32)), (.int (0 : Int32)), (.int (0 : Int32)), (.int (0 : Int32)), (.int (0 : Int32)), (.int (0 : Int32))] (.int (0 : Int32)) := (Arv.new A71 (by decide)).pad (pad_rep [] (.int (0 : Int32)) 8)
  refine own_stepW st71 ?_
  show own_GoW p e below s _ _ _ (T71.setTop (mkF m 4 #[.val (.long wa), .second, .val (.long wb), .second, .val (.int mode), .val (.int narrow), .unset, .unset, .unset, .unset, .unset, .unset, .unset, .unset, .unset, .unset] [(.ref b71)]))
  refine own_stepW (B := T71.setTop (mkF m 8 #[.val (.long wa), .second, .val (.long wb), .second, .val (.int mode), .val (.int narrow), .val (.ref b71), .unset, .unset, .unset, .unset, .unset, .unset, .unset, .unset, .unset] [(.int (8 : Int32))])) (fun t k => ?_) ?_
  · show Steps p.tables e below (T71.setTop (mkF m 4 #[.val (.long wa), .second, .val (.long wb), .second, .val (.int mode), .val (.int narrow), .unset, .unset, .unset, .unset, .unset, .unset, .unset, .unset, .unset, .unset] [(.ref b71)])) _
    refine XS.astore X71.here hx rfl (hb hby at_4) rfl rfl (l' := #[.val (.long wa), .second, .val (.long wb), .second, .val (.int mode), .val (.int narrow), .val (.ref b71), .unset, .unset, .unset, .unset, .unset, .unset, .unset, .unset, .unset]) rfl ?_
    refine XS.bipush X71.here hx rfl (hb hby at_6) ?_
    exact k
  obtain ⟨T72, h72, k72, X72, e72, E72, A72, st72⟩ := newP X71 hx hZ (hw _ (List.mem_of_getElem? (i := 1) rfl)) e71 (g := (mkF m 8 #[.val (.long wa), .second, .val (.long wb), .second, .val (.int mode), .val (.int narrow), .val (.ref b71), .unset, .unset, .unset, .unset, .unset, .unset, .unset, .unset, .unset] [(.int (8 : Int32))])) rfl (hb hby at_8) rfl (by decide) (cap := 8) (by decide) (by decide) (by decide) (by decide)
  obtain ⟨b72, g72⟩ : ∃ z, z = h71.size := ⟨_, rfl⟩
  rw [← g72] at A72 st72
  have g_b72 : n0 ≤ b72 := Nat.le_trans (Nat.le_trans Z0 E71.1) (Nat.le_of_eq g72.symm)
  have ne_b71_b72 : b71 ≠ b72 := Nat.ne_of_lt (Nat.lt_of_lt_of_le V_b71.lt (Nat.le_of_eq g72.symm))
  have V_b72 : Arv Z h72 b72 k72 .int (8 : Int32) [(.int (0 : Int32)), (.int (0 : Int32)), (.int (0 : Int32)), (.int (0 : Int32)), (.int (0 : Int32)), (.int (0 : Int32)), (.int (0 : Int32)), (.int (0 : Int32))] (.int (0 : Int32)) := (Arv.new A72 (by decide)).pad (pad_rep [] (.int (0 : Int32)) 8)
  refine own_stepW st72 ?_
  show own_GoW p e below s _ _ _ (T72.setTop (mkF m 10 #[.val (.long wa), .second, .val (.long wb), .second, .val (.int mode), .val (.int narrow), .val (.ref b71), .unset, .unset, .unset, .unset, .unset, .unset, .unset, .unset, .unset] [(.ref b72)]))
  refine own_stepW (B := T72.setTop (mkF m 12 #[.val (.long wa), .second, .val (.long wb), .second, .val (.int mode), .val (.int narrow), .val (.ref b71), .val (.ref b72), .unset, .unset, .unset, .unset, .unset, .unset, .unset, .unset] [])) (fun t k => ?_) ?_
  · show Steps p.tables e below (T72.setTop (mkF m 10 #[.val (.long wa), .second, .val (.long wb), .second, .val (.int mode), .val (.int narrow), .val (.ref b71), .unset, .unset, .unset, .unset, .unset, .unset, .unset, .unset, .unset] [(.ref b72)])) _
    refine XS.astore X72.here hx rfl (hb hby at_10) rfl rfl (l' := #[.val (.long wa), .second, .val (.long wb), .second, .val (.int mode), .val (.int narrow), .val (.ref b71), .val (.ref b72), .unset, .unset, .unset, .unset, .unset, .unset, .unset, .unset]) rfl ?_
    exact k
  exact contB0 b71 b72 k71 k72 _ _ _ _ X72 e72 hS0 (Nat.le_trans (Nat.le_trans hk0 E71.1) E72.1) hZ hown N0 ((Keep.refl h0 []).ext E71 |>.ext E72) (Nat.le_of_eq g71.symm) (Nat.le_trans E71.1 (Nat.le_of_eq g72.symm)) ne_b71_b72 (V_b71.ext E72) V_b72
set_option maxRecDepth 65536 in
set_option maxHeartbeats 40000000 in
theorem comes_1 {Post : Tables → Env → Array Value → State → Outcome → State → Prop} (hpost : ∀ tb e args s v u, (limb_1_1.after args s (.returned v) u = true ∧ limb_1_2.after args s (.returned v) u = true ∧ True) → ReturnedEndW s (.returned v) u (Jvm.fieldLocs frame_1_writes args s ++ Jvm.arrayLocs frame_1_arrays args s ++ Jvm.staticLocs frame_1_statics s) 16 1152 → Post tb e args s (.returned v) u) :
    ArmFor flags0 classFile x code maxLocals ret World_1 tables_1 room_1 Calls_1 rest_1 Pre_1 Post := by
  intro l hfl _ _ p e ha hc hk s m args below hf hA hF happ hP
  obtain ⟨hcalls, hrest, hpre⟩ := hP
  obtain ⟨-, -, -, hnamed, -, -, -, hat⟩ := (Spec.applies_iff hf).mp happ
  obtain ⟨hg, hn⟩ := and_e (Cond.before_iff.mp (show (Jvm.Cond.and given_1 narrow_1).before args s = true from hpre))
  obtain ⟨g1, g2⟩ := and_e hg
  obtain ⟨g3, g4⟩ := and_e g2
  obtain ⟨g5, g6⟩ := and_e g4
  obtain ⟨g7, g8⟩ := and_e g6
  obtain ⟨w0, w1, w2, w3, rfl⟩ : ∃ w0 w1 w2 w3 : Value, args = #[w0, w1, w2, w3] := by
    have hs : args.size = 4 := by simpa [Cond.value, given_1] using g1
    obtain ⟨L⟩ := args
    match L, hs with
    | [w0, w1, w2, w3], _ => exact ⟨w0, w1, w2, w3, rfl⟩
  have hw := fun d (hd : d ∈ tables_1) => atoms_spec (ws := Jvm.Cond.code x code maxLocals ret :: tables_1) hat d (List.mem_cons_of_mem _ hd)
  have hfit : Fit s := fun {y c} hc i hi => by
    obtain ⟨ha, rfl⟩ := Array.getElem?_eq_some_iff.mp hc
    have q := List.all_eq_true.mp ((Array.all_eq_true_iff_forall_mem.mp hF) _ (Array.getElem_mem ha)) i (List.mem_range.mpr hi)
    simpa [Array.getElem?_eq_getElem hi] using q
  obtain ⟨hsets, hown0⟩ := atoms_of _ (rest_1_c_eq ▸ (show rest_1_c.before _ s = true from hrest))
  have hr0 := Cond.before_iff.mp hown0
  obtain ⟨i0, ei0⟩ := isL_v g3
  obtain rfl : w0 = (.long i0) := Option.some.inj ei0
  obtain ⟨i1, ei1⟩ := isL_v g5
  obtain rfl : w1 = (.long i1) := Option.some.inj ei1
  obtain ⟨i2, ei2⟩ := is_v g7
  obtain rfl : w2 = (.int i2) := Option.some.inj ei2
  obtain ⟨i3, ei3⟩ := is_v g8
  obtain rfl : w3 = (.int i3) := Option.some.inj ei3
  have hcw : Jvm.Lit.compactW.before _ s = true := (hsets _ (List.mem_of_getElem? (i := 2) rfl))
  obtain ⟨cs, evC⟩ := is_v (Cond.before_iff.mp (hsets _ (List.mem_of_getElem? (i := 1) rfl)))
  have S_C := Sta.start evC (Or.inl (hsets _ (List.mem_of_getElem? (i := 0) rfl)))
  have hcs : ¬ (cs = (0 : Int32)) := by rintro rfl; have q := not_v (Cond.before_iff.mp (hsets _ (List.mem_of_getElem? (i := 2) rfl))); rw [eq_i evC rfl rfl] at q; cases q
  obtain ⟨vf, evF, hvf⟩ := isR_v (Cond.before_iff.mp (hsets _ (List.mem_of_getElem? (i := 8) rfl)))
  have S_F := Sta.start evF (Or.inl (hsets _ (List.mem_of_getElem? (i := 7) rfl)))
  obtain ⟨n, o, h1, h2, h3, _, L, rfl, ⟨rfl, N⟩, hq⟩ := rm0 l s _ hw tables_1 i0 i1 i2 i3 cs vf s.heap s.heap.size (Nat.le_refl _) (Old.start s) rfl hcw (hcalls.1 ("tidemark/RecordFormParseChecksumPinLaw", 22) (by simp [consts_1])) S_C hcs S_F hvf p e ha hc hk s m _ below hf ((Spec.applies_iff_loose hf).mp happ).1 ⟨rfl, State.Warmed39.refl s, rfl, IB.start⟩ trivial
  refine ⟨n, _, h1, h2, h3, hpost _ _ _ _ _ _ ⟨Cond.after_iff.mpr rfl, Cond.after_iff.mpr (eq_i res_at (Term.int_eval (1)) rfl), trivial⟩ ⟨hq.1, hq.2.1, hq.2.2.1, (hq.2.2.2.sift fun y hy => Or.inr (N y hy)).mono (by decide) (by decide)⟩⟩
theorem main_1_1 : Claimed_1_1 := comes_1 fun _ _ _ _ _ _ h hF => ⟨h.1, hF⟩
theorem main_1_2 : Claimed_1_2 := comes_1 fun _ _ _ _ _ _ h hF => ⟨h.2.1, hF⟩
end Jvm.Pilot.@@N@@
namespace Jvm.Pilot.@@N@@
open Jvm Jvm.ClassFile Sem Op Lib Jvm.Free Jvm.Stand Jvm.Pilot.@@N@@.Jvm.D
/-! MADE BY PROGRAM (witnessworld.py) out of the Statement's table words and the real class files: 19 classes; the members and pool entries that the words name. The judged class is class 1, her method 1. -/
namespace start1
open Jvm.ClassFile
def u (s : String) : CpInfo := .utf8 (stringToUtf16 s)
/-- a pool by its gaps: so many unusable entries, then the entry; so many at the end -/
def gap : Nat → List CpInfo → List CpInfo
  | 0, r => r
  | n + 1, r => .unusable :: gap n r
def poolList (es : List (Nat × CpInfo)) (last : Nat) : List CpInfo := es.foldr (fun e r => gap e.1 (e.2 :: r)) (gap last [])
def pool (es : List (Nat × CpInfo)) (last : Nat) : Array CpInfo := ⟨poolList es last⟩
def fileOf (pool : Array CpInfo) (this : Nat) (attrs : Array Attribute := #[]) (ms : Array MethodInfo := #[]) (fl : Nat := 33) (sup : Nat := 0) (ifs : Array Nat := #[]) (fds : Array FieldInfo := #[]) : ClassFile where
  minorVersion := 0
  majorVersion := 65
  constantPool := pool
  accessFlags := fl
  thisClass := this
  superClass := sup
  interfaces := ifs
  fields := fds
  methods := ms
  attributes := attrs
def plain (name : String) (sup : Option ClassId) : Class where
  name := name
  kind := .ordinary
  loader := none
  accessFlags := 33
  super := sup
  interfaces := #[]
  cf := none
  fields := #[]
  methods := #[]
  instanceTypes := #[]
  staticTypes := #[]
  resolved := #[]
  callSites := []
  init := .initialized
  statics := none
  mirror := none

def pool0 : Array CpInfo := pool [(5, u "<init>"), (0, u "()V"), (1, .class_ 10), (1, u "java/lang/Object")] 113

def k0m0 : Method := { name := "<init>", desc := "()V", sig := { parameters := [], returnType := none }, accessFlags := 1, code := none }
/-- java/lang/Object -/
def k0 : Class := { plain "java/lang/Object" none with
  accessFlags := 33
  interfaces := #[]
  cf := some (fileOf pool0 8 #[] #[{ accessFlags := 1, nameIndex := 5, descriptorIndex := 6, attributes := #[] }] 33 0 #[] #[])
  fields := #[]
  methods := #[k0m0]
  instanceTypes := #[]
  staticTypes := #[]
  resolved := Array.replicate 124 none
  statics := none }

def pool1 : Array CpInfo := pool [(2, .class_ 4), (1, u "java/lang/Object"), (0, u "<init>"), (0, u "()V"), (0, .methodref 8 9), (0, .class_ 10), (0, .nameAndType 11 12), (0, u "tidemark/RecordFormParseChecksumPinLaw"), (0, u "draw"), (0, u "([C[IIJII)V"), (0, .methodref 14 15), (0, .class_ 16), (0, .nameAndType 17 18), (0, u "tidemark/RecordForm"), (0, u "parseChecksum"), (0, u "([CII)J"), (0, .long 18446744073709551615), (1, .integer 65535), (0, .string 23), (0, u "0123456789abcdef"), (0, .methodref 25 26), (0, .class_ 27), (0, .nameAndType 28 29), (0, u "java/lang/String"), (0, u "charAt"), (0, u "(I)C"), (0, .methodref 8 31), (0, .nameAndType 32 33), (0, u "nib"), (0, u "(C)I"), (2, u "law"), (0, u "(JJII)Z")] 7

def k1m0 : Method := { name := "<init>", desc := "()V", sig := { parameters := [], returnType := none }, accessFlags := 1, code := none }
def k1c1 : Code := { maxStack := 7, maxLocals := 16, code := code, exceptionTable := #[], attributes := #[] }
def k1m1 : Method := { name := "law", desc := "(JJII)Z", sig := { parameters := [.long, .long, .int, .int], returnType := some .boolean }, accessFlags := 9, code := some k1c1 }
def k1c2 : Code := { maxStack := 5, maxLocals := 10, code := method_3_code, exceptionTable := #[], attributes := #[] }
def k1m2 : Method := { name := "draw", desc := "([C[IIJII)V", sig := { parameters := [(.array .char), (.array .int), .int, .long, .int, .int], returnType := none }, accessFlags := 10, code := some k1c2 }
def k1c3 : Code := { maxStack := 2, maxLocals := 1, code := method_4_code, exceptionTable := #[], attributes := #[] }
def k1m3 : Method := { name := "nib", desc := "(C)I", sig := { parameters := [.char], returnType := some .int }, accessFlags := 10, code := some k1c3 }
/-- tidemark/RecordFormParseChecksumPinLaw -/
def k1 : Class := { plain "tidemark/RecordFormParseChecksumPinLaw" (some 0) with
  accessFlags := 49
  interfaces := #[]
  cf := some (fileOf pool1 8 #[] #[{ accessFlags := 1, nameIndex := 5, descriptorIndex := 6, attributes := #[] }, { accessFlags := 9, nameIndex := 36, descriptorIndex := 37, attributes := #[] }, { accessFlags := 10, nameIndex := 11, descriptorIndex := 12, attributes := #[] }, { accessFlags := 10, nameIndex := 32, descriptorIndex := 33, attributes := #[] }] 49 2 #[] #[])
  fields := #[]
  methods := #[k1m0, k1m1, k1m2, k1m3]
  instanceTypes := #[]
  staticTypes := #[]
  resolved := Array.replicate 45 none
  statics := none }

def pool2 : Array CpInfo := pool [(2, .class_ 4), (1, u "java/lang/Object"), (3, .class_ 10), (1, u "tidemark/RecordForm"), (0, u "header"), (0, u "Ljava/lang/String;"), (2, u "kind"), (70, .class_ 88), (1, u "tidemark/RecordForm$Content"), (21, u "parseChecksum"), (0, u "([CII)J"), (44, .long 18446744073709551615), (32, u "CHECKSUM_DIGITS"), (0, u "I")] 50

def k2c0 : Code := { maxStack := 4, maxLocals := 8, code := prog_62_method_15_code, exceptionTable := #[], attributes := #[] }
def k2m0 : Method := { name := "parseChecksum", desc := "([CII)J", sig := { parameters := [(.array .char), .int, .int], returnType := some .long }, accessFlags := 8, code := some k2c0 }
/-- tidemark/RecordForm -/
def k2 : Class := { plain "tidemark/RecordForm" (some 0) with
  accessFlags := 48
  interfaces := #[]
  cf := some (fileOf pool2 8 #[.nestMembers #[86]] #[{ accessFlags := 8, nameIndex := 110, descriptorIndex := 111, attributes := #[] }] 48 2 #[] #[{ accessFlags := 26, nameIndex := 189, descriptorIndex := 190, attributes := #[] }, { accessFlags := 18, nameIndex := 11, descriptorIndex := 12, attributes := #[] }, { accessFlags := 18, nameIndex := 15, descriptorIndex := 12, attributes := #[] }])
  fields := #[{ name := "CHECKSUM_DIGITS", type := .int, accessFlags := 26, slot := 0, constantValue := 0 }, { name := "header", type := (.object "java/lang/String"), accessFlags := 18, slot := 0, constantValue := 0 }, { name := "kind", type := (.object "java/lang/String"), accessFlags := 18, slot := 1, constantValue := 0 }]
  methods := #[k2m0]
  instanceTypes := #[(.object "java/lang/String"), (.object "java/lang/String")]
  staticTypes := #[.int]
  resolved := Array.replicate 241 none
  statics := none }

def pool3 : Array CpInfo := pool [(1, .class_ 2), (0, u "java/io/Serializable"), (0, .class_ 4), (0, u "java/lang/Object")] 2

/-- java/io/Serializable -/
def k3 : Class := { plain "java/io/Serializable" (some 0) with
  accessFlags := 1537
  interfaces := #[]
  cf := some (fileOf pool3 1 #[] #[] 1537 3 #[] #[])
  fields := #[]
  methods := #[]
  instanceTypes := #[]
  staticTypes := #[]
  resolved := Array.replicate 7 none
  statics := none }

def pool4 : Array CpInfo := pool [(1, .class_ 2), (0, u "java/lang/Comparable"), (0, .class_ 4), (0, u "java/lang/Object")] 7

/-- java/lang/Comparable -/
def k4 : Class := { plain "java/lang/Comparable" (some 0) with
  accessFlags := 1537
  interfaces := #[]
  cf := some (fileOf pool4 1 #[] #[] 1537 3 #[] #[])
  fields := #[]
  methods := #[]
  instanceTypes := #[]
  staticTypes := #[]
  resolved := Array.replicate 12 none
  statics := none }

def pool5 : Array CpInfo := pool [(2, .class_ 4), (1, u "java/lang/CharSequence"), (42, .class_ 48), (0, u "java/lang/CharSequence$1CodePointIterator"), (10, .class_ 60), (0, u "java/lang/CharSequence$1CharIterator"), (5, .class_ 67), (0, u "java/lang/Object")] 63

/-- java/lang/CharSequence -/
def k5 : Class := { plain "java/lang/CharSequence" (some 0) with
  accessFlags := 1537
  interfaces := #[]
  cf := some (fileOf pool5 2 #[.nestMembers #[47, 59]] #[] 1537 66 #[] #[])
  fields := #[]
  methods := #[]
  instanceTypes := #[]
  staticTypes := #[]
  resolved := Array.replicate 131 none
  statics := none }

def pool6 : Array CpInfo := pool [(1, .class_ 2), (0, u "java/lang/constant/Constable"), (0, .class_ 4), (0, u "java/lang/Object")] 6

/-- java/lang/constant/Constable -/
def k6 : Class := { plain "java/lang/constant/Constable" (some 0) with
  accessFlags := 1537
  interfaces := #[]
  cf := some (fileOf pool6 1 #[] #[] 1537 3 #[] #[])
  fields := #[]
  methods := #[]
  instanceTypes := #[]
  staticTypes := #[]
  resolved := Array.replicate 11 none
  statics := none }

def pool7 : Array CpInfo := pool [(1, .class_ 2), (0, u "java/lang/constant/ConstantDesc"), (0, .class_ 4), (0, u "java/lang/Object")] 32

/-- java/lang/constant/ConstantDesc -/
def k7 : Class := { plain "java/lang/constant/ConstantDesc" (some 0) with
  accessFlags := 1537
  interfaces := #[]
  cf := some (fileOf pool7 1 #[] #[] 1537 3 #[] #[])
  fields := #[]
  methods := #[]
  instanceTypes := #[]
  staticTypes := #[]
  resolved := Array.replicate 37 none
  statics := none }

def pool8 : Array CpInfo := pool [(2, .class_ 4), (1, u "java/lang/Object"), (0, u "<init>"), (0, u "()V"), (2, .fieldref 10 11), (0, .class_ 12), (0, .nameAndType 13 14), (0, u "java/lang/String"), (0, u "value"), (0, u "[B"), (0, .fieldref 10 16), (0, .nameAndType 17 18), (0, u "coder"), (0, u "B"), (2, u "hash"), (0, u "I"), (2, u "hashIsZero"), (0, u "Z"), (11, .fieldref 10 39), (0, .nameAndType 40 26), (0, u "COMPACT_STRINGS"), (66, .class_ 109), (1, u "java/lang/StringLatin1"), (32, u "()Z"), (220, u "([BI)C"), (27, u "(II)V"), (35, u "(I)C"), (64, .methodref 10 493), (0, .nameAndType 494 142), (0, u "isLatin1"), (0, .methodref 107 496), (0, .nameAndType 497 363), (0, u "charAt"), (3, u "checkIndex"), (73, .class_ 576), (0, u "java/lang/CharSequence"), (22, u "CASE_INSENSITIVE_ORDER"), (0, u "Ljava/util/Comparator;"), (452, .fieldref 1054 1055), (0, .class_ 1056), (0, .nameAndType 1057 1058), (0, u "jdk/internal/util/Preconditions"), (0, u "SIOOBE_FORMATTER"), (0, u "Ljava/util/function/BiFunction;"), (0, .methodref 1054 1060), (0, .nameAndType 501 1061), (0, u "(IILjava/util/function/BiFunction;)I"), (39, u "serialPersistentFields"), (0, u "[Ljava/io/ObjectStreamField;"), (0, .class_ 1104), (0, u "java/lang/String$CaseInsensitiveComparator"), (1, .class_ 1107), (0, u "java/io/Serializable"), (0, .class_ 1109), (0, u "java/lang/Comparable"), (0, .class_ 1111), (0, u "java/lang/constant/Constable"), (0, .class_ 1113), (0, u "java/lang/constant/ConstantDesc"), (2, u "serialVersionUID"), (0, u "J"), (3, u "REPL"), (0, u "C"), (2, u "LATIN1"), (1, u "UTF16")] 323

def k8m0 : Method := { name := "<init>", desc := "()V", sig := { parameters := [], returnType := none }, accessFlags := 1, code := none }
def k8c1 : Code := { maxStack := 2, maxLocals := 2, code := jdk_42_method_56_code, exceptionTable := #[], attributes := #[] }
def k8m1 : Method := { name := "charAt", desc := "(I)C", sig := { parameters := [.int], returnType := some .char }, accessFlags := 1, code := some k8c1 }
def k8c2 : Code := { maxStack := 1, maxLocals := 1, code := jdk_42_method_154_code, exceptionTable := #[], attributes := #[] }
def k8m2 : Method := { name := "isLatin1", desc := "()Z", sig := { parameters := [], returnType := some .boolean }, accessFlags := 0, code := some k8c2 }
def k8c3 : Code := { maxStack := 3, maxLocals := 2, code := jdk_42_method_155_code, exceptionTable := #[], attributes := #[] }
def k8m3 : Method := { name := "checkIndex", desc := "(II)V", sig := { parameters := [.int, .int], returnType := none }, accessFlags := 8, code := some k8c3 }
/-- java/lang/String -/
def k8 : Class := { plain "java/lang/String" (some 0) with
  accessFlags := 49
  interfaces := #[3, 4, 5, 6, 7]
  cf := some (fileOf pool8 10 #[.nestMembers #[1103]] #[{ accessFlags := 1, nameIndex := 5, descriptorIndex := 6, attributes := #[] }, { accessFlags := 1, nameIndex := 497, descriptorIndex := 427, attributes := #[] }, { accessFlags := 0, nameIndex := 494, descriptorIndex := 142, attributes := #[] }, { accessFlags := 8, nameIndex := 501, descriptorIndex := 391, attributes := #[] }] 49 2 #[1106, 1108, 575, 1110, 1112] #[{ accessFlags := 18, nameIndex := 13, descriptorIndex := 14, attributes := #[] }, { accessFlags := 18, nameIndex := 17, descriptorIndex := 18, attributes := #[] }, { accessFlags := 2, nameIndex := 21, descriptorIndex := 22, attributes := #[] }, { accessFlags := 2, nameIndex := 25, descriptorIndex := 26, attributes := #[] }, { accessFlags := 26, nameIndex := 1116, descriptorIndex := 1117, attributes := #[] }, { accessFlags := 24, nameIndex := 40, descriptorIndex := 26, attributes := #[] }, { accessFlags := 26, nameIndex := 1101, descriptorIndex := 1102, attributes := #[] }, { accessFlags := 26, nameIndex := 1121, descriptorIndex := 1122, attributes := #[] }, { accessFlags := 25, nameIndex := 599, descriptorIndex := 600, attributes := #[] }, { accessFlags := 24, nameIndex := 1125, descriptorIndex := 18, attributes := #[] }, { accessFlags := 24, nameIndex := 1127, descriptorIndex := 18, attributes := #[] }])
  fields := #[{ name := "value", type := (.array .byte), accessFlags := 18, slot := 0, constantValue := 0 }, { name := "coder", type := .byte, accessFlags := 18, slot := 1, constantValue := 0 }, { name := "hash", type := .int, accessFlags := 2, slot := 2, constantValue := 0 }, { name := "hashIsZero", type := .boolean, accessFlags := 2, slot := 3, constantValue := 0 }, { name := "serialVersionUID", type := .long, accessFlags := 26, slot := 0, constantValue := 0 }, { name := "COMPACT_STRINGS", type := .boolean, accessFlags := 24, slot := 1, constantValue := 0 }, { name := "serialPersistentFields", type := (.array (.object "java/io/ObjectStreamField")), accessFlags := 26, slot := 2, constantValue := 0 }, { name := "REPL", type := .char, accessFlags := 26, slot := 3, constantValue := 0 }, { name := "CASE_INSENSITIVE_ORDER", type := (.object "java/util/Comparator"), accessFlags := 25, slot := 4, constantValue := 0 }, { name := "LATIN1", type := .byte, accessFlags := 24, slot := 5, constantValue := 0 }, { name := "UTF16", type := .byte, accessFlags := 24, slot := 6, constantValue := 0 }]
  methods := #[k8m0, k8m1, k8m2, k8m3]
  instanceTypes := #[(.array .byte), .byte, .int, .boolean]
  staticTypes := #[.long, .boolean, (.array (.object "java/io/ObjectStreamField")), .char, (.object "java/util/Comparator"), .byte, .byte]
  resolved := Array.replicate 1451 none
  statics := some 0 }

def pool9 : Array CpInfo := pool [(1, .class_ 2), (0, u "java/lang/String"), (1, .class_ 6), (1, u "java/lang/Object"), (0, u "<init>"), (0, u "()V"), (0, .methodref 1 10), (0, .nameAndType 11 12), (0, u "checkIndex"), (0, u "(II)V"), (1, .class_ 16), (1, u "java/lang/StringLatin1"), (36, u "([BI)C"), (67, u "$assertionsDisabled"), (0, u "Z"), (98, .class_ 223), (1, u "java/lang/StringLatin1$LinesSpliterator"), (28, u "charAt"), (137, .class_ 391), (0, u "java/lang/StringLatin1$CharsSpliterator")] 3

def k9m0 : Method := { name := "<init>", desc := "()V", sig := { parameters := [], returnType := none }, accessFlags := 0, code := none }
def k9c1 : Code := { maxStack := 2, maxLocals := 2, code := jdk_43_method_2_code, exceptionTable := #[], attributes := #[] }
def k9m1 : Method := { name := "charAt", desc := "([BI)C", sig := { parameters := [(.array .byte), .int], returnType := some .char }, accessFlags := 9, code := some k9c1 }
/-- java/lang/StringLatin1 -/
def k9 : Class := { plain "java/lang/StringLatin1" (some 0) with
  accessFlags := 48
  interfaces := #[]
  cf := some (fileOf pool9 14 #[.nestMembers #[390, 221]] #[{ accessFlags := 0, nameIndex := 7, descriptorIndex := 8, attributes := #[] }, { accessFlags := 9, nameIndex := 252, descriptorIndex := 53, attributes := #[] }] 48 4 #[] #[{ accessFlags := 4120, nameIndex := 121, descriptorIndex := 122, attributes := #[] }])
  fields := #[{ name := "$assertionsDisabled", type := .boolean, accessFlags := 4120, slot := 0, constantValue := 0 }]
  methods := #[k9m0, k9m1]
  instanceTypes := #[]
  staticTypes := #[.boolean]
  resolved := Array.replicate 395 none
  statics := none }

def pool10 : Array CpInfo := pool [(2, .class_ 4), (1, u "java/lang/Object"), (0, u "<init>"), (0, u "()V"), (17, .class_ 26), (1, u "jdk/internal/util/Preconditions"), (6, u "checkIndex"), (21, .class_ 56), (0, u "jdk/internal/util/Preconditions$4"), (57, .class_ 115), (0, u "jdk/internal/util/Preconditions$1"), (7, u "SIOOBE_FORMATTER"), (0, u "Ljava/util/function/BiFunction;"), (0, .class_ 126), (0, u "jdk/internal/util/Preconditions$2"), (3, u "AIOOBE_FORMATTER"), (0, .class_ 132), (0, u "jdk/internal/util/Preconditions$3"), (3, u "IOOBE_FORMATTER"), (41, u "(IILjava/util/function/BiFunction;)I")] 15

def k10m0 : Method := { name := "<init>", desc := "()V", sig := { parameters := [], returnType := none }, accessFlags := 1, code := none }
def k10c1 : Code := { maxStack := 3, maxLocals := 3, code := jdk_41_method_11_code, exceptionTable := #[], attributes := #[] }
def k10m1 : Method := { name := "checkIndex", desc := "(IILjava/util/function/BiFunction;)I", sig := { parameters := [.int, .int, (.object "java/util/function/BiFunction")], returnType := some .int }, accessFlags := 9, code := some k10c1 }
/-- jdk/internal/util/Preconditions -/
def k10 : Class := { plain "jdk/internal/util/Preconditions" (some 0) with
  accessFlags := 33
  interfaces := #[]
  cf := some (fileOf pool10 24 #[.nestMembers #[55, 131, 125, 114]] #[{ accessFlags := 1, nameIndex := 5, descriptorIndex := 6, attributes := #[] }, { accessFlags := 9, nameIndex := 33, descriptorIndex := 178, attributes := #[] }] 33 2 #[] #[{ accessFlags := 25, nameIndex := 123, descriptorIndex := 124, attributes := #[] }, { accessFlags := 25, nameIndex := 130, descriptorIndex := 124, attributes := #[] }, { accessFlags := 25, nameIndex := 136, descriptorIndex := 124, attributes := #[] }])
  fields := #[{ name := "SIOOBE_FORMATTER", type := (.object "java/util/function/BiFunction"), accessFlags := 25, slot := 0, constantValue := 0 }, { name := "AIOOBE_FORMATTER", type := (.object "java/util/function/BiFunction"), accessFlags := 25, slot := 1, constantValue := 0 }, { name := "IOOBE_FORMATTER", type := (.object "java/util/function/BiFunction"), accessFlags := 25, slot := 2, constantValue := 0 }]
  methods := #[k10m0, k10m1]
  instanceTypes := #[]
  staticTypes := #[(.object "java/util/function/BiFunction"), (.object "java/util/function/BiFunction"), (.object "java/util/function/BiFunction")]
  resolved := Array.replicate 194 none
  statics := some 1 }

def pool11 : Array CpInfo := pool [(9, u "<init>"), (6, .class_ 18), (1, u "java/lang/Object"), (0, u "()V"), (1, .class_ 23), (1, u "jdk/internal/util/ArraysSupport"), (0, u "LOG2_ARRAY_LONG_INDEX_SCALE"), (0, u "I"), (2, u "U"), (0, u "Ljdk/internal/misc/Unsafe;"), (8, u "BIG_ENDIAN"), (0, u "Z"), (8, u "LOG2_BYTE_BIT_SIZE"), (4, u "LOG2_ARRAY_INT_INDEX_SCALE"), (54, u "JLA"), (0, u "Ljdk/internal/access/JavaLangAccess;"), (11, u "LOG2_ARRAY_BOOLEAN_INDEX_SCALE"), (9, u "LOG2_ARRAY_BYTE_INDEX_SCALE"), (5, u "LOG2_ARRAY_CHAR_INDEX_SCALE"), (5, u "LOG2_ARRAY_SHORT_INDEX_SCALE"), (18, u "LOG2_ARRAY_FLOAT_INDEX_SCALE"), (24, u "LOG2_ARRAY_DOUBLE_INDEX_SCALE"), (89, u "T_BOOLEAN"), (2, u "T_CHAR"), (1, u "T_FLOAT"), (1, u "T_DOUBLE"), (1, u "T_BYTE"), (1, u "T_SHORT"), (1, u "T_INT"), (1, u "T_LONG"), (1, u "SOFT_MAX_ARRAY_LENGTH")] 83

def k11m0 : Method := { name := "<init>", desc := "()V", sig := { parameters := [], returnType := none }, accessFlags := 2, code := none }
/-- jdk/internal/util/ArraysSupport -/
def k11 : Class := { plain "jdk/internal/util/ArraysSupport" (some 0) with
  accessFlags := 33
  interfaces := #[]
  cf := some (fileOf pool11 21 #[] #[{ accessFlags := 2, nameIndex := 9, descriptorIndex := 19, attributes := #[] }] 33 16 #[] #[{ accessFlags := 24, nameIndex := 28, descriptorIndex := 29, attributes := #[] }, { accessFlags := 26, nameIndex := 38, descriptorIndex := 39, attributes := #[] }, { accessFlags := 25, nameIndex := 121, descriptorIndex := 25, attributes := #[] }, { accessFlags := 25, nameIndex := 131, descriptorIndex := 25, attributes := #[] }, { accessFlags := 25, nameIndex := 137, descriptorIndex := 25, attributes := #[] }, { accessFlags := 25, nameIndex := 143, descriptorIndex := 25, attributes := #[] }, { accessFlags := 25, nameIndex := 53, descriptorIndex := 25, attributes := #[] }, { accessFlags := 25, nameIndex := 24, descriptorIndex := 25, attributes := #[] }, { accessFlags := 25, nameIndex := 162, descriptorIndex := 25, attributes := #[] }, { accessFlags := 25, nameIndex := 187, descriptorIndex := 25, attributes := #[] }, { accessFlags := 26, nameIndex := 48, descriptorIndex := 25, attributes := #[] }, { accessFlags := 25, nameIndex := 277, descriptorIndex := 25, attributes := #[] }, { accessFlags := 25, nameIndex := 280, descriptorIndex := 25, attributes := #[] }, { accessFlags := 25, nameIndex := 282, descriptorIndex := 25, attributes := #[] }, { accessFlags := 25, nameIndex := 284, descriptorIndex := 25, attributes := #[] }, { accessFlags := 25, nameIndex := 286, descriptorIndex := 25, attributes := #[] }, { accessFlags := 25, nameIndex := 288, descriptorIndex := 25, attributes := #[] }, { accessFlags := 25, nameIndex := 290, descriptorIndex := 25, attributes := #[] }, { accessFlags := 25, nameIndex := 292, descriptorIndex := 25, attributes := #[] }, { accessFlags := 26, nameIndex := 108, descriptorIndex := 109, attributes := #[] }, { accessFlags := 25, nameIndex := 294, descriptorIndex := 25, attributes := #[] }])
  fields := #[{ name := "U", type := (.object "jdk/internal/misc/Unsafe"), accessFlags := 24, slot := 0, constantValue := 0 }, { name := "BIG_ENDIAN", type := .boolean, accessFlags := 26, slot := 1, constantValue := 0 }, { name := "LOG2_ARRAY_BOOLEAN_INDEX_SCALE", type := .int, accessFlags := 25, slot := 2, constantValue := 0 }, { name := "LOG2_ARRAY_BYTE_INDEX_SCALE", type := .int, accessFlags := 25, slot := 3, constantValue := 0 }, { name := "LOG2_ARRAY_CHAR_INDEX_SCALE", type := .int, accessFlags := 25, slot := 4, constantValue := 0 }, { name := "LOG2_ARRAY_SHORT_INDEX_SCALE", type := .int, accessFlags := 25, slot := 5, constantValue := 0 }, { name := "LOG2_ARRAY_INT_INDEX_SCALE", type := .int, accessFlags := 25, slot := 6, constantValue := 0 }, { name := "LOG2_ARRAY_LONG_INDEX_SCALE", type := .int, accessFlags := 25, slot := 7, constantValue := 0 }, { name := "LOG2_ARRAY_FLOAT_INDEX_SCALE", type := .int, accessFlags := 25, slot := 8, constantValue := 0 }, { name := "LOG2_ARRAY_DOUBLE_INDEX_SCALE", type := .int, accessFlags := 25, slot := 9, constantValue := 0 }, { name := "LOG2_BYTE_BIT_SIZE", type := .int, accessFlags := 26, slot := 10, constantValue := 0 }, { name := "T_BOOLEAN", type := .int, accessFlags := 25, slot := 11, constantValue := 0 }, { name := "T_CHAR", type := .int, accessFlags := 25, slot := 12, constantValue := 0 }, { name := "T_FLOAT", type := .int, accessFlags := 25, slot := 13, constantValue := 0 }, { name := "T_DOUBLE", type := .int, accessFlags := 25, slot := 14, constantValue := 0 }, { name := "T_BYTE", type := .int, accessFlags := 25, slot := 15, constantValue := 0 }, { name := "T_SHORT", type := .int, accessFlags := 25, slot := 16, constantValue := 0 }, { name := "T_INT", type := .int, accessFlags := 25, slot := 17, constantValue := 0 }, { name := "T_LONG", type := .int, accessFlags := 25, slot := 18, constantValue := 0 }, { name := "JLA", type := (.object "jdk/internal/access/JavaLangAccess"), accessFlags := 26, slot := 19, constantValue := 0 }, { name := "SOFT_MAX_ARRAY_LENGTH", type := .int, accessFlags := 25, slot := 20, constantValue := 0 }]
  methods := #[k11m0]
  instanceTypes := #[]
  staticTypes := #[(.object "jdk/internal/misc/Unsafe"), .boolean, .int, .int, .int, .int, .int, .int, .int, .int, .int, .int, .int, .int, .int, .int, .int, .int, .int, (.object "jdk/internal/access/JavaLangAccess"), .int]
  resolved := Array.replicate 378 none
  statics := none }

def pool12 : Array CpInfo := pool [(1, u "java/lang/Cloneable"), (0, .class_ 1), (0, u "java/lang/Object"), (0, .class_ 3)] 3

/-- java/lang/Cloneable -/
def k12 : Class := { plain "java/lang/Cloneable" (some 0) with
  accessFlags := 1537
  interfaces := #[]
  cf := some (fileOf pool12 2 #[] #[] 1537 4 #[] #[])
  fields := #[]
  methods := #[]
  instanceTypes := #[]
  staticTypes := #[]
  resolved := Array.replicate 8 none
  statics := none }

/-- the primitive byte -/
def k13 : Class := { plain "byte" none with kind := .primitive 'B', accessFlags := 0x411 }
/-- [B -/
def k14 : Class := { plain "[B" (some 0) with kind := .array 13 .byte, interfaces := #[12, 3], accessFlags := 1041 }

/-- the primitive char -/
def k15 : Class := { plain "char" none with kind := .primitive 'C', accessFlags := 0x411 }
/-- [C -/
def k16 : Class := { plain "[C" (some 0) with kind := .array 15 .char, interfaces := #[12, 3], accessFlags := 1041 }

/-- the primitive int -/
def k17 : Class := { plain "int" none with kind := .primitive 'I', accessFlags := 0x411 }
/-- [I -/
def k18 : Class := { plain "[I" (some 0) with kind := .array 17 .int, interfaces := #[12, 3], accessFlags := 1041 }

def heap : Heap := #[{ cls := 8, slots := #[.long 0, .int 1, .null, .int 0, .null, .int 0, .int 0], vm := .statics 8 },
  { cls := 10, slots := #[.null, .null, .null], vm := .statics 10 }]
def classes : Array Class := #[k0, k1, k2, k3, k4, k5, k6, k7, k8, k9, k10, k11, k12, k13, k14, k15, k16, k17, k18]
def interned : List (Array UInt16 × Addr) := []
def slotsUsed : Nat := 10
def theMethod : MethodId := ⟨1, 1⟩
def args0 : Array Value := #[.long 5, .long 5, .int 5, .int 5]
def aboutOver (below : List Frame) : State where
  vm := { classes := classes, interned := interned.toArray }
  heap := heap
  slotsUsed := slotsUsed
  threads := #[{ frames := .invoking theMethod args0 :: below }]
def below0 : List Frame := [.native { method := ⟨0, 0⟩, args := #[] }]
def about1 : State := aboutOver below0
def p0 : Program := .bare "" "" ""
def e0 : Env := launch0.env 0 0 0
theorem w_frames : about1.frames = Frame.invoking theMethod args0 :: below0 := rfl
set_option maxRecDepth 65536 in
theorem w_args : argsFit about1.vm theMethod args0 = true := by decide +kernel
set_option maxRecDepth 65536 in
theorem w_heap : heapFits about1 = true := by decide +kernel
set_option maxRecDepth 65536 in
theorem w_runnable : about1.curStatus? = some .runnable := by decide +kernel
set_option maxRecDepth 65536 in
theorem w_alone : about1.alone = true := by decide +kernel
set_option maxRecDepth 65536 in
theorem w_named : about1.methodNamed? x = some theMethod := by decide +kernel
set_option maxRecDepth 65536 in
theorem w_hears : about1.hears theMethod below0 = true := by decide +kernel
set_option maxRecDepth 65536 in
theorem w_ripe : about1.ripe theMethod args0 below0 = true := by decide +kernel
theorem w_running : about1.status = .running := rfl
set_option maxRecDepth 65536 in
theorem w_room : about1.hasRoom e0.platform room_1 = true :=
  launch0.hasRoom_least _ room_1 (by decide +kernel) (by decide +kernel) (by decide +kernel) (by decide +kernel) (by decide +kernel) (by decide +kernel)
theorem allAtoms_all (ts : List Jvm.Cond) (a : Array Jvm.Value) (st : Jvm.State) : (allAtoms ts).before a st = ts.all (fun c => c.before a st) := by
  induction ts with
  | nil => rfl
  | cons c t ih =>
    show (Jvm.Cond.and c (allAtoms t)).before a st = _
    rw [Jvm.Cond.before_and, ih, List.all_cons]
def words1 : List Jvm.Cond := Jvm.Cond.code x code maxLocals ret :: tables_1
/-- a 'code' word, met by the world's own term for the bytes: nothing is compared byte by byte -/
theorem code_word {y : MethodName} {bytes : ByteArray} {mx : Nat} {rt : Option FieldType} {a : Array Value} {s : State} {m : MethodId} {meth : Method} {c : Code} (h1 : s.methodNamed? y = some m) (h2 : s.vm.method? m = some meth) (h3 : meth.code = some c) (h4 : c.code = bytes)
    (h5 : (c.maxLocals == mx && c.exceptionTable.isEmpty && decide (c.maxStack ≤ mostOperands) && decide (meth.sig.returnType = rt) && !meth.locks && decide (parseMethodDescriptor y.desc = some meth.sig)) = true) : (Jvm.Cond.code y bytes mx rt).before a s = true := by
  simp only [Bool.and_eq_true, beq_iff_eq, Bool.not_eq_true', decide_eq_true_eq] at h5
  obtain ⟨⟨⟨⟨⟨g1, g2⟩, g3⟩, g4⟩, g5⟩, g6⟩ := h5
  simp [Cond.before, Cond.holds, Cond.value, h1, h2, h3, h4, g1, g2, g3, g4, g5, g6]
def isCode : Jvm.Cond → Bool
  | .code _ _ _ _ => true
  | _ => false
theorem all_split {L : List Jvm.Cond} {P : Jvm.Cond → Bool} (h1 : L.all (fun c => isCode c || P c) = true) (h2 : ∀ c ∈ L.filter isCode, P c = true) : L.all P = true := by
  refine List.all_eq_true.mpr fun c hc => ?_
  have h := List.all_eq_true.mp h1 c hc
  rcases Bool.eq_false_or_eq_true (isCode c) with hi | hi
  · exact h2 c (List.mem_filter.mpr ⟨hc, hi⟩)
  · simpa [hi] using h
set_option maxRecDepth 65536 in
theorem w_c0 : (Jvm.Cond.code x code maxLocals ret).before args0 about1 = true := code_word (m := ⟨1, 1⟩) (meth := k1m1) (c := k1c1) (by decide +kernel) rfl rfl rfl (by decide +kernel)
set_option maxRecDepth 65536 in
theorem w_c1 : (Jvm.Cond.code ({ cls := "tidemark/RecordFormParseChecksumPinLaw", name := "draw", desc := "([C[IIJII)V" } : Jvm.MethodName) method_3_code (10 : Nat) (Option.none : Option Jvm.ClassFile.FieldType)).before args0 about1 = true := code_word (m := ⟨1, 2⟩) (meth := k1m2) (c := k1c2) (by decide +kernel) rfl rfl rfl (by decide +kernel)
set_option maxRecDepth 65536 in
theorem w_c2 : (Jvm.Cond.code ({ cls := "tidemark/RecordFormParseChecksumPinLaw", name := "nib", desc := "(C)I" } : Jvm.MethodName) method_4_code (1 : Nat) (Option.some Jvm.ClassFile.FieldType.int)).before args0 about1 = true := code_word (m := ⟨1, 3⟩) (meth := k1m3) (c := k1c3) (by decide +kernel) rfl rfl rfl (by decide +kernel)
set_option maxRecDepth 65536 in
theorem w_c3 : (Jvm.Cond.code ({ cls := "tidemark/RecordForm", name := "parseChecksum", desc := "([CII)J" } : Jvm.MethodName) prog_62_method_15_code (8 : Nat) (Option.some Jvm.ClassFile.FieldType.long)).before args0 about1 = true := code_word (m := ⟨2, 0⟩) (meth := k2m0) (c := k2c0) (by decide +kernel) rfl rfl rfl (by decide +kernel)
set_option maxRecDepth 65536 in
theorem w_c4 : (Jvm.Cond.code ({ cls := "java/lang/String", name := "charAt", desc := "(I)C" } : Jvm.MethodName) jdk_42_method_56_code (2 : Nat) (Option.some Jvm.ClassFile.FieldType.char)).before args0 about1 = true := code_word (m := ⟨8, 1⟩) (meth := k8m1) (c := k8c1) (by decide +kernel) rfl rfl rfl (by decide +kernel)
set_option maxRecDepth 65536 in
theorem w_c5 : (Jvm.Cond.code ({ cls := "java/lang/String", name := "isLatin1", desc := "()Z" } : Jvm.MethodName) jdk_42_method_154_code (1 : Nat) (Option.some Jvm.ClassFile.FieldType.boolean)).before args0 about1 = true := code_word (m := ⟨8, 2⟩) (meth := k8m2) (c := k8c2) (by decide +kernel) rfl rfl rfl (by decide +kernel)
set_option maxRecDepth 65536 in
theorem w_c6 : (Jvm.Cond.code ({ cls := "java/lang/StringLatin1", name := "charAt", desc := "([BI)C" } : Jvm.MethodName) jdk_43_method_2_code (2 : Nat) (Option.some Jvm.ClassFile.FieldType.char)).before args0 about1 = true := code_word (m := ⟨9, 1⟩) (meth := k9m1) (c := k9c1) (by decide +kernel) rfl rfl rfl (by decide +kernel)
set_option maxRecDepth 65536 in
theorem w_c7 : (Jvm.Cond.code ({ cls := "java/lang/String", name := "checkIndex", desc := "(II)V" } : Jvm.MethodName) jdk_42_method_155_code (2 : Nat) (Option.none : Option Jvm.ClassFile.FieldType)).before args0 about1 = true := code_word (m := ⟨8, 3⟩) (meth := k8m3) (c := k8c3) (by decide +kernel) rfl rfl rfl (by decide +kernel)
set_option maxRecDepth 65536 in
theorem w_c8 : (Jvm.Cond.code ({ cls := "jdk/internal/util/Preconditions", name := "checkIndex", desc := "(IILjava/util/function/BiFunction;)I" } : Jvm.MethodName) jdk_41_method_11_code (3 : Nat) (Option.some Jvm.ClassFile.FieldType.int)).before args0 about1 = true := code_word (m := ⟨10, 1⟩) (meth := k10m1) (c := k10c1) (by decide +kernel) rfl rfl rfl (by decide +kernel)
def codes1 : List Jvm.Cond := [Jvm.Cond.code x code maxLocals ret, Jvm.Cond.code ({ cls := "tidemark/RecordFormParseChecksumPinLaw", name := "draw", desc := "([C[IIJII)V" } : Jvm.MethodName) method_3_code (10 : Nat) (Option.none : Option Jvm.ClassFile.FieldType), Jvm.Cond.code ({ cls := "tidemark/RecordFormParseChecksumPinLaw", name := "nib", desc := "(C)I" } : Jvm.MethodName) method_4_code (1 : Nat) (Option.some Jvm.ClassFile.FieldType.int), Jvm.Cond.code ({ cls := "tidemark/RecordForm", name := "parseChecksum", desc := "([CII)J" } : Jvm.MethodName) prog_62_method_15_code (8 : Nat) (Option.some Jvm.ClassFile.FieldType.long), Jvm.Cond.code ({ cls := "java/lang/String", name := "charAt", desc := "(I)C" } : Jvm.MethodName) jdk_42_method_56_code (2 : Nat) (Option.some Jvm.ClassFile.FieldType.char), Jvm.Cond.code ({ cls := "java/lang/String", name := "isLatin1", desc := "()Z" } : Jvm.MethodName) jdk_42_method_154_code (1 : Nat) (Option.some Jvm.ClassFile.FieldType.boolean), Jvm.Cond.code ({ cls := "java/lang/StringLatin1", name := "charAt", desc := "([BI)C" } : Jvm.MethodName) jdk_43_method_2_code (2 : Nat) (Option.some Jvm.ClassFile.FieldType.char), Jvm.Cond.code ({ cls := "java/lang/String", name := "checkIndex", desc := "(II)V" } : Jvm.MethodName) jdk_42_method_155_code (2 : Nat) (Option.none : Option Jvm.ClassFile.FieldType), Jvm.Cond.code ({ cls := "jdk/internal/util/Preconditions", name := "checkIndex", desc := "(IILjava/util/function/BiFunction;)I" } : Jvm.MethodName) jdk_41_method_11_code (3 : Nat) (Option.some Jvm.ClassFile.FieldType.int)]
set_option maxRecDepth 65536 in
theorem codes_eq : words1.filter isCode = codes1 := rfl
theorem w_codes : ∀ c ∈ words1.filter isCode, c.before args0 about1 = true := by
  rw [codes_eq]
  intro c hc
  simp only [codes1, List.mem_cons, List.not_mem_nil, or_false] at hc
  rcases hc with rfl | rfl | rfl | rfl | rfl | rfl | rfl | rfl | rfl
  · exact w_c0
  · exact w_c1
  · exact w_c2
  · exact w_c3
  · exact w_c4
  · exact w_c5
  · exact w_c6
  · exact w_c7
  · exact w_c8
set_option maxRecDepth 65536 in
theorem w_t1 : (words1.take 24).all (fun c => isCode c || c.before args0 about1) = true := by decide +kernel
set_option maxRecDepth 65536 in
theorem w_t2 : ((words1.drop 24).take 24).all (fun c => isCode c || c.before args0 about1) = true := by decide +kernel
set_option maxRecDepth 65536 in
theorem w_t3 : ((words1.drop 24).drop 24).all (fun c => isCode c || c.before args0 about1) = true := by decide +kernel
theorem w_tables : (allAtoms (Jvm.Cond.code x code maxLocals ret :: tables_1)).before args0 about1 = true := by
  rw [allAtoms_all]
  show words1.all (fun c => c.before args0 about1) = true
  refine all_split ?_ w_codes
  rw [← List.take_append_drop 24 words1, List.all_append, w_t1, ← List.take_append_drop 24 (words1.drop 24), List.all_append, w_t2, w_t3]
  rfl
set_option maxRecDepth 65536 in
theorem w_rest : rest_1_c.before args0 about1 = true := by decide +kernel
set_option maxRecDepth 65536 in
theorem w_case : (Jvm.Cond.and given_1 narrow_1).before args0 about1 = true := by decide +kernel
set_option maxRecDepth 65536 in
theorem w_consts : constsHeld consts_1 about1 := Jvm.Lit.constsHeldB_iff.mp (by decide +kernel)
theorem w_applies : (headSpec (Jvm.Cond.code x code maxLocals ret :: tables_1) room_1).applies x e0.platform about1 = true :=
  (Spec.applies_iff w_frames).mpr ⟨w_running, w_runnable, w_alone, w_named, w_hears, w_ripe, w_room, w_tables⟩
theorem atStart : AtStart classFile x code maxLocals ret World_1 tables_1 room_1 Calls_1 rest_1 Pre_1 launch0 p0 e0 about1 theMethod args0 below0 :=
  ⟨lists_1, trivial, launch0.admits_env _ _ _, launch0.least_env, fairChoices_fair.cas, fairChoices_fair.clock, w_frames, w_args, w_heap, w_applies, ⟨w_consts, trivial⟩, w_rest, w_case⟩
end start1
theorem witness_1 : WitnessClaimed_1 := ⟨start1.p0, start1.e0, start1.about1, start1.theMethod, start1.args0, start1.below0, start1.atStart⟩
end Jvm.Pilot.@@N@@
