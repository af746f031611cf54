import JvmDerived
import JvmDerived.Pilot.@@N@@Statement
import JvmDerived.Pilot.@@N@@Code
set_option linter.unusedVariables false
set_option linter.unusedSimpArgs false
@@BLOCK:NumsL.lean.txt@@
namespace Jvm.RoadKit
open Sem ClassFile Op Lib Jvm.Stand Jvm.Free Jvm.LawKit
section New
variable {p : Program} {l : Launch} {e : Env} {R : Room} {s : State} {m : MethodId} {args : Array Value} {below : List Frame} {meth : Method} {c : Code} {T : State} {locs : List Loc} {cells slots : Nat}
theorem retI (X : Stand p l e R s m args below meth c T locs cells slots) (hx : p.tables.exec = Jvm.exec) {pc : Nat} {Ls : Array Slot} {z : Int32} {rest : List Value} (hret : meth.sig.returnType = some .int) (hd : decode c.code pc = .ok (.ireturn, 1)) {fs : List Frame}
    (hl : ∀ (f : JFrame) (acts : List Action), f.method = m → f.locked = none → f.entered = [] → (doReturn e (T.setTop f) acts (some (.int z))).1 = T.setFrames fs) : Steps p.tables e below (T.setTop (mkF m pc Ls (.int z :: rest))) (T.setFrames fs) := by
  have hm' : T.vm.method? m = some meth := X.method'
  have hn : narrow .int (.int z) = .int z := rfl
  show Steps p.tables e below (T.setTop { method := m, pc := pc, locals := Ls, stack := _ :: rest, locked := none }) _
  jvm_step X.here [X.here.top, hx, hd, hm', hret, hn]
  first | (intro acts; rw [hl _ acts rfl rfl rfl]) | rw [hl _ _ rfl rfl rfl]
  exact Steps.refl _
end New
end Jvm.RoadKit
namespace Jvm.Pilot.@@N@@
open Jvm Jvm.ClassFile Sem Op Lib Jvm.Free Jvm.Stand Jvm.LawKit Jvm.RoadKit Bundle Jvm.Pilot.@@N@@.Jvm.D
section OwnGo
variable {p : Program} {l : Launch} {e : Env} {R : Room} {s : State} {m : MethodId} {args : Array Value} {below : List Frame} {meth : Method} {c : Code} {T : State} {locs : List Loc} {cells slots : Nat}
/-- what a body owes from the state A on: the run comes to an end of the invocation with Q, within C cells and S slots -/
def own_Go (p : Program) (e : Env) (below : List Frame) (s : State) (Q : Option Value → Heap → List Loc → Prop) (C S : Nat) (A : State) : Prop :=
  ∃ s₂ o, Steps p.tables e below A s₂ ∧ s₂.status = .running ∧ Ended s₂ below o ∧ ∃ v L, o = .returned v ∧ Q v s₂.heap L ∧ FrameEnd s o s₂ L C S
variable {Q : Option Value → Heap → List Loc → Prop} {C S : Nat} {A B : State}
theorem own_step (h : ∀ t, Steps p.tables e below B t → Steps p.tables e below A t) (k : own_Go p e below s Q C S B) : own_Go p e below s Q C S A := by
  obtain ⟨s₂, o, h1, h2⟩ := k; exact ⟨s₂, o, h _ h1, h2⟩
theorem own_via (h : Steps p.tables e below A B) (k : own_Go p e below s Q C S B) : own_Go p e below s Q C S A := own_step (fun _ q => h.trans q) k
theorem own_retN (X : Stand p l e R s m args below meth c T locs cells slots) (hx : p.tables.exec = Jvm.exec) (hlocks : meth.locks = false) {pc : Nat} {Ls : Array Slot} {z : Int32} {t : FieldType} {rest : List Value} (hret : meth.sig.returnType = some t) (ht : t = .boolean ∨ t = .byte ∨ t = .char ∨ t = .short)
    (hd : decode c.code pc = .ok (.ireturn, 1)) (hq : Q (some (.int (nar t z))) T.heap locs) (hC : cells ≤ C) (hS : slots ≤ S) : own_Go p e below s Q C S (T.setTop (mkF m pc Ls (.int z :: rest))) := by
  obtain ⟨fs, hr, hrun, hended, hW, hsame⟩ := X.leave (v := some (.int (nar t z))) (fun h => by rw [hret] at h; cases h) hlocks
  exact ⟨_, _, retN X hx hret ht hd hr, hrun, hended, _, _, rfl, hq, ⟨_, rfl⟩, hW, hsame.mono hC hS⟩
theorem own_retI (X : Stand p l e R s m args below meth c T locs cells slots) (hx : p.tables.exec = Jvm.exec) (hlocks : meth.locks = false) {pc : Nat} {Ls : Array Slot} {z : Int32} {rest : List Value} (hret : meth.sig.returnType = some .int)
    (hd : decode c.code pc = .ok (.ireturn, 1)) (hq : Q (some (.int z)) T.heap locs) (hC : cells ≤ C) (hS : slots ≤ S) : own_Go p e below s Q C S (T.setTop (mkF m pc Ls (.int z :: rest))) := by
  obtain ⟨fs, hr, hrun, hended, hW, hsame⟩ := X.leave (v := some (.int z)) (fun h => by rw [hret] at h; cases h) hlocks
  exact ⟨_, _, retI X hx hret hd hr, hrun, hended, _, _, rfl, hq, ⟨_, rfl⟩, hW, hsame.mono hC hS⟩
theorem own_retJ (X : Stand p l e R s m args below meth c T locs cells slots) (hx : p.tables.exec = Jvm.exec) (hlocks : meth.locks = false) {pc : Nat} {Ls : Array Slot} {z : Int64} {rest : List Value} (hret : meth.sig.returnType = some .long)
    (hd : decode c.code pc = .ok (.lreturn, 1)) (hq : Q (some (.long z)) T.heap locs) (hC : cells ≤ C) (hS : slots ≤ S) : own_Go p e below s Q C S (T.setTop (mkF m pc Ls (.long z :: rest))) := by
  obtain ⟨fs, hr, hrun, hended, hW, hsame⟩ := X.leave (v := some (.long z)) (fun h => by rw [hret] at h; cases h) hlocks
  refine ⟨_, _, ?_, hrun, hended, _, _, rfl, hq, ⟨_, rfl⟩, hW, hsame.mono hC hS⟩
  have hm' : T.vm.method? m = some meth := X.method'
  show Steps p.tables e below (T.setTop { method := m, pc := pc, locals := Ls, stack := _ :: rest, locked := none }) _
  jvm_step X.here [X.here.top, hx, hd, hm', hret, narrow]
  first | (intro acts; rw [hr _ acts rfl rfl rfl]) | rw [hr _ _ rfl rfl rfl]
  exact Steps.refl _
theorem own_retV (X : Stand p l e R s m args below meth c T locs cells slots) (hx : p.tables.exec = Jvm.exec) (hlocks : meth.locks = false) {pc : Nat} {Ls : Array Slot} (hret : meth.sig.returnType = none)
    (hd : decode c.code pc = .ok (.return_, 1)) (hq : Q none T.heap locs) (hC : cells ≤ C) (hS : slots ≤ S) : own_Go p e below s Q C S (T.setTop (mkF m pc Ls [])) := by
  obtain ⟨fs, hr, hrun, hended, hW, hsame⟩ := X.leave (v := none) (fun _ => rfl) hlocks
  exact ⟨_, _, X.returnOut hx hret hd hr, hrun, hended, _, _, rfl, hq, ⟨_, rfl⟩, hW, hsame.mono hC hS⟩
theorem own_retR (X : Stand p l e R s m args below meth c T locs cells slots) (hx : p.tables.exec = Jvm.exec) (hlocks : meth.locks = false) {pc : Nat} {Ls : Array Slot} {v : Value} {t : FieldType} {rest : List Value} (hret : meth.sig.returnType = some t) (hv : v.isRef = true) (ht : t.isReference = true)
    (hd : decode c.code pc = .ok (.areturn, 1)) (hq : Q (some v) T.heap locs) (hC : cells ≤ C) (hS : slots ≤ S) : own_Go p e below s Q C S (T.setTop (mkF m pc Ls (v :: rest))) := by
  obtain ⟨fs, hr, hrun, hended, hW, hsame⟩ := X.leave (v := some v) (fun h => by rw [hret] at h; cases h) hlocks
  refine ⟨_, _, ?_, hrun, hended, _, _, rfl, hq, ⟨_, rfl⟩, hW, hsame.mono hC hS⟩
  have hm' : T.vm.method? m = some meth := X.method'
  show Steps p.tables e below (T.setTop { method := m, pc := pc, locals := Ls, stack := _ :: rest, locked := none }) _
  jvm_step X.here [X.here.top, hx, hd, hm', hret, hv, ht]
  first | (intro acts; rw [hr _ acts rfl rfl rfl]) | rw [hr _ _ rfl rfl rfl]
  exact Steps.refl _
theorem own_staKeep {Z : State} {h h' : Heap} {ws : List Addr} {C n d : String} {v : Value} (F : Sta Z h C n d v) (K : Keep h h' ws) (q : ∀ x ∈ ws, ∀ cell : Cell, h[x]? = some cell → cell.vm.isStatics = false) : Sta Z h' C n d v := by
  obtain ⟨cf, i, k, f, st, cell, h1, h2, h3, h4, h5, h6, h7⟩ := F
  exact ⟨cf, i, k, f, st, cell, h1, h2, h3, h4, K.2.1 st cell h5 (fun m => by have := q st m cell h5; rw [h6] at this; cases this), h6, h7⟩
/-- the same under the wide frame (a String constant may have been loaded) -/
def own_GoW (p : Program) (e : Env) (below : List Frame) (s : State) (Q : Option Value → Heap → List Loc → Prop) (C S : Nat) (A : State) : Prop :=
  ∃ s₂ o, Steps p.tables e below A s₂ ∧ s₂.status = .running ∧ Ended s₂ below o ∧ ∃ v L, o = .returned v ∧ Q v s₂.heap L ∧ ReturnedEndW s o s₂ L C S
theorem own_stepW (h : ∀ t, Steps p.tables e below B t → Steps p.tables e below A t) (k : own_GoW p e below s Q C S B) : own_GoW p e below s Q C S A := by
  obtain ⟨s₂, o, h1, h2⟩ := k; exact ⟨s₂, o, h _ h1, h2⟩
theorem own_viaW (h : Steps p.tables e below A B) (k : own_GoW p e below s Q C S B) : own_GoW p e below s Q C S A := own_stepW (fun _ q => h.trans q) k
theorem own_retNW {vm1 : Vm} {n : Nat} (X : Stand p l e R (s.setVm vm1) m args below meth c T locs cells slots) (hS : s.Since vm1 n) (hn : n ≤ T.heap.size) (hx : p.tables.exec = Jvm.exec) (hlocks : meth.locks = false) {pc : Nat} {Ls : Array Slot} {z : Int32} {t : FieldType} {rest : List Value} (hret : meth.sig.returnType = some t) (ht : t = .boolean ∨ t = .byte ∨ t = .char ∨ t = .short)
    (hd : decode c.code pc = .ok (.ireturn, 1)) (hq : Q (some (.int (nar t z))) T.heap locs) (hC : cells ≤ C) (hS' : slots ≤ S) : own_GoW p e below s Q C S (T.setTop (mkF m pc Ls (.int z :: rest))) := by
  obtain ⟨fs, hr, hrun, hended, h1, h2, h3, h4⟩ := X.leaveW hS hn (v := some (.int (nar t z))) (fun h => by rw [hret] at h; cases h) hlocks
  exact ⟨_, _, retN X hx hret ht hd hr, hrun, hended, _, _, rfl, hq, h1, h2, h3, h4.mono hC hS'⟩
theorem own_retVW {vm1 : Vm} {n : Nat} (X : Stand p l e R (s.setVm vm1) m args below meth c T locs cells slots) (hS : s.Since vm1 n) (hn : n ≤ T.heap.size) (hx : p.tables.exec = Jvm.exec) (hlocks : meth.locks = false) {pc : Nat} {Ls : Array Slot} (hret : meth.sig.returnType = none)
    (hd : decode c.code pc = .ok (.return_, 1)) (hq : Q none T.heap locs) (hC : cells ≤ C) (hS' : slots ≤ S) : own_GoW p e below s Q C S (T.setTop (mkF m pc Ls [])) := by
  obtain ⟨fs, hr, hrun, hended, h1, h2, h3, h4⟩ := X.leaveW hS hn (v := none) (fun _ => rfl) hlocks
  exact ⟨_, _, X.returnOut hx hret hd hr, hrun, hended, _, _, rfl, hq, h1, h2, h3, h4.mono hC hS'⟩
end OwnGo

def own_b (p : Prop) [Decidable p] : Int32 := if p then 1 else 0
theorem own_bt {p : Prop} [Decidable p] (h : p) : own_b p = 1 := if_pos h
theorem own_bf {p : Prop} [Decidable p] (h : ¬ p) : own_b p = 0 := if_neg h
theorem own_bn (p : Prop) [Decidable p] : narrow .boolean (.int (own_b p)) = .int (own_b p) := by unfold own_b; split <;> rfl
theorem own_bfit (p : Prop) [Decidable p] : fits .boolean (.int (own_b p)) = true := by unfold own_b; split <;> rfl
theorem own_iff {p q : Prop} [Decidable p] [Decidable q] (h : p ↔ q) : own_b p = own_b q := by unfold own_b; simp only [h]
theorem own_rd {Z : State} {h : Heap} {a : Addr} {k : ClassId} {N : Int32} {vs : List Value} {d : Value} (F : Arv Z h a k .byte N vs d) : ∃ cl, Arr Z h a cl .byte ∧ cl.slots.size.toInt32 = N ∧
    ∀ j : Int32, ¬ j < 0 → j < N → ¬ (j < 0 ∨ cl.slots.size ≤ j.toNatClampNeg) ∧ cl.slots[j.toNatClampNeg]? = some (vs.getD j.toNatClampNeg d) := by
  obtain ⟨cl, Ar, -, S, N0, Hs, -⟩ := F
  refine ⟨cl, Ar, len_of S N0, fun j h1 h2 => ?_⟩
  have hin := inb_of S ⟨h1, h2⟩
  exact ⟨hin, Has.at Hs hin rfl⟩
theorem own_ge {N a b : Int32} (h : ¬ N < a) (q : b < a) : b < N := by
  rw [Int32.lt_iff_toInt_lt] at *; omega
theorem own_n3 (x : Int32) : (x &&& (3 : Int32)) = 0 ∨ (x &&& (3 : Int32)) = 1 ∨ (x &&& (3 : Int32)) = 2 ∨ (x &&& (3 : Int32)) = 3 := by
  have e : (x &&& (3 : Int32)).toInt = x.toInt % 2 ^ 2 := Jvm.Kit.i32_mask x 3 (k := 2) (by decide) (by decide)
  have h : (x &&& (3 : Int32)).toInt = 0 ∨ (x &&& (3 : Int32)).toInt = 1 ∨ (x &&& (3 : Int32)).toInt = 2 ∨ (x &&& (3 : Int32)).toInt = 3 := by omega
  simp only [← Int32.toInt_inj]; exact h
theorem own_pos {N : Int32} (h : (0 : Int32) < N) : ¬ N = 0 := by rintro rfl; exact absurd h (by decide)
theorem own_zero {N : Int32} (h : ¬ (0 : Int32) < N) (q : ¬ N < 0) : N = 0 := by
  rw [Int32.lt_iff_toInt_lt] at *; rw [← Int32.toInt_inj]
  have e0 : (0 : Int32).toInt = 0 := rfl
  omega
def own_NC (p : Int32) : Prop := (¬ p < 65 ∧ ¬ 90 < p) ∨ (¬ p < 97 ∧ ¬ 122 < p) ∨ (¬ p < 48 ∧ ¬ 57 < p) ∨ p = 95 ∨ p = 46 ∨ p = 45
instance (p : Int32) : Decidable (own_NC p) := by unfold own_NC; infer_instance
theorem d9_0 : decode jdk_42_method_152_code 0 = .ok (.getstatic 38, 3) := by decide +kernel
theorem d9_3 : decode jdk_42_method_152_code 3 = .ok (.ifCond .eq 10, 3) := by decide +kernel
theorem d9_6 : decode jdk_42_method_152_code 6 = .ok (.aload_n 0, 1) := by decide +kernel
theorem d9_7 : decode jdk_42_method_152_code 7 = .ok (.getfield 15, 3) := by decide +kernel
theorem d9_10 : decode jdk_42_method_152_code 10 = .ok (.goto 4, 3) := by decide +kernel
theorem d9_13 : decode jdk_42_method_152_code 13 = .ok (.iconst 1, 1) := by decide +kernel
theorem d9_14 : decode jdk_42_method_152_code 14 = .ok (.ireturn, 1) := by decide +kernel
theorem pn_0 : plainName "java/lang/String" = true := by first | (simp [plainName, overriddenIn]; done) | decide +kernel
theorem ef_9 (m : MethodId) (a1 : Addr) : entryFrame m #[(.ref a1)] 1 = mkF m 0 #[.val (.ref a1)] [] := by first | (simp [entryFrame, mkF, argsToLocals, Value.category]; done) | rfl
def Q9 (Z : State) (a1 : Addr) (cs : Int32) (h0 : Heap) (n0 : Nat) (v : Option Value) (h : Heap) (L : List Loc) : Prop := v = some (.int (0 : Int32)) ∧ Fr n0 L ∧ h = h0
set_option maxRecDepth 65536 in
set_option maxHeartbeats 40000000 in
theorem rm9 (l : Launch) (Z : State) (a0 : Array Value) (hw : ∀ d ∈ tables_1, d.before a0 Z = true) (ws : List Jvm.Cond) (a1 : Addr) (cs : Int32) (h0 : Heap) (n0 : Nat) (Z0 : n0 ≤ h0.size) (F_c : Fld Z h0 a1 "java/lang/String" "coder" "B" (.int (0 : Int32))) (S_C : Sta Z h0 "java/lang/String" "COMPACT_STRINGS" "Z" (.int cs)) (hcs : ¬ (cs = (0 : Int32))) :
    MetFree l (⟨"java/lang/String", "coder", "()B"⟩ : MethodName) (head1 (Jvm.Cond.code (⟨"java/lang/String", "coder", "()B"⟩ : MethodName) jdk_42_method_152_code 1 (some .byte) :: ws) ({ frames := 0, cells := 0, slots := 0, locals := 0 } : Room)) (fun a U => a = #[(.ref a1)] ∧ Z.Warmed39 U.vm ∧ U.heap = h0) (fun _ _ _ _ _ => True) (fun _ U o U' => ∃ v L, o = .returned v ∧ Q9 Z a1 cs h0 n0 v U'.heap L ∧ FrameEnd U o U' L ({ frames := 0, cells := 0, slots := 0, locals := 0 } : Room).cells ({ frames := 0, cells := 0, slots := 0, locals := 0 } : Room).slots) := by
  refine MetFree.of_bodySF (plainFor_of_name pn_0) hisR ?_
  intro p e s m args below meth c s₁ Bd hml0 hP hK
  obtain ⟨rfl, hZ, hh⟩ := hP
  have hx := Bd.exec
  have hby := Bd.bytes
  have hml : c.maxLocals = 1 := hml0
  have hown : s.vm.findClass "java/lang/String" = some m.cls := findClass_of_methodNamed Bd.named
  have hnm := (name_of_methodNamed Bd.named Bd.method).1
  have X0 : Stand p l e ({ frames := 0, cells := 0, slots := 0, locals := 0 } : Room) s m #[(.ref a1)] below meth c s₁ [] 0 0 := Stand.of_body Bd
  have e0 : s₁.heap = h0 := by rw [← hh, Bd.state]; rfl
  have N0 := Fr.nil n0
  skip
  show own_Go p e below s (Q9 Z a1 cs h0 n0) ({ frames := 0, cells := 0, slots := 0, locals := 0 } : Room).cells ({ frames := 0, cells := 0, slots := 0, locals := 0 } : Room).slots _
  refine own_step (B := s₁.setTop (mkF m 0 #[.val (.ref a1)] [])) (fun t k => castTop (ef_9 m a1) k) ?_
  obtain ⟨T1, X1, e1, st1⟩ := getS2 X0 hx hZ hown (host := "") (Or.inl (hw _ (List.mem_of_getElem? (i := 65) rfl))) Via.refl e0 S_C (g := (mkF m 0 #[.val (.ref a1)] [])) rfl (hb hby d9_0)
  refine own_step st1 ?_
  show own_Go p e below s _ _ _ (T1.setTop (mkF m 3 #[.val (.ref a1)] [(.int cs)]))
  refine own_step (B := T1.setTop (mkF m 7 #[.val (.ref a1)] [(.ref a1)])) (fun t k => ?_) ?_
  · show Steps p.tables e below (T1.setTop (mkF m 3 #[.val (.ref a1)] [(.int cs)])) _
    refine XS.ifNo X1.here hx rfl (hb hby d9_3) rfl ((if0 _ _).trans (feq hcs).1) ?_
    refine XS.aloadN X1.here hx rfl (hb hby d9_6) rfl rfl ?_
    exact k
  obtain ⟨T2, X2, e2, st2⟩ := getF X1 hx hZ hown (host := "") (Or.inl (hw _ (List.mem_of_getElem? (i := 66) rfl))) Via.refl e1 F_c (g := (mkF m 7 #[.val (.ref a1)] [(.ref a1)])) rfl rfl (hb hby d9_7)
  refine own_step st2 ?_
  show own_Go p e below s _ _ _ (T2.setTop (mkF m 10 #[.val (.ref a1)] [(.int (0 : Int32))]))
  refine own_step (B := T2.setTop (mkF m 14 #[.val (.ref a1)] [(.int (0 : Int32))])) (fun t k => ?_) ?_
  · show Steps p.tables e below (T2.setTop (mkF m 10 #[.val (.ref a1)] [(.int (0 : Int32))])) _
    refine XS.goto X2.here hx rfl (pc0 := 10) (pc' := 14) rfl (hb hby d9_10) (by decide) (by decide) ?_
    exact k
  exact own_retN X2 hx Bd.notSynchronized (t := .byte) Bd.returns (by simp) (hb hby d9_14) ⟨rfl, N0, e2⟩ (by decide) (by decide)
theorem d11_0 : decode jdk_42_method_154_code 0 = .ok (.getstatic 38, 3) := by decide +kernel
theorem d11_3 : decode jdk_42_method_154_code 3 = .ok (.ifCond .eq 14, 3) := by decide +kernel
theorem d11_6 : decode jdk_42_method_154_code 6 = .ok (.aload_n 0, 1) := by decide +kernel
theorem d11_7 : decode jdk_42_method_154_code 7 = .ok (.getfield 15, 3) := by decide +kernel
theorem d11_10 : decode jdk_42_method_154_code 10 = .ok (.ifCond .ne 7, 3) := by decide +kernel
theorem d11_13 : decode jdk_42_method_154_code 13 = .ok (.iconst 1, 1) := by decide +kernel
theorem d11_14 : decode jdk_42_method_154_code 14 = .ok (.goto 4, 3) := by decide +kernel
theorem d11_17 : decode jdk_42_method_154_code 17 = .ok (.iconst 0, 1) := by decide +kernel
theorem d11_18 : decode jdk_42_method_154_code 18 = .ok (.ireturn, 1) := by decide +kernel
theorem ef_11 (m : MethodId) (a1 : Addr) : entryFrame m #[(.ref a1)] 1 = mkF m 0 #[.val (.ref a1)] [] := by first | (simp [entryFrame, mkF, argsToLocals, Value.category]; done) | rfl
def Q11 (Z : State) (a1 : Addr) (cs : Int32) (h0 : Heap) (n0 : Nat) (v : Option Value) (h : Heap) (L : List Loc) : Prop := v = some (.int (1 : Int32)) ∧ Fr n0 L ∧ h = h0
set_option maxRecDepth 65536 in
set_option maxHeartbeats 40000000 in
theorem rm11 (l : Launch) (Z : State) (a0 : Array Value) (hw : ∀ d ∈ tables_1, d.before a0 Z = true) (ws : List Jvm.Cond) (a1 : Addr) (cs : Int32) (h0 : Heap) (n0 : Nat) (Z0 : n0 ≤ h0.size) (F_c : Fld Z h0 a1 "java/lang/String" "coder" "B" (.int (0 : Int32))) (S_C : Sta Z h0 "java/lang/String" "COMPACT_STRINGS" "Z" (.int cs)) (hcs : ¬ (cs = (0 : Int32))) :
    MetFree l (⟨"java/lang/String", "isLatin1", "()Z"⟩ : MethodName) (head1 (Jvm.Cond.code (⟨"java/lang/String", "isLatin1", "()Z"⟩ : MethodName) jdk_42_method_154_code 1 (some .boolean) :: ws) ({ frames := 0, cells := 0, slots := 0, locals := 0 } : Room)) (fun a U => a = #[(.ref a1)] ∧ Z.Warmed39 U.vm ∧ U.heap = h0) (fun _ _ _ _ _ => True) (fun _ U o U' => ∃ v L, o = .returned v ∧ Q11 Z a1 cs h0 n0 v U'.heap L ∧ FrameEnd U o U' L ({ frames := 0, cells := 0, slots := 0, locals := 0 } : Room).cells ({ frames := 0, cells := 0, slots := 0, locals := 0 } : Room).slots) := by
  refine MetFree.of_bodySF (plainFor_of_name pn_0) hisR ?_
  intro p e s m args below meth c s₁ Bd hml0 hP hK
  obtain ⟨rfl, hZ, hh⟩ := hP
  have hx := Bd.exec
  have hby := Bd.bytes
  have hml : c.maxLocals = 1 := hml0
  have hown : s.vm.findClass "java/lang/String" = some m.cls := findClass_of_methodNamed Bd.named
  have hnm := (name_of_methodNamed Bd.named Bd.method).1
  have X0 : Stand p l e ({ frames := 0, cells := 0, slots := 0, locals := 0 } : Room) s m #[(.ref a1)] below meth c s₁ [] 0 0 := Stand.of_body Bd
  have e0 : s₁.heap = h0 := by rw [← hh, Bd.state]; rfl
  have N0 := Fr.nil n0
  skip
  show own_Go p e below s (Q11 Z a1 cs h0 n0) ({ frames := 0, cells := 0, slots := 0, locals := 0 } : Room).cells ({ frames := 0, cells := 0, slots := 0, locals := 0 } : Room).slots _
  refine own_step (B := s₁.setTop (mkF m 0 #[.val (.ref a1)] [])) (fun t k => castTop (ef_11 m a1) k) ?_
  obtain ⟨T1, X1, e1, st1⟩ := getS2 X0 hx hZ hown (host := "") (Or.inl (hw _ (List.mem_of_getElem? (i := 65) rfl))) Via.refl e0 S_C (g := (mkF m 0 #[.val (.ref a1)] [])) rfl (hb hby d11_0)
  refine own_step st1 ?_
  show own_Go p e below s _ _ _ (T1.setTop (mkF m 3 #[.val (.ref a1)] [(.int cs)]))
  refine own_step (B := T1.setTop (mkF m 7 #[.val (.ref a1)] [(.ref a1)])) (fun t k => ?_) ?_
  · show Steps p.tables e below (T1.setTop (mkF m 3 #[.val (.ref a1)] [(.int cs)])) _
    refine XS.ifNo X1.here hx rfl (hb hby d11_3) rfl ((if0 _ _).trans (feq hcs).1) ?_
    refine XS.aloadN X1.here hx rfl (hb hby d11_6) rfl rfl ?_
    exact k
  obtain ⟨T2, X2, e2, st2⟩ := getF X1 hx hZ hown (host := "") (Or.inl (hw _ (List.mem_of_getElem? (i := 66) rfl))) Via.refl e1 F_c (g := (mkF m 7 #[.val (.ref a1)] [(.ref a1)])) rfl rfl (hb hby d11_7)
  refine own_step st2 ?_
  show own_Go p e below s _ _ _ (T2.setTop (mkF m 10 #[.val (.ref a1)] [(.int (0 : Int32))]))
  refine own_step (B := T2.setTop (mkF m 18 #[.val (.ref a1)] [(.int (1 : Int32))])) (fun t k => ?_) ?_
  · show Steps p.tables e below (T2.setTop (mkF m 10 #[.val (.ref a1)] [(.int (0 : Int32))])) _
    refine XS.ifNo X2.here hx rfl (hb hby d11_10) rfl ((if0 _ _).trans (teq (by decide : ((0 : Int32) = (0 : Int32)))).2) ?_
    refine XS.iconst X2.here hx rfl (hb hby d11_13) ?_
    refine XS.goto X2.here hx rfl (pc0 := 14) (pc' := 18) rfl (hb hby d11_14) (by decide) (by decide) ?_
    exact k
  exact own_retN X2 hx Bd.notSynchronized (t := .boolean) Bd.returns (by simp) (hb hby d11_18) ⟨rfl, N0, e2⟩ (by decide) (by decide)
theorem d7_0 : decode jdk_42_method_55_code 0 = .ok (.aload_n 0, 1) := by decide +kernel
theorem d7_1 : decode jdk_42_method_55_code 1 = .ok (.getfield 9, 3) := by decide +kernel
theorem d7_4 : decode jdk_42_method_55_code 4 = .ok (.arraylength, 1) := by decide +kernel
theorem d7_5 : decode jdk_42_method_55_code 5 = .ok (.ifCond .ne 7, 3) := by decide +kernel
theorem d7_8 : decode jdk_42_method_55_code 8 = .ok (.iconst 1, 1) := by decide +kernel
theorem d7_9 : decode jdk_42_method_55_code 9 = .ok (.goto 4, 3) := by decide +kernel
theorem d7_12 : decode jdk_42_method_55_code 12 = .ok (.iconst 0, 1) := by decide +kernel
theorem d7_13 : decode jdk_42_method_55_code 13 = .ok (.ireturn, 1) := by decide +kernel
theorem ef_7 (m : MethodId) (a1 : Addr) : entryFrame m #[(.ref a1)] 1 = mkF m 0 #[.val (.ref a1)] [] := by first | (simp [entryFrame, mkF, argsToLocals, Value.category]; done) | rfl
def Q7 (Z : State) (a1 : Addr) (b : Addr) (cl : Cell) (ln : Int32) (h0 : Heap) (n0 : Nat) (v : Option Value) (h : Heap) (L : List Loc) : Prop := v = some (.int (0 : Int32)) ∧ Fr n0 L ∧ h = h0
set_option maxRecDepth 65536 in
set_option maxHeartbeats 40000000 in
theorem rm7 (l : Launch) (Z : State) (a0 : Array Value) (hw : ∀ d ∈ tables_1, d.before a0 Z = true) (ws : List Jvm.Cond) (a1 : Addr) (b : Addr) (cl : Cell) (ln : Int32) (h0 : Heap) (n0 : Nat) (Z0 : n0 ≤ h0.size) (F_v : Fld Z h0 a1 "java/lang/String" "value" "[B" (.ref b)) (Ar : Arr Z h0 b cl .byte) (hlen : cl.slots.size.toInt32 = ln) (hln : ¬ (ln = (0 : Int32))) :
    MetFree l (⟨"java/lang/String", "isEmpty", "()Z"⟩ : MethodName) (head1 (Jvm.Cond.code (⟨"java/lang/String", "isEmpty", "()Z"⟩ : MethodName) jdk_42_method_55_code 1 (some .boolean) :: ws) ({ frames := 0, cells := 0, slots := 0, locals := 0 } : Room)) (fun a U => a = #[(.ref a1)] ∧ Z.Warmed39 U.vm ∧ U.heap = h0) (fun _ _ _ _ _ => True) (fun _ U o U' => ∃ v L, o = .returned v ∧ Q7 Z a1 b cl ln h0 n0 v U'.heap L ∧ FrameEnd U o U' L ({ frames := 0, cells := 0, slots := 0, locals := 0 } : Room).cells ({ frames := 0, cells := 0, slots := 0, locals := 0 } : Room).slots) := by
  refine MetFree.of_bodySF (plainFor_of_name pn_0) hisR ?_
  intro p e s m args below meth c s₁ Bd hml0 hP hK
  obtain ⟨rfl, hZ, hh⟩ := hP
  have hx := Bd.exec
  have hby := Bd.bytes
  have hml : c.maxLocals = 1 := hml0
  have hown : s.vm.findClass "java/lang/String" = some m.cls := findClass_of_methodNamed Bd.named
  have hnm := (name_of_methodNamed Bd.named Bd.method).1
  have X0 : Stand p l e ({ frames := 0, cells := 0, slots := 0, locals := 0 } : Room) s m #[(.ref a1)] below meth c s₁ [] 0 0 := Stand.of_body Bd
  have e0 : s₁.heap = h0 := by rw [← hh, Bd.state]; rfl
  have N0 := Fr.nil n0
  skip
  show own_Go p e below s (Q7 Z a1 b cl ln h0 n0) ({ frames := 0, cells := 0, slots := 0, locals := 0 } : Room).cells ({ frames := 0, cells := 0, slots := 0, locals := 0 } : Room).slots _
  refine own_step (B := s₁.setTop (mkF m 0 #[.val (.ref a1)] [])) (fun t k => castTop (ef_7 m a1) k) ?_
  refine own_step (B := s₁.setTop (mkF m 1 #[.val (.ref a1)] [(.ref a1)])) (fun t k => ?_) ?_
  · show Steps p.tables e below (s₁.setTop (mkF m 0 #[.val (.ref a1)] [])) _
    refine XS.aloadN X0.here hx rfl (hb hby d7_0) rfl rfl ?_
    exact k
  obtain ⟨T1, X1, e1, st1⟩ := getF X0 hx hZ hown (host := "") (Or.inl (hw _ (List.mem_of_getElem? (i := 54) rfl))) Via.refl e0 F_v (g := (mkF m 1 #[.val (.ref a1)] [(.ref a1)])) rfl rfl (hb hby d7_1)
  refine own_step st1 ?_
  show own_Go p e below s _ _ _ (T1.setTop (mkF m 4 #[.val (.ref a1)] [(.ref b)]))
  refine own_step (B := T1.setTop (mkF m 13 #[.val (.ref a1)] [(.int (0 : Int32))])) (fun t k => ?_) ?_
  · show Steps p.tables e below (T1.setTop (mkF m 4 #[.val (.ref a1)] [(.ref b)])) _
    refine X1.arraylength hx (by rw [e1]; exact Ar.1) (State.isArrayOf_alike hZ.alike Ar.2.1) (g := (mkF m 4 #[.val (.ref a1)] [(.ref b)])) rfl rfl (hb hby d7_4) _ ?_
    rw [hlen]
    refine XS.ifYes X1.here hx rfl (pc0 := 5) (pc' := 12) rfl (hb hby d7_5) rfl ((if0 _ _).trans (feq hln).2) (by decide) (by decide) ?_
    refine XS.iconst X1.here hx rfl (hb hby d7_12) ?_
    exact k
  exact own_retN X1 hx Bd.notSynchronized (t := .boolean) Bd.returns (by simp) (hb hby d7_13) ⟨rfl, N0, e1⟩ (by decide) (by decide)
theorem d8_0 : decode jdk_42_method_54_code 0 = .ok (.aload_n 0, 1) := by decide +kernel
theorem d8_1 : decode jdk_42_method_54_code 1 = .ok (.getfield 9, 3) := by decide +kernel
theorem d8_4 : decode jdk_42_method_54_code 4 = .ok (.arraylength, 1) := by decide +kernel
theorem d8_5 : decode jdk_42_method_54_code 5 = .ok (.aload_n 0, 1) := by decide +kernel
theorem d8_6 : decode jdk_42_method_54_code 6 = .ok (.invokevirtual 335, 3) := by decide +kernel
theorem d8_9 : decode jdk_42_method_54_code 9 = .ok (.ishr, 1) := by decide +kernel
theorem d8_10 : decode jdk_42_method_54_code 10 = .ok (.ireturn, 1) := by decide +kernel
theorem pd_1 : parseMethodDescriptor "()B" = some ⟨[], some .byte⟩ := by decide +kernel
theorem own_shr0 (x : Int32) : x >>> ((0 : Int32) &&& 31) = x := by rw [show ((0 : Int32) &&& 31) = 0 from rfl]; exact Int32.shiftRight_zero
theorem ef_8 (m : MethodId) (a1 : Addr) : entryFrame m #[(.ref a1)] 1 = mkF m 0 #[.val (.ref a1)] [] := by first | (simp [entryFrame, mkF, argsToLocals, Value.category]; done) | rfl
def Q8 (Z : State) (a1 : Addr) (cs : Int32) (b : Addr) (cl : Cell) (ln : Int32) (h0 : Heap) (n0 : Nat) (v : Option Value) (h : Heap) (L : List Loc) : Prop := v = some (.int ln) ∧ Fr n0 L ∧ h = h0
set_option maxRecDepth 65536 in
set_option maxHeartbeats 40000000 in
theorem rm8 (l : Launch) (Z : State) (a0 : Array Value) (hw : ∀ d ∈ tables_1, d.before a0 Z = true) (ws : List Jvm.Cond) (a1 : Addr) (cs : Int32) (b : Addr) (cl : Cell) (ln : Int32) (h0 : Heap) (n0 : Nat) (Z0 : n0 ≤ h0.size) (E_a1 : Exa Z h0 a1 "java/lang/String") (F_c : Fld Z h0 a1 "java/lang/String" "coder" "B" (.int (0 : Int32))) (F_v : Fld Z h0 a1 "java/lang/String" "value" "[B" (.ref b)) (Ar : Arr Z h0 b cl .byte) (hlen : cl.slots.size.toInt32 = ln) (S_C : Sta Z h0 "java/lang/String" "COMPACT_STRINGS" "Z" (.int cs)) (hcs : ¬ (cs = (0 : Int32))) :
    MetFree l (⟨"java/lang/String", "length", "()I"⟩ : MethodName) (head1 (Jvm.Cond.code (⟨"java/lang/String", "length", "()I"⟩ : MethodName) jdk_42_method_54_code 1 (some .int) :: ws) ({ frames := 1, cells := 0, slots := 0, locals := 13 } : Room)) (fun a U => a = #[(.ref a1)] ∧ Z.Warmed39 U.vm ∧ U.heap = h0) (fun _ _ _ _ _ => True) (fun _ U o U' => ∃ v L, o = .returned v ∧ Q8 Z a1 cs b cl ln h0 n0 v U'.heap L ∧ FrameEnd U o U' L ({ frames := 1, cells := 0, slots := 0, locals := 13 } : Room).cells ({ frames := 1, cells := 0, slots := 0, locals := 13 } : Room).slots) := by
  refine MetFree.of_bodySF (plainFor_of_name pn_0) hisR ?_
  intro p e s m args below meth c s₁ Bd hml0 hP hK
  obtain ⟨rfl, hZ, hh⟩ := hP
  have hx := Bd.exec
  have hby := Bd.bytes
  have hml : c.maxLocals = 1 := hml0
  have hown : s.vm.findClass "java/lang/String" = some m.cls := findClass_of_methodNamed Bd.named
  have hnm := (name_of_methodNamed Bd.named Bd.method).1
  have X0 : Stand p l e ({ frames := 1, cells := 0, slots := 0, locals := 13 } : Room) s m #[(.ref a1)] below meth c s₁ [] 0 0 := Stand.of_body Bd
  have e0 : s₁.heap = h0 := by rw [← hh, Bd.state]; rfl
  have N0 := Fr.nil n0
  skip
  show own_Go p e below s (Q8 Z a1 cs b cl ln h0 n0) ({ frames := 1, cells := 0, slots := 0, locals := 13 } : Room).cells ({ frames := 1, cells := 0, slots := 0, locals := 13 } : Room).slots _
  refine own_step (B := s₁.setTop (mkF m 0 #[.val (.ref a1)] [])) (fun t k => castTop (ef_8 m a1) k) ?_
  refine own_step (B := s₁.setTop (mkF m 1 #[.val (.ref a1)] [(.ref a1)])) (fun t k => ?_) ?_
  · show Steps p.tables e below (s₁.setTop (mkF m 0 #[.val (.ref a1)] [])) _
    refine XS.aloadN X0.here hx rfl (hb hby d8_0) rfl rfl ?_
    exact k
  obtain ⟨T1, X1, e1, st1⟩ := getF X0 hx hZ hown (host := "") (Or.inl (hw _ (List.mem_of_getElem? (i := 54) rfl))) Via.refl e0 F_v (g := (mkF m 1 #[.val (.ref a1)] [(.ref a1)])) rfl rfl (hb hby d8_1)
  refine own_step st1 ?_
  show own_Go p e below s _ _ _ (T1.setTop (mkF m 4 #[.val (.ref a1)] [(.ref b)]))
  refine own_step (B := T1.setTop (mkF m 6 #[.val (.ref a1)] [(.ref a1), (.int ln)])) (fun t k => ?_) ?_
  · show Steps p.tables e below (T1.setTop (mkF m 4 #[.val (.ref a1)] [(.ref b)])) _
    refine X1.arraylength hx (by rw [e1]; exact Ar.1) (State.isArrayOf_alike hZ.alike Ar.2.1) (g := (mkF m 4 #[.val (.ref a1)] [(.ref b)])) rfl rfl (hb hby d8_4) _ ?_
    rw [hlen]
    refine XS.aloadN X1.here hx rfl (hb hby d8_5) rfl rfl ?_
    exact k
  obtain ⟨cq2, kq2, q2a, q2b, q2c⟩ := isOf hZ e1 E_a1
  obtain ⟨_, _, ⟨T2, L2, k2, n2⟩, -, X2, ⟨Lc2, hQ2, l2, y2, z2⟩, st2⟩ := X1.virtualBack hx (y := (⟨"java/lang/String", "coder", "()B"⟩ : MethodName)) (z := (⟨"java/lang/String", "coder", "()B"⟩ : MethodName)) hown (mvT hZ (hw _ (List.mem_of_getElem? (i := 60) rfl))) (mvT hZ (hw _ (List.mem_of_getElem? (i := 61) rfl))) (notFace_of_selects (args := #[]) (mvT hZ (hw _ (List.mem_of_getElem? (i := 63) rfl)))) (mvT hZ (hw _ (List.mem_of_getElem? (i := 63) rfl))) (mvT hZ (hw _ (List.mem_of_getElem? (i := 62) rfl))) (by decide) (backOf (W := 1) (rm9 l Z a0 hw [] a1 cs h0 n0 Z0 F_c S_C hcs) hZ (hw _ (List.mem_of_getElem? (i := 64) rfl)) (hw _ (List.mem_of_getElem? (i := 6) rfl)) (by decide) (by decide)) q2a q2c (g := (mkF m 6 #[.val (.ref a1)] [(.ref a1), (.int ln)])) rfl (by rw [hml]; rfl) (Steps.refl _) (argsL := []) (rest := [(.int ln)]) (lenOf pd_1 rfl) rfl (by show 2 * 0 + _ ≤ _; exact Nat.le_of_eq rfl) (hb hby d8_6) (fun _ _ => ⟨rfl, e1, (by decide : 0 + 0 ≤ _), (by decide : 0 + 0 ≤ _)⟩)
  dsimp only [Pt.U, Pt.locs, Pt.cells, Pt.slots] at X2 l2 y2 z2 st2 hQ2
  subst l2 y2 z2
  obtain ⟨rfl, N2q, e2⟩ := hQ2
  have N2 := Fr.app N0 N2q
  refine own_via st2 ?_
  show own_Go p e below s _ _ _ (T2.setTop (mkF m 9 #[.val (.ref a1)] [(.int (0 : Int32)), (.int ln)]))
  refine own_step (B := T2.setTop (mkF m 10 #[.val (.ref a1)] [(.int (ln >>> ((0 : Int32) &&& 31)))])) (fun t k => ?_) ?_
  · show Steps p.tables e below (T2.setTop (mkF m 9 #[.val (.ref a1)] [(.int (0 : Int32)), (.int ln)])) _
    refine XS.ishr X2.here hx rfl (hb hby d8_9) rfl ?_
    exact k
  exact own_retI X2 hx Bd.notSynchronized Bd.returns (hb hby d8_10) ⟨by show some (Value.int (ln >>> ((0 : Int32) &&& 31))) = _; rw [own_shr0], N2, e2⟩ (by decide) (by decide)
theorem d14_0 : decode jdk_41_method_11_code 0 = .ok (.iload_n 0, 1) := by decide +kernel
theorem d14_1 : decode jdk_41_method_11_code 1 = .ok (.ifCond .lt 8, 3) := by decide +kernel
theorem d14_4 : decode jdk_41_method_11_code 4 = .ok (.iload_n 0, 1) := by decide +kernel
theorem d14_5 : decode jdk_41_method_11_code 5 = .ok (.iload_n 1, 1) := by decide +kernel
theorem d14_6 : decode jdk_41_method_11_code 6 = .ok (.if_icmp .lt 10, 3) := by decide +kernel
theorem d14_9 : decode jdk_41_method_11_code 9 = .ok (.aload_n 2, 1) := by decide +kernel
theorem d14_10 : decode jdk_41_method_11_code 10 = .ok (.iload_n 0, 1) := by decide +kernel
theorem d14_11 : decode jdk_41_method_11_code 11 = .ok (.iload_n 1, 1) := by decide +kernel
theorem d14_12 : decode jdk_41_method_11_code 12 = .ok (.invokestatic 95, 3) := by decide +kernel
theorem d14_15 : decode jdk_41_method_11_code 15 = .ok (.athrow, 1) := by decide +kernel
theorem d14_16 : decode jdk_41_method_11_code 16 = .ok (.iload_n 0, 1) := by decide +kernel
theorem d14_17 : decode jdk_41_method_11_code 17 = .ok (.ireturn, 1) := by decide +kernel
theorem pn_2 : plainName "jdk/internal/util/Preconditions" = true := by first | (simp [plainName, overriddenIn]; done) | decide +kernel
theorem ef_14 (m : MethodId) (p1 : Int32) (p2 : Int32) (a3 : Addr) : entryFrame m #[(.int p1), (.int p2), (.ref a3)] 3 = mkF m 0 #[.val (.int p1), .val (.int p2), .val (.ref a3)] [] := by first | (simp [entryFrame, mkF, argsToLocals, Value.category]; done) | rfl
def Q14 (Z : State) (p1 : Int32) (p2 : Int32) (a3 : Addr)  (h0 : Heap) (n0 : Nat) (v : Option Value) (h : Heap) (L : List Loc) : Prop := v = some (.int p1) ∧ Fr n0 L ∧ h = h0
set_option maxRecDepth 65536 in
set_option maxHeartbeats 40000000 in
theorem rm14 (l : Launch) (Z : State) (a0 : Array Value) (hw : ∀ d ∈ tables_1, d.before a0 Z = true) (ws : List Jvm.Cond) (p1 : Int32) (p2 : Int32) (a3 : Addr)  (h0 : Heap) (n0 : Nat) (Z0 : n0 ≤ h0.size) (h1 : ¬ (p1 < (0 : Int32))) (h2 : p1 < p2) :
    MetFree l (⟨"jdk/internal/util/Preconditions", "checkIndex", "(IILjava/util/function/BiFunction;)I"⟩ : MethodName) (head1 (Jvm.Cond.code (⟨"jdk/internal/util/Preconditions", "checkIndex", "(IILjava/util/function/BiFunction;)I"⟩ : MethodName) jdk_41_method_11_code 3 (some .int) :: ws) ({ frames := 0, cells := 0, slots := 0, locals := 0 } : Room)) (fun a U => a = #[(.int p1), (.int p2), (.ref a3)] ∧ Z.Warmed39 U.vm ∧ U.heap = h0) (fun _ _ _ _ _ => True) (fun _ U o U' => ∃ v L, o = .returned v ∧ Q14 Z p1 p2 a3  h0 n0 v U'.heap L ∧ FrameEnd U o U' L ({ frames := 0, cells := 0, slots := 0, locals := 0 } : Room).cells ({ frames := 0, cells := 0, slots := 0, locals := 0 } : Room).slots) := by
  refine MetFree.of_bodySF (plainFor_of_name pn_2) hisR ?_
  intro p e s m args below meth c s₁ Bd hml0 hP hK
  obtain ⟨rfl, hZ, hh⟩ := hP
  have hx := Bd.exec
  have hby := Bd.bytes
  have hml : c.maxLocals = 3 := hml0
  have hown : s.vm.findClass "jdk/internal/util/Preconditions" = some m.cls := findClass_of_methodNamed Bd.named
  have hnm := (name_of_methodNamed Bd.named Bd.method).1
  have X0 : Stand p l e ({ frames := 0, cells := 0, slots := 0, locals := 0 } : Room) s m #[(.int p1), (.int p2), (.ref a3)] below meth c s₁ [] 0 0 := Stand.of_body Bd
  have e0 : s₁.heap = h0 := by rw [← hh, Bd.state]; rfl
  have N0 := Fr.nil n0
  skip
  show own_Go p e below s (Q14 Z p1 p2 a3  h0 n0) ({ frames := 0, cells := 0, slots := 0, locals := 0 } : Room).cells ({ frames := 0, cells := 0, slots := 0, locals := 0 } : Room).slots _
  refine own_step (B := s₁.setTop (mkF m 0 #[.val (.int p1), .val (.int p2), .val (.ref a3)] [])) (fun t k => castTop (ef_14 m p1 p2 a3) k) ?_
  refine own_step (B := s₁.setTop (mkF m 17 #[.val (.int p1), .val (.int p2), .val (.ref a3)] [(.int p1)])) (fun t k => ?_) ?_
  · show Steps p.tables e below (s₁.setTop (mkF m 0 #[.val (.int p1), .val (.int p2), .val (.ref a3)] [])) _
    refine XS.iloadN X0.here hx rfl (hb hby d14_0) rfl ?_
    refine XS.ifNo X0.here hx rfl (hb hby d14_1) rfl ((if0 _ _).trans (flt h1).1) ?_
    refine XS.iloadN X0.here hx rfl (hb hby d14_4) rfl ?_
    refine XS.iloadN X0.here hx rfl (hb hby d14_5) rfl ?_
    refine XS.icmpYes X0.here hx rfl (pc0 := 6) (pc' := 16) rfl (hb hby d14_6) rfl (tlt h2).1 (by decide) (by decide) ?_
    refine XS.iloadN X0.here hx rfl (hb hby d14_16) rfl ?_
    exact k
  exact own_retI X0 hx Bd.notSynchronized Bd.returns (hb hby d14_17) ⟨rfl, N0, e0⟩ (by decide) (by decide)
theorem ef_14n (m : MethodId) (p1 : Int32) (p2 : Int32) : entryFrame m #[(.int p1), (.int p2), .null] 3 = mkF m 0 #[.val (.int p1), .val (.int p2), .val .null] [] := by first | (simp [entryFrame, mkF, argsToLocals, Value.category]; done) | rfl
def Q14n (Z : State) (p1 : Int32) (p2 : Int32)  (h0 : Heap) (n0 : Nat) (v : Option Value) (h : Heap) (L : List Loc) : Prop := v = some (.int p1) ∧ Fr n0 L ∧ h = h0
set_option maxRecDepth 65536 in
set_option maxHeartbeats 40000000 in
theorem rm14n (l : Launch) (Z : State) (a0 : Array Value) (hw : ∀ d ∈ tables_1, d.before a0 Z = true) (ws : List Jvm.Cond) (p1 : Int32) (p2 : Int32)  (h0 : Heap) (n0 : Nat) (Z0 : n0 ≤ h0.size) (h1 : ¬ (p1 < (0 : Int32))) (h2 : p1 < p2) :
    MetFree l (⟨"jdk/internal/util/Preconditions", "checkIndex", "(IILjava/util/function/BiFunction;)I"⟩ : MethodName) (head1 (Jvm.Cond.code (⟨"jdk/internal/util/Preconditions", "checkIndex", "(IILjava/util/function/BiFunction;)I"⟩ : MethodName) jdk_41_method_11_code 3 (some .int) :: ws) ({ frames := 0, cells := 0, slots := 0, locals := 0 } : Room)) (fun a U => a = #[(.int p1), (.int p2), .null] ∧ Z.Warmed39 U.vm ∧ U.heap = h0) (fun _ _ _ _ _ => True) (fun _ U o U' => ∃ v L, o = .returned v ∧ Q14n Z p1 p2  h0 n0 v U'.heap L ∧ FrameEnd U o U' L ({ frames := 0, cells := 0, slots := 0, locals := 0 } : Room).cells ({ frames := 0, cells := 0, slots := 0, locals := 0 } : Room).slots) := by
  refine MetFree.of_bodySF (plainFor_of_name pn_2) hisR ?_
  intro p e s m args below meth c s₁ Bd hml0 hP hK
  obtain ⟨rfl, hZ, hh⟩ := hP
  have hx := Bd.exec
  have hby := Bd.bytes
  have hml : c.maxLocals = 3 := hml0
  have hown : s.vm.findClass "jdk/internal/util/Preconditions" = some m.cls := findClass_of_methodNamed Bd.named
  have hnm := (name_of_methodNamed Bd.named Bd.method).1
  have X0 : Stand p l e ({ frames := 0, cells := 0, slots := 0, locals := 0 } : Room) s m #[(.int p1), (.int p2), .null] below meth c s₁ [] 0 0 := Stand.of_body Bd
  have e0 : s₁.heap = h0 := by rw [← hh, Bd.state]; rfl
  have N0 := Fr.nil n0
  skip
  show own_Go p e below s (Q14n Z p1 p2  h0 n0) ({ frames := 0, cells := 0, slots := 0, locals := 0 } : Room).cells ({ frames := 0, cells := 0, slots := 0, locals := 0 } : Room).slots _
  refine own_step (B := s₁.setTop (mkF m 0 #[.val (.int p1), .val (.int p2), .val .null] [])) (fun t k => castTop (ef_14n m p1 p2) k) ?_
  refine own_step (B := s₁.setTop (mkF m 17 #[.val (.int p1), .val (.int p2), .val .null] [(.int p1)])) (fun t k => ?_) ?_
  · show Steps p.tables e below (s₁.setTop (mkF m 0 #[.val (.int p1), .val (.int p2), .val .null] [])) _
    refine XS.iloadN X0.here hx rfl (hb hby d14_0) rfl ?_
    refine XS.ifNo X0.here hx rfl (hb hby d14_1) rfl ((if0 _ _).trans (flt h1).1) ?_
    refine XS.iloadN X0.here hx rfl (hb hby d14_4) rfl ?_
    refine XS.iloadN X0.here hx rfl (hb hby d14_5) rfl ?_
    refine XS.icmpYes X0.here hx rfl (pc0 := 6) (pc' := 16) rfl (hb hby d14_6) rfl (tlt h2).1 (by decide) (by decide) ?_
    refine XS.iloadN X0.here hx rfl (hb hby d14_16) rfl ?_
    exact k
  exact own_retI X0 hx Bd.notSynchronized Bd.returns (hb hby d14_17) ⟨rfl, N0, e0⟩ (by decide) (by decide)
theorem d13_0 : decode jdk_42_method_155_code 0 = .ok (.iload_n 0, 1) := by decide +kernel
theorem d13_1 : decode jdk_42_method_155_code 1 = .ok (.iload_n 1, 1) := by decide +kernel
theorem d13_2 : decode jdk_42_method_155_code 2 = .ok (.getstatic 1053, 3) := by decide +kernel
theorem d13_5 : decode jdk_42_method_155_code 5 = .ok (.invokestatic 1059, 3) := by decide +kernel
theorem d13_8 : decode jdk_42_method_155_code 8 = .ok (.pop, 1) := by decide +kernel
theorem d13_9 : decode jdk_42_method_155_code 9 = .ok (.return_, 1) := by decide +kernel
theorem pd_3 : parseMethodDescriptor "(IILjava/util/function/BiFunction;)I" = some ⟨[.int, .int, (.object "java/util/function/BiFunction")], some .int⟩ := by decide +kernel
theorem ef_13 (m : MethodId) (p1 : Int32) (p2 : Int32) : entryFrame m #[(.int p1), (.int p2)] 2 = mkF m 0 #[.val (.int p1), .val (.int p2)] [] := by first | (simp [entryFrame, mkF, argsToLocals, Value.category]; done) | rfl
def Q13 (Z : State) (p1 : Int32) (p2 : Int32) (vf : Value) (h0 : Heap) (n0 : Nat) (v : Option Value) (h : Heap) (L : List Loc) : Prop := v = none ∧ Fr n0 L ∧ h = h0
set_option maxRecDepth 65536 in
set_option maxHeartbeats 40000000 in
theorem rm13 (l : Launch) (Z : State) (a0 : Array Value) (hw : ∀ d ∈ tables_1, d.before a0 Z = true) (ws : List Jvm.Cond) (p1 : Int32) (p2 : Int32) (vf : Value) (h0 : Heap) (n0 : Nat) (Z0 : n0 ≤ h0.size) (h1 : ¬ (p1 < (0 : Int32))) (h2 : p1 < p2) (S_F : Sta Z h0 "jdk/internal/util/Preconditions" "SIOOBE_FORMATTER" "Ljava/util/function/BiFunction;" vf) (hvf : vf.isRef = true) :
    MetFree l (⟨"java/lang/String", "checkIndex", "(II)V"⟩ : MethodName) (head1 (Jvm.Cond.code (⟨"java/lang/String", "checkIndex", "(II)V"⟩ : MethodName) jdk_42_method_155_code 2 none :: ws) ({ frames := 1, cells := 0, slots := 0, locals := 14 } : Room)) (fun a U => a = #[(.int p1), (.int p2)] ∧ Z.Warmed39 U.vm ∧ U.heap = h0) (fun _ _ _ _ _ => True) (fun _ U o U' => ∃ v L, o = .returned v ∧ Q13 Z p1 p2 vf h0 n0 v U'.heap L ∧ FrameEnd U o U' L ({ frames := 1, cells := 0, slots := 0, locals := 14 } : Room).cells ({ frames := 1, cells := 0, slots := 0, locals := 14 } : Room).slots) := by
  refine MetFree.of_bodySF (plainFor_of_name pn_0) hisR ?_
  intro p e s m args below meth c s₁ Bd hml0 hP hK
  obtain ⟨rfl, hZ, hh⟩ := hP
  have hx := Bd.exec
  have hby := Bd.bytes
  have hml : c.maxLocals = 2 := hml0
  have hown : s.vm.findClass "java/lang/String" = some m.cls := findClass_of_methodNamed Bd.named
  have hnm := (name_of_methodNamed Bd.named Bd.method).1
  have X0 : Stand p l e ({ frames := 1, cells := 0, slots := 0, locals := 14 } : Room) s m #[(.int p1), (.int p2)] below meth c s₁ [] 0 0 := Stand.of_body Bd
  have e0 : s₁.heap = h0 := by rw [← hh, Bd.state]; rfl
  have N0 := Fr.nil n0
  skip
  show own_Go p e below s (Q13 Z p1 p2 vf h0 n0) ({ frames := 1, cells := 0, slots := 0, locals := 14 } : Room).cells ({ frames := 1, cells := 0, slots := 0, locals := 14 } : Room).slots _
  refine own_step (B := s₁.setTop (mkF m 0 #[.val (.int p1), .val (.int p2)] [])) (fun t k => castTop (ef_13 m p1 p2) k) ?_
  refine own_step (B := s₁.setTop (mkF m 2 #[.val (.int p1), .val (.int p2)] [(.int p2), (.int p1)])) (fun t k => ?_) ?_
  · show Steps p.tables e below (s₁.setTop (mkF m 0 #[.val (.int p1), .val (.int p2)] [])) _
    refine XS.iloadN X0.here hx rfl (hb hby d13_0) rfl ?_
    refine XS.iloadN X0.here hx rfl (hb hby d13_1) rfl ?_
    exact k
  rcases ref_cases hvf with rfl | ⟨af, rfl⟩
  · obtain ⟨T1, X1, e1, st1⟩ := getS2 X0 hx hZ hown (host := "") (Or.inl (hw _ (List.mem_of_getElem? (i := 84) rfl))) Via.refl e0 S_F (g := (mkF m 2 #[.val (.int p1), .val (.int p2)] [(.int p2), (.int p1)])) rfl (hb hby d13_2)
    refine own_step st1 ?_
    show own_Go p e below s _ _ _ (T1.setTop (mkF m 5 #[.val (.int p1), .val (.int p2)] [.null, (.int p2), (.int p1)]))
    obtain ⟨_, _, ⟨T2, L2, k2, n2⟩, -, X2, ⟨Lc2, hQ2, l2, y2, z2⟩, st2⟩ := Jvm.LawKit.callS X1 hx (y := (⟨"jdk/internal/util/Preconditions", "checkIndex", "(IILjava/util/function/BiFunction;)I"⟩ : MethodName)) hown (mvT hZ (hw _ (List.mem_of_getElem? (i := 86) rfl))) (mvT hZ (hw _ (List.mem_of_getElem? (i := 87) rfl))) (mvT hZ (hw _ (List.mem_of_getElem? (i := 85) rfl))) (mvT hZ (hw _ (List.mem_of_getElem? (i := 88) rfl))) (by decide) (backOf (W := 0) (rm14n l Z a0 hw [] p1 p2  h0 n0 Z0 h1 h2) hZ (hw _ (List.mem_of_getElem? (i := 88) rfl)) (hw _ (List.mem_of_getElem? (i := 85) rfl)) (by decide) (by decide)) (g := (mkF m 5 #[.val (.int p1), .val (.int p2)] [.null, (.int p2), (.int p1)])) rfl (by rw [hml]; rfl) (argsL := [(.int p1), (.int p2), .null]) (rest := []) (lenOf pd_3 rfl) rfl (by show 2 * 0 + _ ≤ _; exact Nat.le_of_eq rfl) (hb hby d13_5) (fun _ _ => ⟨rfl, e1, (by decide : 0 + 0 ≤ _), (by decide : 0 + 0 ≤ _)⟩)
    dsimp only [Pt.U, Pt.locs, Pt.cells, Pt.slots] at X2 l2 y2 z2 st2 hQ2
    subst l2 y2 z2
    obtain ⟨rfl, N2q, e2⟩ := hQ2
    have N2 := Fr.app N0 N2q
    refine own_step st2 ?_
    show own_Go p e below s _ _ _ (T2.setTop (mkF m 8 #[.val (.int p1), .val (.int p2)] [(.int p1)]))
    refine own_step (B := T2.setTop (mkF m 9 #[.val (.int p1), .val (.int p2)] [])) (fun t k => ?_) ?_
    · show Steps p.tables e below (T2.setTop (mkF m 8 #[.val (.int p1), .val (.int p2)] [(.int p1)])) _
      refine XS.pop X2.here hx rfl (hb hby d13_8) rfl rfl ?_
      exact k
    exact own_retV X2 hx Bd.notSynchronized Bd.returns (hb hby d13_9) ⟨rfl, N2, e2⟩ (by decide) (by decide)
  · obtain ⟨T3, X3, e3, st3⟩ := getS2 X0 hx hZ hown (host := "") (Or.inl (hw _ (List.mem_of_getElem? (i := 84) rfl))) Via.refl e0 S_F (g := (mkF m 2 #[.val (.int p1), .val (.int p2)] [(.int p2), (.int p1)])) rfl (hb hby d13_2)
    refine own_step st3 ?_
    show own_Go p e below s _ _ _ (T3.setTop (mkF m 5 #[.val (.int p1), .val (.int p2)] [(.ref af), (.int p2), (.int p1)]))
    obtain ⟨_, _, ⟨T4, L4, k4, n4⟩, -, X4, ⟨Lc4, hQ4, l4, y4, z4⟩, st4⟩ := Jvm.LawKit.callS X3 hx (y := (⟨"jdk/internal/util/Preconditions", "checkIndex", "(IILjava/util/function/BiFunction;)I"⟩ : MethodName)) hown (mvT hZ (hw _ (List.mem_of_getElem? (i := 86) rfl))) (mvT hZ (hw _ (List.mem_of_getElem? (i := 87) rfl))) (mvT hZ (hw _ (List.mem_of_getElem? (i := 85) rfl))) (mvT hZ (hw _ (List.mem_of_getElem? (i := 88) rfl))) (by decide) (backOf (W := 0) (rm14 l Z a0 hw [] p1 p2 af  h0 n0 Z0 h1 h2) hZ (hw _ (List.mem_of_getElem? (i := 88) rfl)) (hw _ (List.mem_of_getElem? (i := 85) rfl)) (by decide) (by decide)) (g := (mkF m 5 #[.val (.int p1), .val (.int p2)] [(.ref af), (.int p2), (.int p1)])) rfl (by rw [hml]; rfl) (argsL := [(.int p1), (.int p2), (.ref af)]) (rest := []) (lenOf pd_3 rfl) rfl (by show 2 * 0 + _ ≤ _; exact Nat.le_of_eq rfl) (hb hby d13_5) (fun _ _ => ⟨rfl, e3, (by decide : 0 + 0 ≤ _), (by decide : 0 + 0 ≤ _)⟩)
    dsimp only [Pt.U, Pt.locs, Pt.cells, Pt.slots] at X4 l4 y4 z4 st4 hQ4
    subst l4 y4 z4
    obtain ⟨rfl, N4q, e4⟩ := hQ4
    have N4 := Fr.app N0 N4q
    refine own_step st4 ?_
    show own_Go p e below s _ _ _ (T4.setTop (mkF m 8 #[.val (.int p1), .val (.int p2)] [(.int p1)]))
    refine own_step (B := T4.setTop (mkF m 9 #[.val (.int p1), .val (.int p2)] [])) (fun t k => ?_) ?_
    · show Steps p.tables e below (T4.setTop (mkF m 8 #[.val (.int p1), .val (.int p2)] [(.int p1)])) _
      refine XS.pop X4.here hx rfl (hb hby d13_8) rfl rfl ?_
      exact k
    exact own_retV X4 hx Bd.notSynchronized Bd.returns (hb hby d13_9) ⟨rfl, N4, e4⟩ (by decide) (by decide)
theorem d12_0 : decode jdk_43_method_2_code 0 = .ok (.iload_n 1, 1) := by decide +kernel
theorem d12_1 : decode jdk_43_method_2_code 1 = .ok (.aload_n 0, 1) := by decide +kernel
theorem d12_2 : decode jdk_43_method_2_code 2 = .ok (.arraylength, 1) := by decide +kernel
theorem d12_3 : decode jdk_43_method_2_code 3 = .ok (.invokestatic 9, 3) := by decide +kernel
theorem d12_6 : decode jdk_43_method_2_code 6 = .ok (.aload_n 0, 1) := by decide +kernel
theorem d12_7 : decode jdk_43_method_2_code 7 = .ok (.iload_n 1, 1) := by decide +kernel
theorem d12_8 : decode jdk_43_method_2_code 8 = .ok (.baload, 1) := by decide +kernel
theorem d12_9 : decode jdk_43_method_2_code 9 = .ok (.sipush 255, 3) := by decide +kernel
theorem d12_12 : decode jdk_43_method_2_code 12 = .ok (.iand, 1) := by decide +kernel
theorem d12_13 : decode jdk_43_method_2_code 13 = .ok (.i2c, 1) := by decide +kernel
theorem d12_14 : decode jdk_43_method_2_code 14 = .ok (.ireturn, 1) := by decide +kernel
theorem pd_4 : parseMethodDescriptor "(II)V" = some ⟨[.int, .int], none⟩ := by decide +kernel
theorem pn_5 : plainName "java/lang/StringLatin1" = true := by first | (simp [plainName, overriddenIn]; done) | decide +kernel
theorem ef_12 (m : MethodId) (a1 : Addr) (p2 : Int32) : entryFrame m #[(.ref a1), (.int p2)] 2 = mkF m 0 #[.val (.ref a1), .val (.int p2)] [] := by first | (simp [entryFrame, mkF, argsToLocals, Value.category]; done) | rfl
def Q12 (Z : State) (a1 : Addr) (p2 : Int32) (vf : Value) (cl : Cell) (ln : Int32) (x : Int32) (h0 : Heap) (n0 : Nat) (v : Option Value) (h : Heap) (L : List Loc) : Prop := v = some (.int (nar .char (nar .char (x &&& (255 : Int32))))) ∧ Fr n0 L ∧ h = h0
set_option maxRecDepth 65536 in
set_option maxHeartbeats 40000000 in
theorem rm12 (l : Launch) (Z : State) (a0 : Array Value) (hw : ∀ d ∈ tables_1, d.before a0 Z = true) (ws : List Jvm.Cond) (a1 : Addr) (p2 : Int32) (vf : Value) (cl : Cell) (ln : Int32) (x : Int32) (h0 : Heap) (n0 : Nat) (Z0 : n0 ≤ h0.size) (Ar : Arr Z h0 a1 cl .byte) (hlen : cl.slots.size.toInt32 = ln) (h1 : ¬ (p2 < (0 : Int32))) (h2 : p2 < ln) (hin : ¬ (p2 < 0 ∨ cl.slots.size ≤ (p2).toNatClampNeg)) (hat : cl.slots[(p2).toNatClampNeg]? = some (.int x)) (S_F : Sta Z h0 "jdk/internal/util/Preconditions" "SIOOBE_FORMATTER" "Ljava/util/function/BiFunction;" vf) (hvf : vf.isRef = true) :
    MetFree l (⟨"java/lang/StringLatin1", "charAt", "([BI)C"⟩ : MethodName) (head1 (Jvm.Cond.code (⟨"java/lang/StringLatin1", "charAt", "([BI)C"⟩ : MethodName) jdk_43_method_2_code 2 (some .char) :: ws) ({ frames := 2, cells := 0, slots := 0, locals := 27 } : Room)) (fun a U => a = #[(.ref a1), (.int p2)] ∧ Z.Warmed39 U.vm ∧ U.heap = h0) (fun _ _ _ _ _ => True) (fun _ U o U' => ∃ v L, o = .returned v ∧ Q12 Z a1 p2 vf cl ln x h0 n0 v U'.heap L ∧ FrameEnd U o U' L ({ frames := 2, cells := 0, slots := 0, locals := 27 } : Room).cells ({ frames := 2, cells := 0, slots := 0, locals := 27 } : Room).slots) := by
  refine MetFree.of_bodySF (plainFor_of_name pn_5) hisR ?_
  intro p e s m args below meth c s₁ Bd hml0 hP hK
  obtain ⟨rfl, hZ, hh⟩ := hP
  have hx := Bd.exec
  have hby := Bd.bytes
  have hml : c.maxLocals = 2 := hml0
  have hown : s.vm.findClass "java/lang/StringLatin1" = some m.cls := findClass_of_methodNamed Bd.named
  have hnm := (name_of_methodNamed Bd.named Bd.method).1
  have X0 : Stand p l e ({ frames := 2, cells := 0, slots := 0, locals := 27 } : Room) s m #[(.ref a1), (.int p2)] below meth c s₁ [] 0 0 := Stand.of_body Bd
  have e0 : s₁.heap = h0 := by rw [← hh, Bd.state]; rfl
  have N0 := Fr.nil n0
  skip
  show own_Go p e below s (Q12 Z a1 p2 vf cl ln x h0 n0) ({ frames := 2, cells := 0, slots := 0, locals := 27 } : Room).cells ({ frames := 2, cells := 0, slots := 0, locals := 27 } : Room).slots _
  refine own_step (B := s₁.setTop (mkF m 0 #[.val (.ref a1), .val (.int p2)] [])) (fun t k => castTop (ef_12 m a1 p2) k) ?_
  refine own_step (B := s₁.setTop (mkF m 3 #[.val (.ref a1), .val (.int p2)] [(.int ln), (.int p2)])) (fun t k => ?_) ?_
  · show Steps p.tables e below (s₁.setTop (mkF m 0 #[.val (.ref a1), .val (.int p2)] [])) _
    refine XS.iloadN X0.here hx rfl (hb hby d12_0) rfl ?_
    refine XS.aloadN X0.here hx rfl (hb hby d12_1) rfl rfl ?_
    refine X0.arraylength hx (by rw [e0]; exact Ar.1) (State.isArrayOf_alike hZ.alike Ar.2.1) (g := (mkF m 2 #[.val (.ref a1), .val (.int p2)] [(.ref a1), (.int p2)])) rfl rfl (hb hby d12_2) _ ?_
    rw [hlen]
    exact k
  obtain ⟨_, _, ⟨T1, L1, k1, n1⟩, -, X1, ⟨Lc1, hQ1, l1, y1, z1⟩, st1⟩ := Jvm.LawKit.callS X0 hx (y := (⟨"java/lang/String", "checkIndex", "(II)V"⟩ : MethodName)) hown (mvT hZ (hw _ (List.mem_of_getElem? (i := 81) rfl))) (mvT hZ (hw _ (List.mem_of_getElem? (i := 82) rfl))) (mvT hZ (hw _ (List.mem_of_getElem? (i := 6) rfl))) (mvT hZ (hw _ (List.mem_of_getElem? (i := 83) rfl))) (by decide) (backOf (W := 0) (rm13 l Z a0 hw [] p2 ln vf h0 n0 Z0 h1 h2 S_F hvf) hZ (hw _ (List.mem_of_getElem? (i := 83) rfl)) (hw _ (List.mem_of_getElem? (i := 6) rfl)) (by decide) (by decide)) (g := (mkF m 3 #[.val (.ref a1), .val (.int p2)] [(.int ln), (.int p2)])) rfl (by rw [hml]; rfl) (argsL := [(.int p2), (.int ln)]) (rest := []) (lenOf pd_4 rfl) rfl (by show 2 * 0 + _ ≤ _; exact Nat.le_of_eq rfl) (hb hby d12_3) (fun _ _ => ⟨rfl, e0, (by decide : 0 + 0 ≤ _), (by decide : 0 + 0 ≤ _)⟩)
  dsimp only [Pt.U, Pt.locs, Pt.cells, Pt.slots] at X1 l1 y1 z1 st1 hQ1
  subst l1 y1 z1
  obtain ⟨rfl, N1q, e1⟩ := hQ1
  have N1 := Fr.app N0 N1q
  refine own_step st1 ?_
  show own_Go p e below s _ _ _ (T1.setTop (mkF m 6 #[.val (.ref a1), .val (.int p2)] []))
  refine own_step (B := T1.setTop (mkF m 14 #[.val (.ref a1), .val (.int p2)] [(.int ((x &&& (255 : Int32)).toUInt32.toUInt16.toUInt32.toInt32))])) (fun t k => ?_) ?_
  · show Steps p.tables e below (T1.setTop (mkF m 6 #[.val (.ref a1), .val (.int p2)] [])) _
    refine XS.aloadN X1.here hx rfl (hb hby d12_6) rfl rfl ?_
    refine XS.iloadN X1.here hx rfl (hb hby d12_7) rfl ?_
    refine X1.baloadBytes hx (j := p2) (v := (.int x)) (by rw [e1]; exact Ar.1) (State.isArrayOf_alike hZ.alike Ar.2.1) Ar.2.2 hin hat (g := (mkF m 8 #[.val (.ref a1), .val (.int p2)] [(.int p2), (.ref a1)])) rfl rfl (hb hby d12_8) _ ?_
    refine XS.sipush X1.here hx rfl (hb hby d12_9) ?_
    refine XS.iand X1.here hx rfl (hb hby d12_12) rfl ?_
    refine XS.i2c X1.here hx rfl (hb hby d12_13) rfl ?_
    exact k
  exact own_retN X1 hx Bd.notSynchronized (t := .char) Bd.returns (by simp) (hb hby d12_14) ⟨rfl, N1, e1⟩ (by decide) (by decide)
theorem d10_0 : decode jdk_42_method_56_code 0 = .ok (.aload_n 0, 1) := by decide +kernel
theorem d10_1 : decode jdk_42_method_56_code 1 = .ok (.invokevirtual 492, 3) := by decide +kernel
theorem d10_4 : decode jdk_42_method_56_code 4 = .ok (.ifCond .eq 12, 3) := by decide +kernel
theorem d10_7 : decode jdk_42_method_56_code 7 = .ok (.aload_n 0, 1) := by decide +kernel
theorem d10_8 : decode jdk_42_method_56_code 8 = .ok (.getfield 9, 3) := by decide +kernel
theorem d10_11 : decode jdk_42_method_56_code 11 = .ok (.iload_n 1, 1) := by decide +kernel
theorem d10_12 : decode jdk_42_method_56_code 12 = .ok (.invokestatic 495, 3) := by decide +kernel
theorem d10_15 : decode jdk_42_method_56_code 15 = .ok (.ireturn, 1) := by decide +kernel
theorem d10_16 : decode jdk_42_method_56_code 16 = .ok (.aload_n 0, 1) := by decide +kernel
theorem d10_17 : decode jdk_42_method_56_code 17 = .ok (.getfield 9, 3) := by decide +kernel
theorem d10_20 : decode jdk_42_method_56_code 20 = .ok (.iload_n 1, 1) := by decide +kernel
theorem d10_21 : decode jdk_42_method_56_code 21 = .ok (.invokestatic 498, 3) := by decide +kernel
theorem d10_24 : decode jdk_42_method_56_code 24 = .ok (.ireturn, 1) := by decide +kernel
theorem pd_6 : parseMethodDescriptor "()Z" = some ⟨[], some .boolean⟩ := by decide +kernel
theorem pd_7 : parseMethodDescriptor "([BI)C" = some ⟨[(.array .byte), .int], some .char⟩ := by decide +kernel
def own_ch (x : Int32) : Int32 := nar .char (nar .char (nar .char (x &&& (255 : Int32))))
theorem ef_10 (m : MethodId) (a1 : Addr) (p2 : Int32) : entryFrame m #[(.ref a1), (.int p2)] 2 = mkF m 0 #[.val (.ref a1), .val (.int p2)] [] := by first | (simp [entryFrame, mkF, argsToLocals, Value.category]; done) | rfl
def Q10 (Z : State) (a1 : Addr) (p2 : Int32) (cs : Int32) (vf : Value) (b : Addr) (cl : Cell) (ln : Int32) (x : Int32) (h0 : Heap) (n0 : Nat) (v : Option Value) (h : Heap) (L : List Loc) : Prop := v = some (.int (own_ch x)) ∧ Fr n0 L ∧ h = h0
set_option maxRecDepth 65536 in
set_option maxHeartbeats 40000000 in
theorem rm10 (l : Launch) (Z : State) (a0 : Array Value) (hw : ∀ d ∈ tables_1, d.before a0 Z = true) (ws : List Jvm.Cond) (a1 : Addr) (p2 : Int32) (cs : Int32) (vf : Value) (b : Addr) (cl : Cell) (ln : Int32) (x : Int32) (h0 : Heap) (n0 : Nat) (Z0 : n0 ≤ h0.size) (E_a1 : Exa Z h0 a1 "java/lang/String") (F_c : Fld Z h0 a1 "java/lang/String" "coder" "B" (.int (0 : Int32))) (F_v : Fld Z h0 a1 "java/lang/String" "value" "[B" (.ref b)) (Ar : Arr Z h0 b cl .byte) (hlen : cl.slots.size.toInt32 = ln) (h1 : ¬ (p2 < (0 : Int32))) (h2 : p2 < ln) (hin : ¬ (p2 < 0 ∨ cl.slots.size ≤ (p2).toNatClampNeg)) (hat : cl.slots[(p2).toNatClampNeg]? = some (.int x)) (S_C : Sta Z h0 "java/lang/String" "COMPACT_STRINGS" "Z" (.int cs)) (hcs : ¬ (cs = (0 : Int32))) (S_F : Sta Z h0 "jdk/internal/util/Preconditions" "SIOOBE_FORMATTER" "Ljava/util/function/BiFunction;" vf) (hvf : vf.isRef = true) :
    MetFree l (⟨"java/lang/String", "charAt", "(I)C"⟩ : MethodName) (head1 (Jvm.Cond.code (⟨"java/lang/String", "charAt", "(I)C"⟩ : MethodName) jdk_42_method_56_code 2 (some .char) :: ws) ({ frames := 3, cells := 0, slots := 0, locals := 40 } : Room)) (fun a U => a = #[(.ref a1), (.int p2)] ∧ Z.Warmed39 U.vm ∧ U.heap = h0) (fun _ _ _ _ _ => True) (fun _ U o U' => ∃ v L, o = .returned v ∧ Q10 Z a1 p2 cs vf b cl ln x h0 n0 v U'.heap L ∧ FrameEnd U o U' L ({ frames := 3, cells := 0, slots := 0, locals := 40 } : Room).cells ({ frames := 3, cells := 0, slots := 0, locals := 40 } : Room).slots) := by
  refine MetFree.of_bodySF (plainFor_of_name pn_0) hisR ?_
  intro p e s m args below meth c s₁ Bd hml0 hP hK
  obtain ⟨rfl, hZ, hh⟩ := hP
  have hx := Bd.exec
  have hby := Bd.bytes
  have hml : c.maxLocals = 2 := hml0
  have hown : s.vm.findClass "java/lang/String" = some m.cls := findClass_of_methodNamed Bd.named
  have hnm := (name_of_methodNamed Bd.named Bd.method).1
  have X0 : Stand p l e ({ frames := 3, cells := 0, slots := 0, locals := 40 } : Room) s m #[(.ref a1), (.int p2)] below meth c s₁ [] 0 0 := Stand.of_body Bd
  have e0 : s₁.heap = h0 := by rw [← hh, Bd.state]; rfl
  have N0 := Fr.nil n0
  skip
  show own_Go p e below s (Q10 Z a1 p2 cs vf b cl ln x h0 n0) ({ frames := 3, cells := 0, slots := 0, locals := 40 } : Room).cells ({ frames := 3, cells := 0, slots := 0, locals := 40 } : Room).slots _
  refine own_step (B := s₁.setTop (mkF m 0 #[.val (.ref a1), .val (.int p2)] [])) (fun t k => castTop (ef_10 m a1 p2) k) ?_
  refine own_step (B := s₁.setTop (mkF m 1 #[.val (.ref a1), .val (.int p2)] [(.ref a1)])) (fun t k => ?_) ?_
  · show Steps p.tables e below (s₁.setTop (mkF m 0 #[.val (.ref a1), .val (.int p2)] [])) _
    refine XS.aloadN X0.here hx rfl (hb hby d10_0) rfl rfl ?_
    exact k
  obtain ⟨cq1, kq1, q1a, q1b, q1c⟩ := isOf hZ e0 E_a1
  obtain ⟨_, _, ⟨T1, L1, k1, n1⟩, -, X1, ⟨Lc1, hQ1, l1, y1, z1⟩, st1⟩ := X0.virtualBack hx (y := (⟨"java/lang/String", "isLatin1", "()Z"⟩ : MethodName)) (z := (⟨"java/lang/String", "isLatin1", "()Z"⟩ : MethodName)) hown (mvT hZ (hw _ (List.mem_of_getElem? (i := 72) rfl))) (mvT hZ (hw _ (List.mem_of_getElem? (i := 73) rfl))) (notFace_of_selects (args := #[]) (mvT hZ (hw _ (List.mem_of_getElem? (i := 75) rfl)))) (mvT hZ (hw _ (List.mem_of_getElem? (i := 75) rfl))) (mvT hZ (hw _ (List.mem_of_getElem? (i := 74) rfl))) (by decide) (backOf (W := 0) (rm11 l Z a0 hw [] a1 cs h0 n0 Z0 F_c S_C hcs) hZ (hw _ (List.mem_of_getElem? (i := 76) rfl)) (hw _ (List.mem_of_getElem? (i := 6) rfl)) (by decide) (by decide)) q1a q1c (g := (mkF m 1 #[.val (.ref a1), .val (.int p2)] [(.ref a1)])) rfl (by rw [hml]; rfl) (Steps.refl _) (argsL := []) (rest := []) (lenOf pd_6 rfl) rfl (by show 2 * 0 + _ ≤ _; exact Nat.le_of_eq rfl) (hb hby d10_1) (fun _ _ => ⟨rfl, e0, (by decide : 0 + 0 ≤ _), (by decide : 0 + 0 ≤ _)⟩)
  dsimp only [Pt.U, Pt.locs, Pt.cells, Pt.slots] at X1 l1 y1 z1 st1 hQ1
  subst l1 y1 z1
  obtain ⟨rfl, N1q, e1⟩ := hQ1
  have N1 := Fr.app N0 N1q
  refine own_via st1 ?_
  show own_Go p e below s _ _ _ (T1.setTop (mkF m 4 #[.val (.ref a1), .val (.int p2)] [(.int (1 : Int32))]))
  refine own_step (B := T1.setTop (mkF m 8 #[.val (.ref a1), .val (.int p2)] [(.ref a1)])) (fun t k => ?_) ?_
  · show Steps p.tables e below (T1.setTop (mkF m 4 #[.val (.ref a1), .val (.int p2)] [(.int (1 : Int32))])) _
    refine XS.ifNo X1.here hx rfl (hb hby d10_4) rfl ((if0 _ _).trans (feq (by decide : ¬ ((1 : Int32) = (0 : Int32)))).1) ?_
    refine XS.aloadN X1.here hx rfl (hb hby d10_7) rfl rfl ?_
    exact k
  obtain ⟨T2, X2, e2, st2⟩ := getF X1 hx hZ hown (host := "") (Or.inl (hw _ (List.mem_of_getElem? (i := 54) rfl))) Via.refl e1 F_v (g := (mkF m 8 #[.val (.ref a1), .val (.int p2)] [(.ref a1)])) rfl rfl (hb hby d10_8)
  refine own_step st2 ?_
  show own_Go p e below s _ _ _ (T2.setTop (mkF m 11 #[.val (.ref a1), .val (.int p2)] [(.ref b)]))
  refine own_step (B := T2.setTop (mkF m 12 #[.val (.ref a1), .val (.int p2)] [(.int p2), (.ref b)])) (fun t k => ?_) ?_
  · show Steps p.tables e below (T2.setTop (mkF m 11 #[.val (.ref a1), .val (.int p2)] [(.ref b)])) _
    refine XS.iloadN X2.here hx rfl (hb hby d10_11) rfl ?_
    exact k
  obtain ⟨_, _, ⟨T3, L3, k3, n3⟩, -, X3, ⟨Lc3, hQ3, l3, y3, z3⟩, st3⟩ := Jvm.LawKit.callS X2 hx (y := (⟨"java/lang/StringLatin1", "charAt", "([BI)C"⟩ : MethodName)) hown (mvT hZ (hw _ (List.mem_of_getElem? (i := 77) rfl))) (mvT hZ (hw _ (List.mem_of_getElem? (i := 78) rfl))) (mvT hZ (hw _ (List.mem_of_getElem? (i := 79) rfl))) (mvT hZ (hw _ (List.mem_of_getElem? (i := 80) rfl))) (by decide) (backOf (W := 0) (rm12 l Z a0 hw [] b p2 vf cl ln x h0 n0 Z0 Ar hlen h1 h2 hin hat S_F hvf) hZ (hw _ (List.mem_of_getElem? (i := 80) rfl)) (hw _ (List.mem_of_getElem? (i := 79) rfl)) (by decide) (by decide)) (g := (mkF m 12 #[.val (.ref a1), .val (.int p2)] [(.int p2), (.ref b)])) rfl (by rw [hml]; rfl) (argsL := [(.ref b), (.int p2)]) (rest := []) (lenOf pd_7 rfl) rfl (by show 2 * 0 + _ ≤ _; exact Nat.le_of_eq rfl) (hb hby d10_12) (fun _ _ => ⟨rfl, e2, (by decide : 0 + 0 ≤ _), (by decide : 0 + 0 ≤ _)⟩)
  dsimp only [Pt.U, Pt.locs, Pt.cells, Pt.slots] at X3 l3 y3 z3 st3 hQ3
  subst l3 y3 z3
  obtain ⟨rfl, N3q, e3⟩ := hQ3
  have N3 := Fr.app N1 N3q
  refine own_step st3 ?_
  show own_Go p e below s _ _ _ (T3.setTop (mkF m 15 #[.val (.ref a1), .val (.int p2)] [(.int (nar .char (nar .char (x &&& (255 : Int32)))))]))
  exact own_retN X3 hx Bd.notSynchronized (t := .char) Bd.returns (by simp) (hb hby d10_15) ⟨rfl, N3, e3⟩ (by decide) (by decide)
theorem d15_0 : decode prog_76_method_3_code 0 = .ok (.iload_n 0, 1) := by decide +kernel
theorem d15_1 : decode prog_76_method_3_code 1 = .ok (.bipush 65, 2) := by decide +kernel
theorem d15_3 : decode prog_76_method_3_code 3 = .ok (.if_icmp .lt 9, 3) := by decide +kernel
theorem d15_6 : decode prog_76_method_3_code 6 = .ok (.iload_n 0, 1) := by decide +kernel
theorem d15_7 : decode prog_76_method_3_code 7 = .ok (.bipush 90, 2) := by decide +kernel
theorem d15_9 : decode prog_76_method_3_code 9 = .ok (.if_icmp .le 45, 3) := by decide +kernel
theorem d15_12 : decode prog_76_method_3_code 12 = .ok (.iload_n 0, 1) := by decide +kernel
theorem d15_13 : decode prog_76_method_3_code 13 = .ok (.bipush 97, 2) := by decide +kernel
theorem d15_15 : decode prog_76_method_3_code 15 = .ok (.if_icmp .lt 9, 3) := by decide +kernel
theorem d15_18 : decode prog_76_method_3_code 18 = .ok (.iload_n 0, 1) := by decide +kernel
theorem d15_19 : decode prog_76_method_3_code 19 = .ok (.bipush 122, 2) := by decide +kernel
theorem d15_21 : decode prog_76_method_3_code 21 = .ok (.if_icmp .le 33, 3) := by decide +kernel
theorem d15_24 : decode prog_76_method_3_code 24 = .ok (.iload_n 0, 1) := by decide +kernel
theorem d15_25 : decode prog_76_method_3_code 25 = .ok (.bipush 48, 2) := by decide +kernel
theorem d15_27 : decode prog_76_method_3_code 27 = .ok (.if_icmp .lt 9, 3) := by decide +kernel
theorem d15_30 : decode prog_76_method_3_code 30 = .ok (.iload_n 0, 1) := by decide +kernel
theorem d15_31 : decode prog_76_method_3_code 31 = .ok (.bipush 57, 2) := by decide +kernel
theorem d15_33 : decode prog_76_method_3_code 33 = .ok (.if_icmp .le 21, 3) := by decide +kernel
theorem d15_36 : decode prog_76_method_3_code 36 = .ok (.iload_n 0, 1) := by decide +kernel
theorem d15_37 : decode prog_76_method_3_code 37 = .ok (.bipush 95, 2) := by decide +kernel
theorem d15_39 : decode prog_76_method_3_code 39 = .ok (.if_icmp .eq 15, 3) := by decide +kernel
theorem d15_42 : decode prog_76_method_3_code 42 = .ok (.iload_n 0, 1) := by decide +kernel
theorem d15_43 : decode prog_76_method_3_code 43 = .ok (.bipush 46, 2) := by decide +kernel
theorem d15_45 : decode prog_76_method_3_code 45 = .ok (.if_icmp .eq 9, 3) := by decide +kernel
theorem d15_48 : decode prog_76_method_3_code 48 = .ok (.iload_n 0, 1) := by decide +kernel
theorem d15_49 : decode prog_76_method_3_code 49 = .ok (.bipush 45, 2) := by decide +kernel
theorem d15_51 : decode prog_76_method_3_code 51 = .ok (.if_icmp .ne 7, 3) := by decide +kernel
theorem d15_54 : decode prog_76_method_3_code 54 = .ok (.iconst 1, 1) := by decide +kernel
theorem d15_55 : decode prog_76_method_3_code 55 = .ok (.goto 4, 3) := by decide +kernel
theorem d15_58 : decode prog_76_method_3_code 58 = .ok (.iconst 0, 1) := by decide +kernel
theorem d15_59 : decode prog_76_method_3_code 59 = .ok (.ireturn, 1) := by decide +kernel
theorem pn_8 : plainName "com/example/nests/nests/model/Names" = true := by first | (simp [plainName, overriddenIn]; done) | decide +kernel
theorem ef_15 (m : MethodId) (p1 : Int32) : entryFrame m #[(.int p1)] 1 = mkF m 0 #[.val (.int p1)] [] := by first | (simp [entryFrame, mkF, argsToLocals, Value.category]; done) | rfl
def Q15 (Z : State) (p1 : Int32)  (h0 : Heap) (n0 : Nat) (v : Option Value) (h : Heap) (L : List Loc) : Prop := v = some (.int (own_b (own_NC p1))) ∧ Fr n0 L ∧ h = h0
set_option maxRecDepth 65536 in
set_option maxHeartbeats 40000000 in
theorem rm15 (l : Launch) (Z : State) (a0 : Array Value) (hw : ∀ d ∈ tables_1, d.before a0 Z = true) (ws : List Jvm.Cond) (p1 : Int32)  (h0 : Heap) (n0 : Nat) (Z0 : n0 ≤ h0.size) :
    MetFree l (⟨"com/example/nests/nests/model/Names", "isNameChar", "(C)Z"⟩ : MethodName) (head1 (Jvm.Cond.code (⟨"com/example/nests/nests/model/Names", "isNameChar", "(C)Z"⟩ : MethodName) prog_76_method_3_code 1 (some .boolean) :: ws) ({ frames := 0, cells := 0, slots := 0, locals := 0 } : Room)) (fun a U => a = #[(.int p1)] ∧ Z.Warmed39 U.vm ∧ U.heap = h0) (fun _ _ _ _ _ => True) (fun _ U o U' => ∃ v L, o = .returned v ∧ Q15 Z p1  h0 n0 v U'.heap L ∧ FrameEnd U o U' L ({ frames := 0, cells := 0, slots := 0, locals := 0 } : Room).cells ({ frames := 0, cells := 0, slots := 0, locals := 0 } : Room).slots) := by
  refine MetFree.of_bodySF (plainFor_of_name pn_8) hisR ?_
  intro p e s m args below meth c s₁ Bd hml0 hP hK
  obtain ⟨rfl, hZ, hh⟩ := hP
  have hx := Bd.exec
  have hby := Bd.bytes
  have hml : c.maxLocals = 1 := hml0
  have hown : s.vm.findClass "com/example/nests/nests/model/Names" = some m.cls := findClass_of_methodNamed Bd.named
  have hnm := (name_of_methodNamed Bd.named Bd.method).1
  have X0 : Stand p l e ({ frames := 0, cells := 0, slots := 0, locals := 0 } : Room) s m #[(.int p1)] below meth c s₁ [] 0 0 := Stand.of_body Bd
  have e0 : s₁.heap = h0 := by rw [← hh, Bd.state]; rfl
  have N0 := Fr.nil n0
  skip
  show own_Go p e below s (Q15 Z p1  h0 n0) ({ frames := 0, cells := 0, slots := 0, locals := 0 } : Room).cells ({ frames := 0, cells := 0, slots := 0, locals := 0 } : Room).slots _
  refine own_step (B := s₁.setTop (mkF m 0 #[.val (.int p1)] [])) (fun t k => castTop (ef_15 m p1) k) ?_
  refine own_step (B := s₁.setTop (mkF m 3 #[.val (.int p1)] [(.int (65 : Int32)), (.int p1)])) (fun t k => ?_) ?_
  · show Steps p.tables e below (s₁.setTop (mkF m 0 #[.val (.int p1)] [])) _
    refine XS.iloadN X0.here hx rfl (hb hby d15_0) rfl ?_
    refine XS.bipush X0.here hx rfl (hb hby d15_1) ?_
    exact k
  by_cases hc3 : p1 < (65 : Int32)
  · refine own_step (B := s₁.setTop (mkF m 15 #[.val (.int p1)] [(.int (97 : Int32)), (.int p1)])) (fun t k => ?_) ?_
    · show Steps p.tables e below (s₁.setTop (mkF m 3 #[.val (.int p1)] [(.int (65 : Int32)), (.int p1)])) _
      refine XS.icmpYes X0.here hx rfl (pc0 := 3) (pc' := 12) rfl (hb hby d15_3) rfl (tlt hc3).1 (by decide) (by decide) ?_
      refine XS.iloadN X0.here hx rfl (hb hby d15_12) rfl ?_
      refine XS.bipush X0.here hx rfl (hb hby d15_13) ?_
      exact k
    by_cases hc15 : p1 < (97 : Int32)
    · refine own_step (B := s₁.setTop (mkF m 27 #[.val (.int p1)] [(.int (48 : Int32)), (.int p1)])) (fun t k => ?_) ?_
      · show Steps p.tables e below (s₁.setTop (mkF m 15 #[.val (.int p1)] [(.int (97 : Int32)), (.int p1)])) _
        refine XS.icmpYes X0.here hx rfl (pc0 := 15) (pc' := 24) rfl (hb hby d15_15) rfl (tlt hc15).1 (by decide) (by decide) ?_
        refine XS.iloadN X0.here hx rfl (hb hby d15_24) rfl ?_
        refine XS.bipush X0.here hx rfl (hb hby d15_25) ?_
        exact k
      by_cases hc27 : p1 < (48 : Int32)
      · refine own_step (B := s₁.setTop (mkF m 39 #[.val (.int p1)] [(.int (95 : Int32)), (.int p1)])) (fun t k => ?_) ?_
        · show Steps p.tables e below (s₁.setTop (mkF m 27 #[.val (.int p1)] [(.int (48 : Int32)), (.int p1)])) _
          refine XS.icmpYes X0.here hx rfl (pc0 := 27) (pc' := 36) rfl (hb hby d15_27) rfl (tlt hc27).1 (by decide) (by decide) ?_
          refine XS.iloadN X0.here hx rfl (hb hby d15_36) rfl ?_
          refine XS.bipush X0.here hx rfl (hb hby d15_37) ?_
          exact k
        by_cases hc39 : p1 = (95 : Int32)
        · refine own_step (B := s₁.setTop (mkF m 59 #[.val (.int p1)] [(.int (1 : Int32))])) (fun t k => ?_) ?_
          · show Steps p.tables e below (s₁.setTop (mkF m 39 #[.val (.int p1)] [(.int (95 : Int32)), (.int p1)])) _
            refine XS.icmpYes X0.here hx rfl (pc0 := 39) (pc' := 54) rfl (hb hby d15_39) rfl (teq hc39).1 (by decide) (by decide) ?_
            refine XS.iconst X0.here hx rfl (hb hby d15_54) ?_
            refine XS.goto X0.here hx rfl (pc0 := 55) (pc' := 59) rfl (hb hby d15_55) (by decide) (by decide) ?_
            exact k
          exact own_retN X0 hx Bd.notSynchronized (t := .boolean) Bd.returns (by simp) (hb hby d15_59) ⟨by show some (Value.int ((1 : Int32))) = _; simp [own_b, own_NC, hc3, hc15, hc27, hc39], N0, e0⟩ (by decide) (by decide)
        · refine own_step (B := s₁.setTop (mkF m 45 #[.val (.int p1)] [(.int (46 : Int32)), (.int p1)])) (fun t k => ?_) ?_
          · show Steps p.tables e below (s₁.setTop (mkF m 39 #[.val (.int p1)] [(.int (95 : Int32)), (.int p1)])) _
            refine XS.icmpNo X0.here hx rfl (hb hby d15_39) rfl (feq hc39).1 ?_
            refine XS.iloadN X0.here hx rfl (hb hby d15_42) rfl ?_
            refine XS.bipush X0.here hx rfl (hb hby d15_43) ?_
            exact k
          by_cases hc45 : p1 = (46 : Int32)
          · refine own_step (B := s₁.setTop (mkF m 59 #[.val (.int p1)] [(.int (1 : Int32))])) (fun t k => ?_) ?_
            · show Steps p.tables e below (s₁.setTop (mkF m 45 #[.val (.int p1)] [(.int (46 : Int32)), (.int p1)])) _
              refine XS.icmpYes X0.here hx rfl (pc0 := 45) (pc' := 54) rfl (hb hby d15_45) rfl (teq hc45).1 (by decide) (by decide) ?_
              refine XS.iconst X0.here hx rfl (hb hby d15_54) ?_
              refine XS.goto X0.here hx rfl (pc0 := 55) (pc' := 59) rfl (hb hby d15_55) (by decide) (by decide) ?_
              exact k
            exact own_retN X0 hx Bd.notSynchronized (t := .boolean) Bd.returns (by simp) (hb hby d15_59) ⟨by show some (Value.int ((1 : Int32))) = _; simp [own_b, own_NC, hc3, hc15, hc27, hc39, hc45], N0, e0⟩ (by decide) (by decide)
          · refine own_step (B := s₁.setTop (mkF m 51 #[.val (.int p1)] [(.int (45 : Int32)), (.int p1)])) (fun t k => ?_) ?_
            · show Steps p.tables e below (s₁.setTop (mkF m 45 #[.val (.int p1)] [(.int (46 : Int32)), (.int p1)])) _
              refine XS.icmpNo X0.here hx rfl (hb hby d15_45) rfl (feq hc45).1 ?_
              refine XS.iloadN X0.here hx rfl (hb hby d15_48) rfl ?_
              refine XS.bipush X0.here hx rfl (hb hby d15_49) ?_
              exact k
            by_cases hc51 : p1 = (45 : Int32)
            · refine own_step (B := s₁.setTop (mkF m 59 #[.val (.int p1)] [(.int (1 : Int32))])) (fun t k => ?_) ?_
              · show Steps p.tables e below (s₁.setTop (mkF m 51 #[.val (.int p1)] [(.int (45 : Int32)), (.int p1)])) _
                refine XS.icmpNo X0.here hx rfl (hb hby d15_51) rfl (teq hc51).2 ?_
                refine XS.iconst X0.here hx rfl (hb hby d15_54) ?_
                refine XS.goto X0.here hx rfl (pc0 := 55) (pc' := 59) rfl (hb hby d15_55) (by decide) (by decide) ?_
                exact k
              exact own_retN X0 hx Bd.notSynchronized (t := .boolean) Bd.returns (by simp) (hb hby d15_59) ⟨by show some (Value.int ((1 : Int32))) = _; simp [own_b, own_NC, hc3, hc15, hc27, hc39, hc45, hc51], N0, e0⟩ (by decide) (by decide)
            · refine own_step (B := s₁.setTop (mkF m 59 #[.val (.int p1)] [(.int (0 : Int32))])) (fun t k => ?_) ?_
              · show Steps p.tables e below (s₁.setTop (mkF m 51 #[.val (.int p1)] [(.int (45 : Int32)), (.int p1)])) _
                refine XS.icmpYes X0.here hx rfl (pc0 := 51) (pc' := 58) rfl (hb hby d15_51) rfl (feq hc51).2 (by decide) (by decide) ?_
                refine XS.iconst X0.here hx rfl (hb hby d15_58) ?_
                exact k
              exact own_retN X0 hx Bd.notSynchronized (t := .boolean) Bd.returns (by simp) (hb hby d15_59) ⟨by show some (Value.int ((0 : Int32))) = _; simp [own_b, own_NC, hc3, hc15, hc27, hc39, hc45, hc51], N0, e0⟩ (by decide) (by decide)
      · refine own_step (B := s₁.setTop (mkF m 33 #[.val (.int p1)] [(.int (57 : Int32)), (.int p1)])) (fun t k => ?_) ?_
        · show Steps p.tables e below (s₁.setTop (mkF m 27 #[.val (.int p1)] [(.int (48 : Int32)), (.int p1)])) _
          refine XS.icmpNo X0.here hx rfl (hb hby d15_27) rfl (flt hc27).1 ?_
          refine XS.iloadN X0.here hx rfl (hb hby d15_30) rfl ?_
          refine XS.bipush X0.here hx rfl (hb hby d15_31) ?_
          exact k
        by_cases hc33 : (57 : Int32) < p1
        · refine own_step (B := s₁.setTop (mkF m 39 #[.val (.int p1)] [(.int (95 : Int32)), (.int p1)])) (fun t k => ?_) ?_
          · show Steps p.tables e below (s₁.setTop (mkF m 33 #[.val (.int p1)] [(.int (57 : Int32)), (.int p1)])) _
            refine XS.icmpNo X0.here hx rfl (hb hby d15_33) rfl (tlt hc33).2.2.2 ?_
            refine XS.iloadN X0.here hx rfl (hb hby d15_36) rfl ?_
            refine XS.bipush X0.here hx rfl (hb hby d15_37) ?_
            exact k
          by_cases hc39 : p1 = (95 : Int32)
          · refine own_step (B := s₁.setTop (mkF m 59 #[.val (.int p1)] [(.int (1 : Int32))])) (fun t k => ?_) ?_
            · show Steps p.tables e below (s₁.setTop (mkF m 39 #[.val (.int p1)] [(.int (95 : Int32)), (.int p1)])) _
              refine XS.icmpYes X0.here hx rfl (pc0 := 39) (pc' := 54) rfl (hb hby d15_39) rfl (teq hc39).1 (by decide) (by decide) ?_
              refine XS.iconst X0.here hx rfl (hb hby d15_54) ?_
              refine XS.goto X0.here hx rfl (pc0 := 55) (pc' := 59) rfl (hb hby d15_55) (by decide) (by decide) ?_
              exact k
            exact own_retN X0 hx Bd.notSynchronized (t := .boolean) Bd.returns (by simp) (hb hby d15_59) ⟨by show some (Value.int ((1 : Int32))) = _; simp [own_b, own_NC, hc3, hc15, hc27, hc33, hc39], N0, e0⟩ (by decide) (by decide)
          · refine own_step (B := s₁.setTop (mkF m 45 #[.val (.int p1)] [(.int (46 : Int32)), (.int p1)])) (fun t k => ?_) ?_
            · show Steps p.tables e below (s₁.setTop (mkF m 39 #[.val (.int p1)] [(.int (95 : Int32)), (.int p1)])) _
              refine XS.icmpNo X0.here hx rfl (hb hby d15_39) rfl (feq hc39).1 ?_
              refine XS.iloadN X0.here hx rfl (hb hby d15_42) rfl ?_
              refine XS.bipush X0.here hx rfl (hb hby d15_43) ?_
              exact k
            by_cases hc45 : p1 = (46 : Int32)
            · refine own_step (B := s₁.setTop (mkF m 59 #[.val (.int p1)] [(.int (1 : Int32))])) (fun t k => ?_) ?_
              · show Steps p.tables e below (s₁.setTop (mkF m 45 #[.val (.int p1)] [(.int (46 : Int32)), (.int p1)])) _
                refine XS.icmpYes X0.here hx rfl (pc0 := 45) (pc' := 54) rfl (hb hby d15_45) rfl (teq hc45).1 (by decide) (by decide) ?_
                refine XS.iconst X0.here hx rfl (hb hby d15_54) ?_
                refine XS.goto X0.here hx rfl (pc0 := 55) (pc' := 59) rfl (hb hby d15_55) (by decide) (by decide) ?_
                exact k
              exact own_retN X0 hx Bd.notSynchronized (t := .boolean) Bd.returns (by simp) (hb hby d15_59) ⟨by show some (Value.int ((1 : Int32))) = _; simp [own_b, own_NC, hc3, hc15, hc27, hc33, hc39, hc45], N0, e0⟩ (by decide) (by decide)
            · refine own_step (B := s₁.setTop (mkF m 51 #[.val (.int p1)] [(.int (45 : Int32)), (.int p1)])) (fun t k => ?_) ?_
              · show Steps p.tables e below (s₁.setTop (mkF m 45 #[.val (.int p1)] [(.int (46 : Int32)), (.int p1)])) _
                refine XS.icmpNo X0.here hx rfl (hb hby d15_45) rfl (feq hc45).1 ?_
                refine XS.iloadN X0.here hx rfl (hb hby d15_48) rfl ?_
                refine XS.bipush X0.here hx rfl (hb hby d15_49) ?_
                exact k
              by_cases hc51 : p1 = (45 : Int32)
              · refine own_step (B := s₁.setTop (mkF m 59 #[.val (.int p1)] [(.int (1 : Int32))])) (fun t k => ?_) ?_
                · show Steps p.tables e below (s₁.setTop (mkF m 51 #[.val (.int p1)] [(.int (45 : Int32)), (.int p1)])) _
                  refine XS.icmpNo X0.here hx rfl (hb hby d15_51) rfl (teq hc51).2 ?_
                  refine XS.iconst X0.here hx rfl (hb hby d15_54) ?_
                  refine XS.goto X0.here hx rfl (pc0 := 55) (pc' := 59) rfl (hb hby d15_55) (by decide) (by decide) ?_
                  exact k
                exact own_retN X0 hx Bd.notSynchronized (t := .boolean) Bd.returns (by simp) (hb hby d15_59) ⟨by show some (Value.int ((1 : Int32))) = _; simp [own_b, own_NC, hc3, hc15, hc27, hc33, hc39, hc45, hc51], N0, e0⟩ (by decide) (by decide)
              · refine own_step (B := s₁.setTop (mkF m 59 #[.val (.int p1)] [(.int (0 : Int32))])) (fun t k => ?_) ?_
                · show Steps p.tables e below (s₁.setTop (mkF m 51 #[.val (.int p1)] [(.int (45 : Int32)), (.int p1)])) _
                  refine XS.icmpYes X0.here hx rfl (pc0 := 51) (pc' := 58) rfl (hb hby d15_51) rfl (feq hc51).2 (by decide) (by decide) ?_
                  refine XS.iconst X0.here hx rfl (hb hby d15_58) ?_
                  exact k
                exact own_retN X0 hx Bd.notSynchronized (t := .boolean) Bd.returns (by simp) (hb hby d15_59) ⟨by show some (Value.int ((0 : Int32))) = _; simp [own_b, own_NC, hc3, hc15, hc27, hc33, hc39, hc45, hc51], N0, e0⟩ (by decide) (by decide)
        · refine own_step (B := s₁.setTop (mkF m 59 #[.val (.int p1)] [(.int (1 : Int32))])) (fun t k => ?_) ?_
          · show Steps p.tables e below (s₁.setTop (mkF m 33 #[.val (.int p1)] [(.int (57 : Int32)), (.int p1)])) _
            refine XS.icmpYes X0.here hx rfl (pc0 := 33) (pc' := 54) rfl (hb hby d15_33) rfl (flt hc33).2.2.2 (by decide) (by decide) ?_
            refine XS.iconst X0.here hx rfl (hb hby d15_54) ?_
            refine XS.goto X0.here hx rfl (pc0 := 55) (pc' := 59) rfl (hb hby d15_55) (by decide) (by decide) ?_
            exact k
          exact own_retN X0 hx Bd.notSynchronized (t := .boolean) Bd.returns (by simp) (hb hby d15_59) ⟨by show some (Value.int ((1 : Int32))) = _; simp [own_b, own_NC, hc3, hc15, hc27, hc33], N0, e0⟩ (by decide) (by decide)
    · refine own_step (B := s₁.setTop (mkF m 21 #[.val (.int p1)] [(.int (122 : Int32)), (.int p1)])) (fun t k => ?_) ?_
      · show Steps p.tables e below (s₁.setTop (mkF m 15 #[.val (.int p1)] [(.int (97 : Int32)), (.int p1)])) _
        refine XS.icmpNo X0.here hx rfl (hb hby d15_15) rfl (flt hc15).1 ?_
        refine XS.iloadN X0.here hx rfl (hb hby d15_18) rfl ?_
        refine XS.bipush X0.here hx rfl (hb hby d15_19) ?_
        exact k
      by_cases hc21 : (122 : Int32) < p1
      · refine own_step (B := s₁.setTop (mkF m 27 #[.val (.int p1)] [(.int (48 : Int32)), (.int p1)])) (fun t k => ?_) ?_
        · show Steps p.tables e below (s₁.setTop (mkF m 21 #[.val (.int p1)] [(.int (122 : Int32)), (.int p1)])) _
          refine XS.icmpNo X0.here hx rfl (hb hby d15_21) rfl (tlt hc21).2.2.2 ?_
          refine XS.iloadN X0.here hx rfl (hb hby d15_24) rfl ?_
          refine XS.bipush X0.here hx rfl (hb hby d15_25) ?_
          exact k
        by_cases hc27 : p1 < (48 : Int32)
        · refine own_step (B := s₁.setTop (mkF m 39 #[.val (.int p1)] [(.int (95 : Int32)), (.int p1)])) (fun t k => ?_) ?_
          · show Steps p.tables e below (s₁.setTop (mkF m 27 #[.val (.int p1)] [(.int (48 : Int32)), (.int p1)])) _
            refine XS.icmpYes X0.here hx rfl (pc0 := 27) (pc' := 36) rfl (hb hby d15_27) rfl (tlt hc27).1 (by decide) (by decide) ?_
            refine XS.iloadN X0.here hx rfl (hb hby d15_36) rfl ?_
            refine XS.bipush X0.here hx rfl (hb hby d15_37) ?_
            exact k
          by_cases hc39 : p1 = (95 : Int32)
          · refine own_step (B := s₁.setTop (mkF m 59 #[.val (.int p1)] [(.int (1 : Int32))])) (fun t k => ?_) ?_
            · show Steps p.tables e below (s₁.setTop (mkF m 39 #[.val (.int p1)] [(.int (95 : Int32)), (.int p1)])) _
              refine XS.icmpYes X0.here hx rfl (pc0 := 39) (pc' := 54) rfl (hb hby d15_39) rfl (teq hc39).1 (by decide) (by decide) ?_
              refine XS.iconst X0.here hx rfl (hb hby d15_54) ?_
              refine XS.goto X0.here hx rfl (pc0 := 55) (pc' := 59) rfl (hb hby d15_55) (by decide) (by decide) ?_
              exact k
            exact own_retN X0 hx Bd.notSynchronized (t := .boolean) Bd.returns (by simp) (hb hby d15_59) ⟨by show some (Value.int ((1 : Int32))) = _; simp [own_b, own_NC, hc3, hc15, hc21, hc27, hc39], N0, e0⟩ (by decide) (by decide)
          · refine own_step (B := s₁.setTop (mkF m 45 #[.val (.int p1)] [(.int (46 : Int32)), (.int p1)])) (fun t k => ?_) ?_
            · show Steps p.tables e below (s₁.setTop (mkF m 39 #[.val (.int p1)] [(.int (95 : Int32)), (.int p1)])) _
              refine XS.icmpNo X0.here hx rfl (hb hby d15_39) rfl (feq hc39).1 ?_
              refine XS.iloadN X0.here hx rfl (hb hby d15_42) rfl ?_
              refine XS.bipush X0.here hx rfl (hb hby d15_43) ?_
              exact k
            by_cases hc45 : p1 = (46 : Int32)
            · refine own_step (B := s₁.setTop (mkF m 59 #[.val (.int p1)] [(.int (1 : Int32))])) (fun t k => ?_) ?_
              · show Steps p.tables e below (s₁.setTop (mkF m 45 #[.val (.int p1)] [(.int (46 : Int32)), (.int p1)])) _
                refine XS.icmpYes X0.here hx rfl (pc0 := 45) (pc' := 54) rfl (hb hby d15_45) rfl (teq hc45).1 (by decide) (by decide) ?_
                refine XS.iconst X0.here hx rfl (hb hby d15_54) ?_
                refine XS.goto X0.here hx rfl (pc0 := 55) (pc' := 59) rfl (hb hby d15_55) (by decide) (by decide) ?_
                exact k
              exact own_retN X0 hx Bd.notSynchronized (t := .boolean) Bd.returns (by simp) (hb hby d15_59) ⟨by show some (Value.int ((1 : Int32))) = _; simp [own_b, own_NC, hc3, hc15, hc21, hc27, hc39, hc45], N0, e0⟩ (by decide) (by decide)
            · refine own_step (B := s₁.setTop (mkF m 51 #[.val (.int p1)] [(.int (45 : Int32)), (.int p1)])) (fun t k => ?_) ?_
              · show Steps p.tables e below (s₁.setTop (mkF m 45 #[.val (.int p1)] [(.int (46 : Int32)), (.int p1)])) _
                refine XS.icmpNo X0.here hx rfl (hb hby d15_45) rfl (feq hc45).1 ?_
                refine XS.iloadN X0.here hx rfl (hb hby d15_48) rfl ?_
                refine XS.bipush X0.here hx rfl (hb hby d15_49) ?_
                exact k
              by_cases hc51 : p1 = (45 : Int32)
              · refine own_step (B := s₁.setTop (mkF m 59 #[.val (.int p1)] [(.int (1 : Int32))])) (fun t k => ?_) ?_
                · show Steps p.tables e below (s₁.setTop (mkF m 51 #[.val (.int p1)] [(.int (45 : Int32)), (.int p1)])) _
                  refine XS.icmpNo X0.here hx rfl (hb hby d15_51) rfl (teq hc51).2 ?_
                  refine XS.iconst X0.here hx rfl (hb hby d15_54) ?_
                  refine XS.goto X0.here hx rfl (pc0 := 55) (pc' := 59) rfl (hb hby d15_55) (by decide) (by decide) ?_
                  exact k
                exact own_retN X0 hx Bd.notSynchronized (t := .boolean) Bd.returns (by simp) (hb hby d15_59) ⟨by show some (Value.int ((1 : Int32))) = _; simp [own_b, own_NC, hc3, hc15, hc21, hc27, hc39, hc45, hc51], N0, e0⟩ (by decide) (by decide)
              · refine own_step (B := s₁.setTop (mkF m 59 #[.val (.int p1)] [(.int (0 : Int32))])) (fun t k => ?_) ?_
                · show Steps p.tables e below (s₁.setTop (mkF m 51 #[.val (.int p1)] [(.int (45 : Int32)), (.int p1)])) _
                  refine XS.icmpYes X0.here hx rfl (pc0 := 51) (pc' := 58) rfl (hb hby d15_51) rfl (feq hc51).2 (by decide) (by decide) ?_
                  refine XS.iconst X0.here hx rfl (hb hby d15_58) ?_
                  exact k
                exact own_retN X0 hx Bd.notSynchronized (t := .boolean) Bd.returns (by simp) (hb hby d15_59) ⟨by show some (Value.int ((0 : Int32))) = _; simp [own_b, own_NC, hc3, hc15, hc21, hc27, hc39, hc45, hc51], N0, e0⟩ (by decide) (by decide)
        · refine own_step (B := s₁.setTop (mkF m 33 #[.val (.int p1)] [(.int (57 : Int32)), (.int p1)])) (fun t k => ?_) ?_
          · show Steps p.tables e below (s₁.setTop (mkF m 27 #[.val (.int p1)] [(.int (48 : Int32)), (.int p1)])) _
            refine XS.icmpNo X0.here hx rfl (hb hby d15_27) rfl (flt hc27).1 ?_
            refine XS.iloadN X0.here hx rfl (hb hby d15_30) rfl ?_
            refine XS.bipush X0.here hx rfl (hb hby d15_31) ?_
            exact k
          by_cases hc33 : (57 : Int32) < p1
          · refine own_step (B := s₁.setTop (mkF m 39 #[.val (.int p1)] [(.int (95 : Int32)), (.int p1)])) (fun t k => ?_) ?_
            · show Steps p.tables e below (s₁.setTop (mkF m 33 #[.val (.int p1)] [(.int (57 : Int32)), (.int p1)])) _
              refine XS.icmpNo X0.here hx rfl (hb hby d15_33) rfl (tlt hc33).2.2.2 ?_
              refine XS.iloadN X0.here hx rfl (hb hby d15_36) rfl ?_
              refine XS.bipush X0.here hx rfl (hb hby d15_37) ?_
              exact k
            by_cases hc39 : p1 = (95 : Int32)
            · refine own_step (B := s₁.setTop (mkF m 59 #[.val (.int p1)] [(.int (1 : Int32))])) (fun t k => ?_) ?_
              · show Steps p.tables e below (s₁.setTop (mkF m 39 #[.val (.int p1)] [(.int (95 : Int32)), (.int p1)])) _
                refine XS.icmpYes X0.here hx rfl (pc0 := 39) (pc' := 54) rfl (hb hby d15_39) rfl (teq hc39).1 (by decide) (by decide) ?_
                refine XS.iconst X0.here hx rfl (hb hby d15_54) ?_
                refine XS.goto X0.here hx rfl (pc0 := 55) (pc' := 59) rfl (hb hby d15_55) (by decide) (by decide) ?_
                exact k
              exact own_retN X0 hx Bd.notSynchronized (t := .boolean) Bd.returns (by simp) (hb hby d15_59) ⟨by show some (Value.int ((1 : Int32))) = _; simp [own_b, own_NC, hc3, hc15, hc21, hc27, hc33, hc39], N0, e0⟩ (by decide) (by decide)
            · refine own_step (B := s₁.setTop (mkF m 45 #[.val (.int p1)] [(.int (46 : Int32)), (.int p1)])) (fun t k => ?_) ?_
              · show Steps p.tables e below (s₁.setTop (mkF m 39 #[.val (.int p1)] [(.int (95 : Int32)), (.int p1)])) _
                refine XS.icmpNo X0.here hx rfl (hb hby d15_39) rfl (feq hc39).1 ?_
                refine XS.iloadN X0.here hx rfl (hb hby d15_42) rfl ?_
                refine XS.bipush X0.here hx rfl (hb hby d15_43) ?_
                exact k
              by_cases hc45 : p1 = (46 : Int32)
              · refine own_step (B := s₁.setTop (mkF m 59 #[.val (.int p1)] [(.int (1 : Int32))])) (fun t k => ?_) ?_
                · show Steps p.tables e below (s₁.setTop (mkF m 45 #[.val (.int p1)] [(.int (46 : Int32)), (.int p1)])) _
                  refine XS.icmpYes X0.here hx rfl (pc0 := 45) (pc' := 54) rfl (hb hby d15_45) rfl (teq hc45).1 (by decide) (by decide) ?_
                  refine XS.iconst X0.here hx rfl (hb hby d15_54) ?_
                  refine XS.goto X0.here hx rfl (pc0 := 55) (pc' := 59) rfl (hb hby d15_55) (by decide) (by decide) ?_
                  exact k
                exact own_retN X0 hx Bd.notSynchronized (t := .boolean) Bd.returns (by simp) (hb hby d15_59) ⟨by show some (Value.int ((1 : Int32))) = _; simp [own_b, own_NC, hc3, hc15, hc21, hc27, hc33, hc39, hc45], N0, e0⟩ (by decide) (by decide)
              · refine own_step (B := s₁.setTop (mkF m 51 #[.val (.int p1)] [(.int (45 : Int32)), (.int p1)])) (fun t k => ?_) ?_
                · show Steps p.tables e below (s₁.setTop (mkF m 45 #[.val (.int p1)] [(.int (46 : Int32)), (.int p1)])) _
                  refine XS.icmpNo X0.here hx rfl (hb hby d15_45) rfl (feq hc45).1 ?_
                  refine XS.iloadN X0.here hx rfl (hb hby d15_48) rfl ?_
                  refine XS.bipush X0.here hx rfl (hb hby d15_49) ?_
                  exact k
                by_cases hc51 : p1 = (45 : Int32)
                · refine own_step (B := s₁.setTop (mkF m 59 #[.val (.int p1)] [(.int (1 : Int32))])) (fun t k => ?_) ?_
                  · show Steps p.tables e below (s₁.setTop (mkF m 51 #[.val (.int p1)] [(.int (45 : Int32)), (.int p1)])) _
                    refine XS.icmpNo X0.here hx rfl (hb hby d15_51) rfl (teq hc51).2 ?_
                    refine XS.iconst X0.here hx rfl (hb hby d15_54) ?_
                    refine XS.goto X0.here hx rfl (pc0 := 55) (pc' := 59) rfl (hb hby d15_55) (by decide) (by decide) ?_
                    exact k
                  exact own_retN X0 hx Bd.notSynchronized (t := .boolean) Bd.returns (by simp) (hb hby d15_59) ⟨by show some (Value.int ((1 : Int32))) = _; simp [own_b, own_NC, hc3, hc15, hc21, hc27, hc33, hc39, hc45, hc51], N0, e0⟩ (by decide) (by decide)
                · refine own_step (B := s₁.setTop (mkF m 59 #[.val (.int p1)] [(.int (0 : Int32))])) (fun t k => ?_) ?_
                  · show Steps p.tables e below (s₁.setTop (mkF m 51 #[.val (.int p1)] [(.int (45 : Int32)), (.int p1)])) _
                    refine XS.icmpYes X0.here hx rfl (pc0 := 51) (pc' := 58) rfl (hb hby d15_51) rfl (feq hc51).2 (by decide) (by decide) ?_
                    refine XS.iconst X0.here hx rfl (hb hby d15_58) ?_
                    exact k
                  exact own_retN X0 hx Bd.notSynchronized (t := .boolean) Bd.returns (by simp) (hb hby d15_59) ⟨by show some (Value.int ((0 : Int32))) = _; simp [own_b, own_NC, hc3, hc15, hc21, hc27, hc33, hc39, hc45, hc51], N0, e0⟩ (by decide) (by decide)
          · refine own_step (B := s₁.setTop (mkF m 59 #[.val (.int p1)] [(.int (1 : Int32))])) (fun t k => ?_) ?_
            · show Steps p.tables e below (s₁.setTop (mkF m 33 #[.val (.int p1)] [(.int (57 : Int32)), (.int p1)])) _
              refine XS.icmpYes X0.here hx rfl (pc0 := 33) (pc' := 54) rfl (hb hby d15_33) rfl (flt hc33).2.2.2 (by decide) (by decide) ?_
              refine XS.iconst X0.here hx rfl (hb hby d15_54) ?_
              refine XS.goto X0.here hx rfl (pc0 := 55) (pc' := 59) rfl (hb hby d15_55) (by decide) (by decide) ?_
              exact k
            exact own_retN X0 hx Bd.notSynchronized (t := .boolean) Bd.returns (by simp) (hb hby d15_59) ⟨by show some (Value.int ((1 : Int32))) = _; simp [own_b, own_NC, hc3, hc15, hc21, hc27, hc33], N0, e0⟩ (by decide) (by decide)
      · refine own_step (B := s₁.setTop (mkF m 59 #[.val (.int p1)] [(.int (1 : Int32))])) (fun t k => ?_) ?_
        · show Steps p.tables e below (s₁.setTop (mkF m 21 #[.val (.int p1)] [(.int (122 : Int32)), (.int p1)])) _
          refine XS.icmpYes X0.here hx rfl (pc0 := 21) (pc' := 54) rfl (hb hby d15_21) rfl (flt hc21).2.2.2 (by decide) (by decide) ?_
          refine XS.iconst X0.here hx rfl (hb hby d15_54) ?_
          refine XS.goto X0.here hx rfl (pc0 := 55) (pc' := 59) rfl (hb hby d15_55) (by decide) (by decide) ?_
          exact k
        exact own_retN X0 hx Bd.notSynchronized (t := .boolean) Bd.returns (by simp) (hb hby d15_59) ⟨by show some (Value.int ((1 : Int32))) = _; simp [own_b, own_NC, hc3, hc15, hc21], N0, e0⟩ (by decide) (by decide)
  · refine own_step (B := s₁.setTop (mkF m 9 #[.val (.int p1)] [(.int (90 : Int32)), (.int p1)])) (fun t k => ?_) ?_
    · show Steps p.tables e below (s₁.setTop (mkF m 3 #[.val (.int p1)] [(.int (65 : Int32)), (.int p1)])) _
      refine XS.icmpNo X0.here hx rfl (hb hby d15_3) rfl (flt hc3).1 ?_
      refine XS.iloadN X0.here hx rfl (hb hby d15_6) rfl ?_
      refine XS.bipush X0.here hx rfl (hb hby d15_7) ?_
      exact k
    by_cases hc9 : (90 : Int32) < p1
    · refine own_step (B := s₁.setTop (mkF m 15 #[.val (.int p1)] [(.int (97 : Int32)), (.int p1)])) (fun t k => ?_) ?_
      · show Steps p.tables e below (s₁.setTop (mkF m 9 #[.val (.int p1)] [(.int (90 : Int32)), (.int p1)])) _
        refine XS.icmpNo X0.here hx rfl (hb hby d15_9) rfl (tlt hc9).2.2.2 ?_
        refine XS.iloadN X0.here hx rfl (hb hby d15_12) rfl ?_
        refine XS.bipush X0.here hx rfl (hb hby d15_13) ?_
        exact k
      by_cases hc15 : p1 < (97 : Int32)
      · refine own_step (B := s₁.setTop (mkF m 27 #[.val (.int p1)] [(.int (48 : Int32)), (.int p1)])) (fun t k => ?_) ?_
        · show Steps p.tables e below (s₁.setTop (mkF m 15 #[.val (.int p1)] [(.int (97 : Int32)), (.int p1)])) _
          refine XS.icmpYes X0.here hx rfl (pc0 := 15) (pc' := 24) rfl (hb hby d15_15) rfl (tlt hc15).1 (by decide) (by decide) ?_
          refine XS.iloadN X0.here hx rfl (hb hby d15_24) rfl ?_
          refine XS.bipush X0.here hx rfl (hb hby d15_25) ?_
          exact k
        by_cases hc27 : p1 < (48 : Int32)
        · refine own_step (B := s₁.setTop (mkF m 39 #[.val (.int p1)] [(.int (95 : Int32)), (.int p1)])) (fun t k => ?_) ?_
          · show Steps p.tables e below (s₁.setTop (mkF m 27 #[.val (.int p1)] [(.int (48 : Int32)), (.int p1)])) _
            refine XS.icmpYes X0.here hx rfl (pc0 := 27) (pc' := 36) rfl (hb hby d15_27) rfl (tlt hc27).1 (by decide) (by decide) ?_
            refine XS.iloadN X0.here hx rfl (hb hby d15_36) rfl ?_
            refine XS.bipush X0.here hx rfl (hb hby d15_37) ?_
            exact k
          by_cases hc39 : p1 = (95 : Int32)
          · refine own_step (B := s₁.setTop (mkF m 59 #[.val (.int p1)] [(.int (1 : Int32))])) (fun t k => ?_) ?_
            · show Steps p.tables e below (s₁.setTop (mkF m 39 #[.val (.int p1)] [(.int (95 : Int32)), (.int p1)])) _
              refine XS.icmpYes X0.here hx rfl (pc0 := 39) (pc' := 54) rfl (hb hby d15_39) rfl (teq hc39).1 (by decide) (by decide) ?_
              refine XS.iconst X0.here hx rfl (hb hby d15_54) ?_
              refine XS.goto X0.here hx rfl (pc0 := 55) (pc' := 59) rfl (hb hby d15_55) (by decide) (by decide) ?_
              exact k
            exact own_retN X0 hx Bd.notSynchronized (t := .boolean) Bd.returns (by simp) (hb hby d15_59) ⟨by show some (Value.int ((1 : Int32))) = _; simp [own_b, own_NC, hc3, hc9, hc15, hc27, hc39], N0, e0⟩ (by decide) (by decide)
          · refine own_step (B := s₁.setTop (mkF m 45 #[.val (.int p1)] [(.int (46 : Int32)), (.int p1)])) (fun t k => ?_) ?_
            · show Steps p.tables e below (s₁.setTop (mkF m 39 #[.val (.int p1)] [(.int (95 : Int32)), (.int p1)])) _
              refine XS.icmpNo X0.here hx rfl (hb hby d15_39) rfl (feq hc39).1 ?_
              refine XS.iloadN X0.here hx rfl (hb hby d15_42) rfl ?_
              refine XS.bipush X0.here hx rfl (hb hby d15_43) ?_
              exact k
            by_cases hc45 : p1 = (46 : Int32)
            · refine own_step (B := s₁.setTop (mkF m 59 #[.val (.int p1)] [(.int (1 : Int32))])) (fun t k => ?_) ?_
              · show Steps p.tables e below (s₁.setTop (mkF m 45 #[.val (.int p1)] [(.int (46 : Int32)), (.int p1)])) _
                refine XS.icmpYes X0.here hx rfl (pc0 := 45) (pc' := 54) rfl (hb hby d15_45) rfl (teq hc45).1 (by decide) (by decide) ?_
                refine XS.iconst X0.here hx rfl (hb hby d15_54) ?_
                refine XS.goto X0.here hx rfl (pc0 := 55) (pc' := 59) rfl (hb hby d15_55) (by decide) (by decide) ?_
                exact k
              exact own_retN X0 hx Bd.notSynchronized (t := .boolean) Bd.returns (by simp) (hb hby d15_59) ⟨by show some (Value.int ((1 : Int32))) = _; simp [own_b, own_NC, hc3, hc9, hc15, hc27, hc39, hc45], N0, e0⟩ (by decide) (by decide)
            · refine own_step (B := s₁.setTop (mkF m 51 #[.val (.int p1)] [(.int (45 : Int32)), (.int p1)])) (fun t k => ?_) ?_
              · show Steps p.tables e below (s₁.setTop (mkF m 45 #[.val (.int p1)] [(.int (46 : Int32)), (.int p1)])) _
                refine XS.icmpNo X0.here hx rfl (hb hby d15_45) rfl (feq hc45).1 ?_
                refine XS.iloadN X0.here hx rfl (hb hby d15_48) rfl ?_
                refine XS.bipush X0.here hx rfl (hb hby d15_49) ?_
                exact k
              by_cases hc51 : p1 = (45 : Int32)
              · refine own_step (B := s₁.setTop (mkF m 59 #[.val (.int p1)] [(.int (1 : Int32))])) (fun t k => ?_) ?_
                · show Steps p.tables e below (s₁.setTop (mkF m 51 #[.val (.int p1)] [(.int (45 : Int32)), (.int p1)])) _
                  refine XS.icmpNo X0.here hx rfl (hb hby d15_51) rfl (teq hc51).2 ?_
                  refine XS.iconst X0.here hx rfl (hb hby d15_54) ?_
                  refine XS.goto X0.here hx rfl (pc0 := 55) (pc' := 59) rfl (hb hby d15_55) (by decide) (by decide) ?_
                  exact k
                exact own_retN X0 hx Bd.notSynchronized (t := .boolean) Bd.returns (by simp) (hb hby d15_59) ⟨by show some (Value.int ((1 : Int32))) = _; simp [own_b, own_NC, hc3, hc9, hc15, hc27, hc39, hc45, hc51], N0, e0⟩ (by decide) (by decide)
              · refine own_step (B := s₁.setTop (mkF m 59 #[.val (.int p1)] [(.int (0 : Int32))])) (fun t k => ?_) ?_
                · show Steps p.tables e below (s₁.setTop (mkF m 51 #[.val (.int p1)] [(.int (45 : Int32)), (.int p1)])) _
                  refine XS.icmpYes X0.here hx rfl (pc0 := 51) (pc' := 58) rfl (hb hby d15_51) rfl (feq hc51).2 (by decide) (by decide) ?_
                  refine XS.iconst X0.here hx rfl (hb hby d15_58) ?_
                  exact k
                exact own_retN X0 hx Bd.notSynchronized (t := .boolean) Bd.returns (by simp) (hb hby d15_59) ⟨by show some (Value.int ((0 : Int32))) = _; simp [own_b, own_NC, hc3, hc9, hc15, hc27, hc39, hc45, hc51], N0, e0⟩ (by decide) (by decide)
        · refine own_step (B := s₁.setTop (mkF m 33 #[.val (.int p1)] [(.int (57 : Int32)), (.int p1)])) (fun t k => ?_) ?_
          · show Steps p.tables e below (s₁.setTop (mkF m 27 #[.val (.int p1)] [(.int (48 : Int32)), (.int p1)])) _
            refine XS.icmpNo X0.here hx rfl (hb hby d15_27) rfl (flt hc27).1 ?_
            refine XS.iloadN X0.here hx rfl (hb hby d15_30) rfl ?_
            refine XS.bipush X0.here hx rfl (hb hby d15_31) ?_
            exact k
          by_cases hc33 : (57 : Int32) < p1
          · refine own_step (B := s₁.setTop (mkF m 39 #[.val (.int p1)] [(.int (95 : Int32)), (.int p1)])) (fun t k => ?_) ?_
            · show Steps p.tables e below (s₁.setTop (mkF m 33 #[.val (.int p1)] [(.int (57 : Int32)), (.int p1)])) _
              refine XS.icmpNo X0.here hx rfl (hb hby d15_33) rfl (tlt hc33).2.2.2 ?_
              refine XS.iloadN X0.here hx rfl (hb hby d15_36) rfl ?_
              refine XS.bipush X0.here hx rfl (hb hby d15_37) ?_
              exact k
            by_cases hc39 : p1 = (95 : Int32)
            · refine own_step (B := s₁.setTop (mkF m 59 #[.val (.int p1)] [(.int (1 : Int32))])) (fun t k => ?_) ?_
              · show Steps p.tables e below (s₁.setTop (mkF m 39 #[.val (.int p1)] [(.int (95 : Int32)), (.int p1)])) _
                refine XS.icmpYes X0.here hx rfl (pc0 := 39) (pc' := 54) rfl (hb hby d15_39) rfl (teq hc39).1 (by decide) (by decide) ?_
                refine XS.iconst X0.here hx rfl (hb hby d15_54) ?_
                refine XS.goto X0.here hx rfl (pc0 := 55) (pc' := 59) rfl (hb hby d15_55) (by decide) (by decide) ?_
                exact k
              exact own_retN X0 hx Bd.notSynchronized (t := .boolean) Bd.returns (by simp) (hb hby d15_59) ⟨by show some (Value.int ((1 : Int32))) = _; simp [own_b, own_NC, hc3, hc9, hc15, hc27, hc33, hc39], N0, e0⟩ (by decide) (by decide)
            · refine own_step (B := s₁.setTop (mkF m 45 #[.val (.int p1)] [(.int (46 : Int32)), (.int p1)])) (fun t k => ?_) ?_
              · show Steps p.tables e below (s₁.setTop (mkF m 39 #[.val (.int p1)] [(.int (95 : Int32)), (.int p1)])) _
                refine XS.icmpNo X0.here hx rfl (hb hby d15_39) rfl (feq hc39).1 ?_
                refine XS.iloadN X0.here hx rfl (hb hby d15_42) rfl ?_
                refine XS.bipush X0.here hx rfl (hb hby d15_43) ?_
                exact k
              by_cases hc45 : p1 = (46 : Int32)
              · refine own_step (B := s₁.setTop (mkF m 59 #[.val (.int p1)] [(.int (1 : Int32))])) (fun t k => ?_) ?_
                · show Steps p.tables e below (s₁.setTop (mkF m 45 #[.val (.int p1)] [(.int (46 : Int32)), (.int p1)])) _
                  refine XS.icmpYes X0.here hx rfl (pc0 := 45) (pc' := 54) rfl (hb hby d15_45) rfl (teq hc45).1 (by decide) (by decide) ?_
                  refine XS.iconst X0.here hx rfl (hb hby d15_54) ?_
                  refine XS.goto X0.here hx rfl (pc0 := 55) (pc' := 59) rfl (hb hby d15_55) (by decide) (by decide) ?_
                  exact k
                exact own_retN X0 hx Bd.notSynchronized (t := .boolean) Bd.returns (by simp) (hb hby d15_59) ⟨by show some (Value.int ((1 : Int32))) = _; simp [own_b, own_NC, hc3, hc9, hc15, hc27, hc33, hc39, hc45], N0, e0⟩ (by decide) (by decide)
              · refine own_step (B := s₁.setTop (mkF m 51 #[.val (.int p1)] [(.int (45 : Int32)), (.int p1)])) (fun t k => ?_) ?_
                · show Steps p.tables e below (s₁.setTop (mkF m 45 #[.val (.int p1)] [(.int (46 : Int32)), (.int p1)])) _
                  refine XS.icmpNo X0.here hx rfl (hb hby d15_45) rfl (feq hc45).1 ?_
                  refine XS.iloadN X0.here hx rfl (hb hby d15_48) rfl ?_
                  refine XS.bipush X0.here hx rfl (hb hby d15_49) ?_
                  exact k
                by_cases hc51 : p1 = (45 : Int32)
                · refine own_step (B := s₁.setTop (mkF m 59 #[.val (.int p1)] [(.int (1 : Int32))])) (fun t k => ?_) ?_
                  · show Steps p.tables e below (s₁.setTop (mkF m 51 #[.val (.int p1)] [(.int (45 : Int32)), (.int p1)])) _
                    refine XS.icmpNo X0.here hx rfl (hb hby d15_51) rfl (teq hc51).2 ?_
                    refine XS.iconst X0.here hx rfl (hb hby d15_54) ?_
                    refine XS.goto X0.here hx rfl (pc0 := 55) (pc' := 59) rfl (hb hby d15_55) (by decide) (by decide) ?_
                    exact k
                  exact own_retN X0 hx Bd.notSynchronized (t := .boolean) Bd.returns (by simp) (hb hby d15_59) ⟨by show some (Value.int ((1 : Int32))) = _; simp [own_b, own_NC, hc3, hc9, hc15, hc27, hc33, hc39, hc45, hc51], N0, e0⟩ (by decide) (by decide)
                · refine own_step (B := s₁.setTop (mkF m 59 #[.val (.int p1)] [(.int (0 : Int32))])) (fun t k => ?_) ?_
                  · show Steps p.tables e below (s₁.setTop (mkF m 51 #[.val (.int p1)] [(.int (45 : Int32)), (.int p1)])) _
                    refine XS.icmpYes X0.here hx rfl (pc0 := 51) (pc' := 58) rfl (hb hby d15_51) rfl (feq hc51).2 (by decide) (by decide) ?_
                    refine XS.iconst X0.here hx rfl (hb hby d15_58) ?_
                    exact k
                  exact own_retN X0 hx Bd.notSynchronized (t := .boolean) Bd.returns (by simp) (hb hby d15_59) ⟨by show some (Value.int ((0 : Int32))) = _; simp [own_b, own_NC, hc3, hc9, hc15, hc27, hc33, hc39, hc45, hc51], N0, e0⟩ (by decide) (by decide)
          · refine own_step (B := s₁.setTop (mkF m 59 #[.val (.int p1)] [(.int (1 : Int32))])) (fun t k => ?_) ?_
            · show Steps p.tables e below (s₁.setTop (mkF m 33 #[.val (.int p1)] [(.int (57 : Int32)), (.int p1)])) _
              refine XS.icmpYes X0.here hx rfl (pc0 := 33) (pc' := 54) rfl (hb hby d15_33) rfl (flt hc33).2.2.2 (by decide) (by decide) ?_
              refine XS.iconst X0.here hx rfl (hb hby d15_54) ?_
              refine XS.goto X0.here hx rfl (pc0 := 55) (pc' := 59) rfl (hb hby d15_55) (by decide) (by decide) ?_
              exact k
            exact own_retN X0 hx Bd.notSynchronized (t := .boolean) Bd.returns (by simp) (hb hby d15_59) ⟨by show some (Value.int ((1 : Int32))) = _; simp [own_b, own_NC, hc3, hc9, hc15, hc27, hc33], N0, e0⟩ (by decide) (by decide)
      · refine own_step (B := s₁.setTop (mkF m 21 #[.val (.int p1)] [(.int (122 : Int32)), (.int p1)])) (fun t k => ?_) ?_
        · show Steps p.tables e below (s₁.setTop (mkF m 15 #[.val (.int p1)] [(.int (97 : Int32)), (.int p1)])) _
          refine XS.icmpNo X0.here hx rfl (hb hby d15_15) rfl (flt hc15).1 ?_
          refine XS.iloadN X0.here hx rfl (hb hby d15_18) rfl ?_
          refine XS.bipush X0.here hx rfl (hb hby d15_19) ?_
          exact k
        by_cases hc21 : (122 : Int32) < p1
        · refine own_step (B := s₁.setTop (mkF m 27 #[.val (.int p1)] [(.int (48 : Int32)), (.int p1)])) (fun t k => ?_) ?_
          · show Steps p.tables e below (s₁.setTop (mkF m 21 #[.val (.int p1)] [(.int (122 : Int32)), (.int p1)])) _
            refine XS.icmpNo X0.here hx rfl (hb hby d15_21) rfl (tlt hc21).2.2.2 ?_
            refine XS.iloadN X0.here hx rfl (hb hby d15_24) rfl ?_
            refine XS.bipush X0.here hx rfl (hb hby d15_25) ?_
            exact k
          by_cases hc27 : p1 < (48 : Int32)
          · refine own_step (B := s₁.setTop (mkF m 39 #[.val (.int p1)] [(.int (95 : Int32)), (.int p1)])) (fun t k => ?_) ?_
            · show Steps p.tables e below (s₁.setTop (mkF m 27 #[.val (.int p1)] [(.int (48 : Int32)), (.int p1)])) _
              refine XS.icmpYes X0.here hx rfl (pc0 := 27) (pc' := 36) rfl (hb hby d15_27) rfl (tlt hc27).1 (by decide) (by decide) ?_
              refine XS.iloadN X0.here hx rfl (hb hby d15_36) rfl ?_
              refine XS.bipush X0.here hx rfl (hb hby d15_37) ?_
              exact k
            by_cases hc39 : p1 = (95 : Int32)
            · refine own_step (B := s₁.setTop (mkF m 59 #[.val (.int p1)] [(.int (1 : Int32))])) (fun t k => ?_) ?_
              · show Steps p.tables e below (s₁.setTop (mkF m 39 #[.val (.int p1)] [(.int (95 : Int32)), (.int p1)])) _
                refine XS.icmpYes X0.here hx rfl (pc0 := 39) (pc' := 54) rfl (hb hby d15_39) rfl (teq hc39).1 (by decide) (by decide) ?_
                refine XS.iconst X0.here hx rfl (hb hby d15_54) ?_
                refine XS.goto X0.here hx rfl (pc0 := 55) (pc' := 59) rfl (hb hby d15_55) (by decide) (by decide) ?_
                exact k
              exact own_retN X0 hx Bd.notSynchronized (t := .boolean) Bd.returns (by simp) (hb hby d15_59) ⟨by show some (Value.int ((1 : Int32))) = _; simp [own_b, own_NC, hc3, hc9, hc15, hc21, hc27, hc39], N0, e0⟩ (by decide) (by decide)
            · refine own_step (B := s₁.setTop (mkF m 45 #[.val (.int p1)] [(.int (46 : Int32)), (.int p1)])) (fun t k => ?_) ?_
              · show Steps p.tables e below (s₁.setTop (mkF m 39 #[.val (.int p1)] [(.int (95 : Int32)), (.int p1)])) _
                refine XS.icmpNo X0.here hx rfl (hb hby d15_39) rfl (feq hc39).1 ?_
                refine XS.iloadN X0.here hx rfl (hb hby d15_42) rfl ?_
                refine XS.bipush X0.here hx rfl (hb hby d15_43) ?_
                exact k
              by_cases hc45 : p1 = (46 : Int32)
              · refine own_step (B := s₁.setTop (mkF m 59 #[.val (.int p1)] [(.int (1 : Int32))])) (fun t k => ?_) ?_
                · show Steps p.tables e below (s₁.setTop (mkF m 45 #[.val (.int p1)] [(.int (46 : Int32)), (.int p1)])) _
                  refine XS.icmpYes X0.here hx rfl (pc0 := 45) (pc' := 54) rfl (hb hby d15_45) rfl (teq hc45).1 (by decide) (by decide) ?_
                  refine XS.iconst X0.here hx rfl (hb hby d15_54) ?_
                  refine XS.goto X0.here hx rfl (pc0 := 55) (pc' := 59) rfl (hb hby d15_55) (by decide) (by decide) ?_
                  exact k
                exact own_retN X0 hx Bd.notSynchronized (t := .boolean) Bd.returns (by simp) (hb hby d15_59) ⟨by show some (Value.int ((1 : Int32))) = _; simp [own_b, own_NC, hc3, hc9, hc15, hc21, hc27, hc39, hc45], N0, e0⟩ (by decide) (by decide)
              · refine own_step (B := s₁.setTop (mkF m 51 #[.val (.int p1)] [(.int (45 : Int32)), (.int p1)])) (fun t k => ?_) ?_
                · show Steps p.tables e below (s₁.setTop (mkF m 45 #[.val (.int p1)] [(.int (46 : Int32)), (.int p1)])) _
                  refine XS.icmpNo X0.here hx rfl (hb hby d15_45) rfl (feq hc45).1 ?_
                  refine XS.iloadN X0.here hx rfl (hb hby d15_48) rfl ?_
                  refine XS.bipush X0.here hx rfl (hb hby d15_49) ?_
                  exact k
                by_cases hc51 : p1 = (45 : Int32)
                · refine own_step (B := s₁.setTop (mkF m 59 #[.val (.int p1)] [(.int (1 : Int32))])) (fun t k => ?_) ?_
                  · show Steps p.tables e below (s₁.setTop (mkF m 51 #[.val (.int p1)] [(.int (45 : Int32)), (.int p1)])) _
                    refine XS.icmpNo X0.here hx rfl (hb hby d15_51) rfl (teq hc51).2 ?_
                    refine XS.iconst X0.here hx rfl (hb hby d15_54) ?_
                    refine XS.goto X0.here hx rfl (pc0 := 55) (pc' := 59) rfl (hb hby d15_55) (by decide) (by decide) ?_
                    exact k
                  exact own_retN X0 hx Bd.notSynchronized (t := .boolean) Bd.returns (by simp) (hb hby d15_59) ⟨by show some (Value.int ((1 : Int32))) = _; simp [own_b, own_NC, hc3, hc9, hc15, hc21, hc27, hc39, hc45, hc51], N0, e0⟩ (by decide) (by decide)
                · refine own_step (B := s₁.setTop (mkF m 59 #[.val (.int p1)] [(.int (0 : Int32))])) (fun t k => ?_) ?_
                  · show Steps p.tables e below (s₁.setTop (mkF m 51 #[.val (.int p1)] [(.int (45 : Int32)), (.int p1)])) _
                    refine XS.icmpYes X0.here hx rfl (pc0 := 51) (pc' := 58) rfl (hb hby d15_51) rfl (feq hc51).2 (by decide) (by decide) ?_
                    refine XS.iconst X0.here hx rfl (hb hby d15_58) ?_
                    exact k
                  exact own_retN X0 hx Bd.notSynchronized (t := .boolean) Bd.returns (by simp) (hb hby d15_59) ⟨by show some (Value.int ((0 : Int32))) = _; simp [own_b, own_NC, hc3, hc9, hc15, hc21, hc27, hc39, hc45, hc51], N0, e0⟩ (by decide) (by decide)
          · refine own_step (B := s₁.setTop (mkF m 33 #[.val (.int p1)] [(.int (57 : Int32)), (.int p1)])) (fun t k => ?_) ?_
            · show Steps p.tables e below (s₁.setTop (mkF m 27 #[.val (.int p1)] [(.int (48 : Int32)), (.int p1)])) _
              refine XS.icmpNo X0.here hx rfl (hb hby d15_27) rfl (flt hc27).1 ?_
              refine XS.iloadN X0.here hx rfl (hb hby d15_30) rfl ?_
              refine XS.bipush X0.here hx rfl (hb hby d15_31) ?_
              exact k
            by_cases hc33 : (57 : Int32) < p1
            · refine own_step (B := s₁.setTop (mkF m 39 #[.val (.int p1)] [(.int (95 : Int32)), (.int p1)])) (fun t k => ?_) ?_
              · show Steps p.tables e below (s₁.setTop (mkF m 33 #[.val (.int p1)] [(.int (57 : Int32)), (.int p1)])) _
                refine XS.icmpNo X0.here hx rfl (hb hby d15_33) rfl (tlt hc33).2.2.2 ?_
                refine XS.iloadN X0.here hx rfl (hb hby d15_36) rfl ?_
                refine XS.bipush X0.here hx rfl (hb hby d15_37) ?_
                exact k
              by_cases hc39 : p1 = (95 : Int32)
              · refine own_step (B := s₁.setTop (mkF m 59 #[.val (.int p1)] [(.int (1 : Int32))])) (fun t k => ?_) ?_
                · show Steps p.tables e below (s₁.setTop (mkF m 39 #[.val (.int p1)] [(.int (95 : Int32)), (.int p1)])) _
                  refine XS.icmpYes X0.here hx rfl (pc0 := 39) (pc' := 54) rfl (hb hby d15_39) rfl (teq hc39).1 (by decide) (by decide) ?_
                  refine XS.iconst X0.here hx rfl (hb hby d15_54) ?_
                  refine XS.goto X0.here hx rfl (pc0 := 55) (pc' := 59) rfl (hb hby d15_55) (by decide) (by decide) ?_
                  exact k
                exact own_retN X0 hx Bd.notSynchronized (t := .boolean) Bd.returns (by simp) (hb hby d15_59) ⟨by show some (Value.int ((1 : Int32))) = _; simp [own_b, own_NC, hc3, hc9, hc15, hc21, hc27, hc33, hc39], N0, e0⟩ (by decide) (by decide)
              · refine own_step (B := s₁.setTop (mkF m 45 #[.val (.int p1)] [(.int (46 : Int32)), (.int p1)])) (fun t k => ?_) ?_
                · show Steps p.tables e below (s₁.setTop (mkF m 39 #[.val (.int p1)] [(.int (95 : Int32)), (.int p1)])) _
                  refine XS.icmpNo X0.here hx rfl (hb hby d15_39) rfl (feq hc39).1 ?_
                  refine XS.iloadN X0.here hx rfl (hb hby d15_42) rfl ?_
                  refine XS.bipush X0.here hx rfl (hb hby d15_43) ?_
                  exact k
                by_cases hc45 : p1 = (46 : Int32)
                · refine own_step (B := s₁.setTop (mkF m 59 #[.val (.int p1)] [(.int (1 : Int32))])) (fun t k => ?_) ?_
                  · show Steps p.tables e below (s₁.setTop (mkF m 45 #[.val (.int p1)] [(.int (46 : Int32)), (.int p1)])) _
                    refine XS.icmpYes X0.here hx rfl (pc0 := 45) (pc' := 54) rfl (hb hby d15_45) rfl (teq hc45).1 (by decide) (by decide) ?_
                    refine XS.iconst X0.here hx rfl (hb hby d15_54) ?_
                    refine XS.goto X0.here hx rfl (pc0 := 55) (pc' := 59) rfl (hb hby d15_55) (by decide) (by decide) ?_
                    exact k
                  exact own_retN X0 hx Bd.notSynchronized (t := .boolean) Bd.returns (by simp) (hb hby d15_59) ⟨by show some (Value.int ((1 : Int32))) = _; simp [own_b, own_NC, hc3, hc9, hc15, hc21, hc27, hc33, hc39, hc45], N0, e0⟩ (by decide) (by decide)
                · refine own_step (B := s₁.setTop (mkF m 51 #[.val (.int p1)] [(.int (45 : Int32)), (.int p1)])) (fun t k => ?_) ?_
                  · show Steps p.tables e below (s₁.setTop (mkF m 45 #[.val (.int p1)] [(.int (46 : Int32)), (.int p1)])) _
                    refine XS.icmpNo X0.here hx rfl (hb hby d15_45) rfl (feq hc45).1 ?_
                    refine XS.iloadN X0.here hx rfl (hb hby d15_48) rfl ?_
                    refine XS.bipush X0.here hx rfl (hb hby d15_49) ?_
                    exact k
                  by_cases hc51 : p1 = (45 : Int32)
                  · refine own_step (B := s₁.setTop (mkF m 59 #[.val (.int p1)] [(.int (1 : Int32))])) (fun t k => ?_) ?_
                    · show Steps p.tables e below (s₁.setTop (mkF m 51 #[.val (.int p1)] [(.int (45 : Int32)), (.int p1)])) _
                      refine XS.icmpNo X0.here hx rfl (hb hby d15_51) rfl (teq hc51).2 ?_
                      refine XS.iconst X0.here hx rfl (hb hby d15_54) ?_
                      refine XS.goto X0.here hx rfl (pc0 := 55) (pc' := 59) rfl (hb hby d15_55) (by decide) (by decide) ?_
                      exact k
                    exact own_retN X0 hx Bd.notSynchronized (t := .boolean) Bd.returns (by simp) (hb hby d15_59) ⟨by show some (Value.int ((1 : Int32))) = _; simp [own_b, own_NC, hc3, hc9, hc15, hc21, hc27, hc33, hc39, hc45, hc51], N0, e0⟩ (by decide) (by decide)
                  · refine own_step (B := s₁.setTop (mkF m 59 #[.val (.int p1)] [(.int (0 : Int32))])) (fun t k => ?_) ?_
                    · show Steps p.tables e below (s₁.setTop (mkF m 51 #[.val (.int p1)] [(.int (45 : Int32)), (.int p1)])) _
                      refine XS.icmpYes X0.here hx rfl (pc0 := 51) (pc' := 58) rfl (hb hby d15_51) rfl (feq hc51).2 (by decide) (by decide) ?_
                      refine XS.iconst X0.here hx rfl (hb hby d15_58) ?_
                      exact k
                    exact own_retN X0 hx Bd.notSynchronized (t := .boolean) Bd.returns (by simp) (hb hby d15_59) ⟨by show some (Value.int ((0 : Int32))) = _; simp [own_b, own_NC, hc3, hc9, hc15, hc21, hc27, hc33, hc39, hc45, hc51], N0, e0⟩ (by decide) (by decide)
            · refine own_step (B := s₁.setTop (mkF m 59 #[.val (.int p1)] [(.int (1 : Int32))])) (fun t k => ?_) ?_
              · show Steps p.tables e below (s₁.setTop (mkF m 33 #[.val (.int p1)] [(.int (57 : Int32)), (.int p1)])) _
                refine XS.icmpYes X0.here hx rfl (pc0 := 33) (pc' := 54) rfl (hb hby d15_33) rfl (flt hc33).2.2.2 (by decide) (by decide) ?_
                refine XS.iconst X0.here hx rfl (hb hby d15_54) ?_
                refine XS.goto X0.here hx rfl (pc0 := 55) (pc' := 59) rfl (hb hby d15_55) (by decide) (by decide) ?_
                exact k
              exact own_retN X0 hx Bd.notSynchronized (t := .boolean) Bd.returns (by simp) (hb hby d15_59) ⟨by show some (Value.int ((1 : Int32))) = _; simp [own_b, own_NC, hc3, hc9, hc15, hc21, hc27, hc33], N0, e0⟩ (by decide) (by decide)
        · refine own_step (B := s₁.setTop (mkF m 59 #[.val (.int p1)] [(.int (1 : Int32))])) (fun t k => ?_) ?_
          · show Steps p.tables e below (s₁.setTop (mkF m 21 #[.val (.int p1)] [(.int (122 : Int32)), (.int p1)])) _
            refine XS.icmpYes X0.here hx rfl (pc0 := 21) (pc' := 54) rfl (hb hby d15_21) rfl (flt hc21).2.2.2 (by decide) (by decide) ?_
            refine XS.iconst X0.here hx rfl (hb hby d15_54) ?_
            refine XS.goto X0.here hx rfl (pc0 := 55) (pc' := 59) rfl (hb hby d15_55) (by decide) (by decide) ?_
            exact k
          exact own_retN X0 hx Bd.notSynchronized (t := .boolean) Bd.returns (by simp) (hb hby d15_59) ⟨by show some (Value.int ((1 : Int32))) = _; simp [own_b, own_NC, hc3, hc9, hc15, hc21], N0, e0⟩ (by decide) (by decide)
    · refine own_step (B := s₁.setTop (mkF m 59 #[.val (.int p1)] [(.int (1 : Int32))])) (fun t k => ?_) ?_
      · show Steps p.tables e below (s₁.setTop (mkF m 9 #[.val (.int p1)] [(.int (90 : Int32)), (.int p1)])) _
        refine XS.icmpYes X0.here hx rfl (pc0 := 9) (pc' := 54) rfl (hb hby d15_9) rfl (flt hc9).2.2.2 (by decide) (by decide) ?_
        refine XS.iconst X0.here hx rfl (hb hby d15_54) ?_
        refine XS.goto X0.here hx rfl (pc0 := 55) (pc' := 59) rfl (hb hby d15_55) (by decide) (by decide) ?_
        exact k
      exact own_retN X0 hx Bd.notSynchronized (t := .boolean) Bd.returns (by simp) (hb hby d15_59) ⟨by show some (Value.int ((1 : Int32))) = _; simp [own_b, own_NC, hc3, hc9], N0, e0⟩ (by decide) (by decide)
theorem d6_0 : decode prog_76_method_2_code 0 = .ok (.aload_n 1, 1) := by decide +kernel
theorem d6_1 : decode prog_76_method_2_code 1 = .ok (.invokevirtual 7, 3) := by decide +kernel
theorem d6_4 : decode prog_76_method_2_code 4 = .ok (.ifCond .ne 12, 3) := by decide +kernel
theorem d6_7 : decode prog_76_method_2_code 7 = .ok (.aload_n 1, 1) := by decide +kernel
theorem d6_8 : decode prog_76_method_2_code 8 = .ok (.invokevirtual 13, 3) := by decide +kernel
theorem d6_11 : decode prog_76_method_2_code 11 = .ok (.bipush 64, 2) := by decide +kernel
theorem d6_13 : decode prog_76_method_2_code 13 = .ok (.if_icmp .le 21, 3) := by decide +kernel
theorem d6_16 : decode prog_76_method_2_code 16 = .ok (.new 19, 3) := by decide +kernel
theorem d6_19 : decode prog_76_method_2_code 19 = .ok (.dup, 1) := by decide +kernel
theorem d6_20 : decode prog_76_method_2_code 20 = .ok (.aload_n 0, 1) := by decide +kernel
theorem d6_21 : decode prog_76_method_2_code 21 = .ok (.aload_n 1, 1) := by decide +kernel
theorem d6_22 : decode prog_76_method_2_code 22 = .ok (.invokevirtual 13, 3) := by decide +kernel
theorem d6_30 : decode prog_76_method_2_code 30 = .ok (.invokespecial 25, 3) := by decide +kernel
theorem d6_33 : decode prog_76_method_2_code 33 = .ok (.athrow, 1) := by decide +kernel
theorem d6_34 : decode prog_76_method_2_code 34 = .ok (.iconst 0, 1) := by decide +kernel
theorem d6_35 : decode prog_76_method_2_code 35 = .ok (.istore_n 2, 1) := by decide +kernel
theorem d6_36 : decode prog_76_method_2_code 36 = .ok (.iload_n 2, 1) := by decide +kernel
theorem d6_37 : decode prog_76_method_2_code 37 = .ok (.aload_n 1, 1) := by decide +kernel
theorem d6_38 : decode prog_76_method_2_code 38 = .ok (.invokevirtual 13, 3) := by decide +kernel
theorem d6_41 : decode prog_76_method_2_code 41 = .ok (.if_icmp .ge 57, 3) := by decide +kernel
theorem d6_44 : decode prog_76_method_2_code 44 = .ok (.aload_n 1, 1) := by decide +kernel
theorem d6_45 : decode prog_76_method_2_code 45 = .ok (.iload_n 2, 1) := by decide +kernel
theorem d6_46 : decode prog_76_method_2_code 46 = .ok (.invokevirtual 28, 3) := by decide +kernel
theorem d6_49 : decode prog_76_method_2_code 49 = .ok (.istore_n 3, 1) := by decide +kernel
theorem d6_50 : decode prog_76_method_2_code 50 = .ok (.iload_n 3, 1) := by decide +kernel
theorem d6_51 : decode prog_76_method_2_code 51 = .ok (.invokestatic 32, 3) := by decide +kernel
theorem d6_54 : decode prog_76_method_2_code 54 = .ok (.ifCond .ne 38, 3) := by decide +kernel
theorem d6_57 : decode prog_76_method_2_code 57 = .ok (.new 19, 3) := by decide +kernel
theorem d6_60 : decode prog_76_method_2_code 60 = .ok (.dup, 1) := by decide +kernel
theorem d6_61 : decode prog_76_method_2_code 61 = .ok (.ldc 36, 2) := by decide +kernel
theorem d6_63 : decode prog_76_method_2_code 63 = .ok (.iconst 3, 1) := by decide +kernel
theorem d6_64 : decode prog_76_method_2_code 64 = .ok (.anewarray 2, 3) := by decide +kernel
theorem d6_67 : decode prog_76_method_2_code 67 = .ok (.dup, 1) := by decide +kernel
theorem d6_68 : decode prog_76_method_2_code 68 = .ok (.iconst 0, 1) := by decide +kernel
theorem d6_69 : decode prog_76_method_2_code 69 = .ok (.aload_n 0, 1) := by decide +kernel
theorem d6_70 : decode prog_76_method_2_code 70 = .ok (.aastore, 1) := by decide +kernel
theorem d6_71 : decode prog_76_method_2_code 71 = .ok (.dup, 1) := by decide +kernel
theorem d6_72 : decode prog_76_method_2_code 72 = .ok (.iconst 1, 1) := by decide +kernel
theorem d6_73 : decode prog_76_method_2_code 73 = .ok (.iload_n 3, 1) := by decide +kernel
theorem d6_74 : decode prog_76_method_2_code 74 = .ok (.invokestatic 38, 3) := by decide +kernel
theorem d6_77 : decode prog_76_method_2_code 77 = .ok (.aastore, 1) := by decide +kernel
theorem d6_78 : decode prog_76_method_2_code 78 = .ok (.dup, 1) := by decide +kernel
theorem d6_79 : decode prog_76_method_2_code 79 = .ok (.iconst 2, 1) := by decide +kernel
theorem d6_80 : decode prog_76_method_2_code 80 = .ok (.iload_n 2, 1) := by decide +kernel
theorem d6_81 : decode prog_76_method_2_code 81 = .ok (.invokestatic 38, 3) := by decide +kernel
theorem d6_84 : decode prog_76_method_2_code 84 = .ok (.aastore, 1) := by decide +kernel
theorem d6_85 : decode prog_76_method_2_code 85 = .ok (.invokestatic 44, 3) := by decide +kernel
theorem d6_88 : decode prog_76_method_2_code 88 = .ok (.invokespecial 25, 3) := by decide +kernel
theorem d6_91 : decode prog_76_method_2_code 91 = .ok (.athrow, 1) := by decide +kernel
theorem d6_92 : decode prog_76_method_2_code 92 = .ok (.iinc 2 1, 3) := by decide +kernel
theorem d6_95 : decode prog_76_method_2_code 95 = .ok (.goto (-59), 3) := by decide +kernel
theorem d6_98 : decode prog_76_method_2_code 98 = .ok (.return_, 1) := by decide +kernel
theorem pd_9 : parseMethodDescriptor "()I" = some ⟨[], some .int⟩ := by decide +kernel
theorem pd_10 : parseMethodDescriptor "(I)C" = some ⟨[.int], some .char⟩ := by decide +kernel
theorem pd_11 : parseMethodDescriptor "(C)Z" = some ⟨[.char], some .boolean⟩ := by decide +kernel
theorem ef_6 (m : MethodId) (a1 : Addr) (a2 : Addr) : entryFrame m #[(.ref a1), (.ref a2)] 4 = mkF m 0 #[.val (.ref a1), .val (.ref a2), .unset, .unset] [] := by first | (simp [entryFrame, mkF, argsToLocals, Value.category]; done) | rfl
def Q6 (Z : State) (a1 : Addr) (a2 : Addr) (cs : Int32) (vf : Value) (b : Addr) (k : ClassId) (h0 : Heap) (n0 : Nat) (v : Option Value) (h : Heap) (L : List Loc) : Prop := v = none ∧ Fr n0 L ∧ h = h0
set_option maxRecDepth 65536 in
set_option maxHeartbeats 40000000 in
theorem rm6 (l : Launch) (Z : State) (a0 : Array Value) (hw : ∀ d ∈ tables_1, d.before a0 Z = true) (ws : List Jvm.Cond) (a1 : Addr) (a2 : Addr) (cs : Int32) (vf : Value) (b : Addr) (k : ClassId) (h0 : Heap) (n0 : Nat) (Z0 : n0 ≤ h0.size) (P_0 : Exa Z h0 a2 "java/lang/String") (P_1 : Fld Z h0 a2 "java/lang/String" "coder" "B" (.int (0 : Int32))) (P_2 : Fld Z h0 a2 "java/lang/String" "value" "[B" (.ref b)) (V_b : Arv Z h0 b k .byte (1 : Int32) [(.int (102 : Int32))] (.int 0)) (S_C : Sta Z h0 "java/lang/String" "COMPACT_STRINGS" "Z" (.int cs)) (hcs : ¬ (cs = (0 : Int32))) (S_F : Sta Z h0 "jdk/internal/util/Preconditions" "SIOOBE_FORMATTER" "Ljava/util/function/BiFunction;" vf) (hvf : vf.isRef = true) :
    MetFree l (⟨"com/example/nests/nests/model/Names", "check", "(Ljava/lang/String;Ljava/lang/String;)V"⟩ : MethodName) (head1 (Jvm.Cond.code (⟨"com/example/nests/nests/model/Names", "check", "(Ljava/lang/String;Ljava/lang/String;)V"⟩ : MethodName) prog_76_method_2_code 4 none :: ws) ({ frames := 4, cells := 0, slots := 0, locals := 53 } : Room)) (fun a U => a = #[(.ref a1), (.ref a2)] ∧ Z.Warmed39 U.vm ∧ U.heap = h0) (fun _ _ _ _ _ => True) (fun _ U o U' => ∃ v L, o = .returned v ∧ Q6 Z a1 a2 cs vf b k h0 n0 v U'.heap L ∧ FrameEnd U o U' L ({ frames := 4, cells := 0, slots := 0, locals := 53 } : Room).cells ({ frames := 4, cells := 0, slots := 0, locals := 53 } : Room).slots) := by
  refine MetFree.of_bodySF (plainFor_of_name pn_8) hisR ?_
  intro p e s m args below meth c s₁ Bd hml0 hP hK
  obtain ⟨rfl, hZ, hh⟩ := hP
  have hx := Bd.exec
  have hby := Bd.bytes
  have hml : c.maxLocals = 4 := hml0
  have hown : s.vm.findClass "com/example/nests/nests/model/Names" = some m.cls := findClass_of_methodNamed Bd.named
  have hnm := (name_of_methodNamed Bd.named Bd.method).1
  have X0 : Stand p l e ({ frames := 4, cells := 0, slots := 0, locals := 53 } : Room) s m #[(.ref a1), (.ref a2)] below meth c s₁ [] 0 0 := Stand.of_body Bd
  have e0 : s₁.heap = h0 := by rw [← hh, Bd.state]; rfl
  have N0 := Fr.nil n0
  skip
  show own_Go p e below s (Q6 Z a1 a2 cs vf b k h0 n0) ({ frames := 4, cells := 0, slots := 0, locals := 53 } : Room).cells ({ frames := 4, cells := 0, slots := 0, locals := 53 } : Room).slots _
  refine own_step (B := s₁.setTop (mkF m 0 #[.val (.ref a1), .val (.ref a2), .unset, .unset] [])) (fun t k => castTop (ef_6 m a1 a2) k) ?_
  obtain ⟨cl, Ar, -, Sz, Nz, Hs, -⟩ := V_b
  have hlen : cl.slots.size.toInt32 = (1 : Int32) := len_of Sz Nz
  have hin0 : ¬ ((0 : Int32) < 0 ∨ cl.slots.size ≤ ((0 : Int32)).toNatClampNeg) := inb_of Sz ⟨by decide, by decide⟩
  have hat0 : cl.slots[((0 : Int32)).toNatClampNeg]? = some (.int (102 : Int32)) := Has.at Hs hin0 rfl
  refine own_step (B := s₁.setTop (mkF m 1 #[.val (.ref a1), .val (.ref a2), .unset, .unset] [(.ref a2)])) (fun t k => ?_) ?_
  · show Steps p.tables e below (s₁.setTop (mkF m 0 #[.val (.ref a1), .val (.ref a2), .unset, .unset] [])) _
    refine XS.aloadN X0.here hx rfl (hb hby d6_0) rfl rfl ?_
    exact k
  obtain ⟨cq1, kq1, q1a, q1b, q1c⟩ := isOf hZ e0 P_0
  obtain ⟨_, _, ⟨T1, L1, k1, n1⟩, -, X1, ⟨Lc1, hQ1, l1, y1, z1⟩, st1⟩ := X0.virtualBack hx (y := (⟨"java/lang/String", "isEmpty", "()Z"⟩ : MethodName)) (z := (⟨"java/lang/String", "isEmpty", "()Z"⟩ : MethodName)) hown (mvT hZ (hw _ (List.mem_of_getElem? (i := 49) rfl))) (mvT hZ (hw _ (List.mem_of_getElem? (i := 50) rfl))) (notFace_of_selects (args := #[]) (mvT hZ (hw _ (List.mem_of_getElem? (i := 52) rfl)))) (mvT hZ (hw _ (List.mem_of_getElem? (i := 52) rfl))) (mvT hZ (hw _ (List.mem_of_getElem? (i := 51) rfl))) (by decide) (backOf (W := 0) (rm7 l Z a0 hw [] a2 b cl (1 : Int32) h0 n0 Z0 P_2 Ar hlen (by decide)) hZ (hw _ (List.mem_of_getElem? (i := 53) rfl)) (hw _ (List.mem_of_getElem? (i := 6) rfl)) (by decide) (by decide)) q1a q1c (g := (mkF m 1 #[.val (.ref a1), .val (.ref a2), .unset, .unset] [(.ref a2)])) rfl (by rw [hml]; rfl) (Steps.refl _) (argsL := []) (rest := []) (lenOf pd_6 rfl) rfl (by show 2 * 0 + _ ≤ _; exact Nat.le_of_eq rfl) (hb hby d6_1) (fun _ _ => ⟨rfl, e0, (by decide : 0 + 0 ≤ _), (by decide : 0 + 0 ≤ _)⟩)
  dsimp only [Pt.U, Pt.locs, Pt.cells, Pt.slots] at X1 l1 y1 z1 st1 hQ1
  subst l1 y1 z1
  obtain ⟨rfl, N1q, e1⟩ := hQ1
  have N1 := Fr.app N0 N1q
  refine own_via st1 ?_
  show own_Go p e below s _ _ _ (T1.setTop (mkF m 4 #[.val (.ref a1), .val (.ref a2), .unset, .unset] [(.int (0 : Int32))]))
  refine own_step (B := T1.setTop (mkF m 8 #[.val (.ref a1), .val (.ref a2), .unset, .unset] [(.ref a2)])) (fun t k => ?_) ?_
  · show Steps p.tables e below (T1.setTop (mkF m 4 #[.val (.ref a1), .val (.ref a2), .unset, .unset] [(.int (0 : Int32))])) _
    refine XS.ifNo X1.here hx rfl (hb hby d6_4) rfl ((if0 _ _).trans (teq (by decide : ((0 : Int32) = (0 : Int32)))).2) ?_
    refine XS.aloadN X1.here hx rfl (hb hby d6_7) rfl rfl ?_
    exact k
  obtain ⟨cq2, kq2, q2a, q2b, q2c⟩ := isOf hZ e1 P_0
  obtain ⟨_, _, ⟨T2, L2, k2, n2⟩, -, X2, ⟨Lc2, hQ2, l2, y2, z2⟩, st2⟩ := X1.virtualBack hx (y := (⟨"java/lang/String", "length", "()I"⟩ : MethodName)) (z := (⟨"java/lang/String", "length", "()I"⟩ : MethodName)) hown (mvT hZ (hw _ (List.mem_of_getElem? (i := 55) rfl))) (mvT hZ (hw _ (List.mem_of_getElem? (i := 56) rfl))) (notFace_of_selects (args := #[]) (mvT hZ (hw _ (List.mem_of_getElem? (i := 58) rfl)))) (mvT hZ (hw _ (List.mem_of_getElem? (i := 58) rfl))) (mvT hZ (hw _ (List.mem_of_getElem? (i := 57) rfl))) (by decide) (backOf (W := 0) (rm8 l Z a0 hw [] a2 cs b cl (1 : Int32) h0 n0 Z0 P_0 P_1 P_2 Ar hlen S_C hcs) hZ (hw _ (List.mem_of_getElem? (i := 59) rfl)) (hw _ (List.mem_of_getElem? (i := 6) rfl)) (by decide) (by decide)) q2a q2c (g := (mkF m 8 #[.val (.ref a1), .val (.ref a2), .unset, .unset] [(.ref a2)])) rfl (by rw [hml]; rfl) (Steps.refl _) (argsL := []) (rest := []) (lenOf pd_9 rfl) rfl (by show 2 * 0 + _ ≤ _; exact Nat.le_of_eq rfl) (hb hby d6_8) (fun _ _ => ⟨rfl, e1, (by decide : 0 + 0 ≤ _), (by decide : 0 + 0 ≤ _)⟩)
  dsimp only [Pt.U, Pt.locs, Pt.cells, Pt.slots] at X2 l2 y2 z2 st2 hQ2
  subst l2 y2 z2
  obtain ⟨rfl, N2q, e2⟩ := hQ2
  have N2 := Fr.app N1 N2q
  refine own_via st2 ?_
  show own_Go p e below s _ _ _ (T2.setTop (mkF m 11 #[.val (.ref a1), .val (.ref a2), .unset, .unset] [(.int (1 : Int32))]))
  refine own_step (B := T2.setTop (mkF m 38 #[.val (.ref a1), .val (.ref a2), .val (.int (0 : Int32)), .unset] [(.ref a2), (.int (0 : Int32))])) (fun t k => ?_) ?_
  · show Steps p.tables e below (T2.setTop (mkF m 11 #[.val (.ref a1), .val (.ref a2), .unset, .unset] [(.int (1 : Int32))])) _
    refine XS.bipush X2.here hx rfl (hb hby d6_11) ?_
    refine XS.icmpYes X2.here hx rfl (pc0 := 13) (pc' := 34) rfl (hb hby d6_13) rfl (flt (by decide : ¬ ((64 : Int32) < (1 : Int32)))).2.2.2 (by decide) (by decide) ?_
    refine XS.iconst X2.here hx rfl (hb hby d6_34) ?_
    refine XS.istoreN X2.here hx rfl (hb hby d6_35) rfl (l' := #[.val (.ref a1), .val (.ref a2), .val (.int (0 : Int32)), .unset]) rfl ?_
    refine XS.iloadN X2.here hx rfl (hb hby d6_36) rfl ?_
    refine XS.aloadN X2.here hx rfl (hb hby d6_37) rfl rfl ?_
    exact k
  obtain ⟨cq3, kq3, q3a, q3b, q3c⟩ := isOf hZ e2 P_0
  obtain ⟨_, _, ⟨T3, L3, k3, n3⟩, -, X3, ⟨Lc3, hQ3, l3, y3, z3⟩, st3⟩ := X2.virtualBack hx (y := (⟨"java/lang/String", "length", "()I"⟩ : MethodName)) (z := (⟨"java/lang/String", "length", "()I"⟩ : MethodName)) hown (mvT hZ (hw _ (List.mem_of_getElem? (i := 55) rfl))) (mvT hZ (hw _ (List.mem_of_getElem? (i := 56) rfl))) (notFace_of_selects (args := #[]) (mvT hZ (hw _ (List.mem_of_getElem? (i := 58) rfl)))) (mvT hZ (hw _ (List.mem_of_getElem? (i := 58) rfl))) (mvT hZ (hw _ (List.mem_of_getElem? (i := 57) rfl))) (by decide) (backOf (W := 1) (rm8 l Z a0 hw [] a2 cs b cl (1 : Int32) h0 n0 Z0 P_0 P_1 P_2 Ar hlen S_C hcs) hZ (hw _ (List.mem_of_getElem? (i := 59) rfl)) (hw _ (List.mem_of_getElem? (i := 6) rfl)) (by decide) (by decide)) q3a q3c (g := (mkF m 38 #[.val (.ref a1), .val (.ref a2), .val (.int (0 : Int32)), .unset] [(.ref a2), (.int (0 : Int32))])) rfl (by rw [hml]; rfl) (Steps.refl _) (argsL := []) (rest := [(.int (0 : Int32))]) (lenOf pd_9 rfl) rfl (by show 2 * 0 + _ ≤ _; exact Nat.le_of_eq rfl) (hb hby d6_38) (fun _ _ => ⟨rfl, e2, (by decide : 0 + 0 ≤ _), (by decide : 0 + 0 ≤ _)⟩)
  dsimp only [Pt.U, Pt.locs, Pt.cells, Pt.slots] at X3 l3 y3 z3 st3 hQ3
  subst l3 y3 z3
  obtain ⟨rfl, N3q, e3⟩ := hQ3
  have N3 := Fr.app N2 N3q
  refine own_via st3 ?_
  show own_Go p e below s _ _ _ (T3.setTop (mkF m 41 #[.val (.ref a1), .val (.ref a2), .val (.int (0 : Int32)), .unset] [(.int (1 : Int32)), (.int (0 : Int32))]))
  refine own_step (B := T3.setTop (mkF m 46 #[.val (.ref a1), .val (.ref a2), .val (.int (0 : Int32)), .unset] [(.int (0 : Int32)), (.ref a2)])) (fun t k => ?_) ?_
  · show Steps p.tables e below (T3.setTop (mkF m 41 #[.val (.ref a1), .val (.ref a2), .val (.int (0 : Int32)), .unset] [(.int (1 : Int32)), (.int (0 : Int32))])) _
    refine XS.icmpNo X3.here hx rfl (hb hby d6_41) rfl (tlt (by decide : ((0 : Int32) < (1 : Int32)))).2.1 ?_
    refine XS.aloadN X3.here hx rfl (hb hby d6_44) rfl rfl ?_
    refine XS.iloadN X3.here hx rfl (hb hby d6_45) rfl ?_
    exact k
  obtain ⟨cq4, kq4, q4a, q4b, q4c⟩ := isOf hZ e3 P_0
  obtain ⟨_, _, ⟨T4, L4, k4, n4⟩, -, X4, ⟨Lc4, hQ4, l4, y4, z4⟩, st4⟩ := X3.virtualBack hx (y := (⟨"java/lang/String", "charAt", "(I)C"⟩ : MethodName)) (z := (⟨"java/lang/String", "charAt", "(I)C"⟩ : MethodName)) hown (mvT hZ (hw _ (List.mem_of_getElem? (i := 67) rfl))) (mvT hZ (hw _ (List.mem_of_getElem? (i := 68) rfl))) (notFace_of_selects (args := #[]) (mvT hZ (hw _ (List.mem_of_getElem? (i := 70) rfl)))) (mvT hZ (hw _ (List.mem_of_getElem? (i := 70) rfl))) (mvT hZ (hw _ (List.mem_of_getElem? (i := 69) rfl))) (by decide) (backOf (W := 0) (rm10 l Z a0 hw [] a2 (0 : Int32) cs vf b cl (1 : Int32) (102 : Int32) h0 n0 Z0 P_0 P_1 P_2 Ar hlen (by decide) (by decide) hin0 hat0 S_C hcs S_F hvf) hZ (hw _ (List.mem_of_getElem? (i := 71) rfl)) (hw _ (List.mem_of_getElem? (i := 6) rfl)) (by decide) (by decide)) q4a q4c (g := (mkF m 46 #[.val (.ref a1), .val (.ref a2), .val (.int (0 : Int32)), .unset] [(.int (0 : Int32)), (.ref a2)])) rfl (by rw [hml]; rfl) (Steps.refl _) (argsL := [(.int (0 : Int32))]) (rest := []) (lenOf pd_10 rfl) rfl (by show 2 * 0 + _ ≤ _; exact Nat.le_of_eq rfl) (hb hby d6_46) (fun _ _ => ⟨rfl, e3, (by decide : 0 + 0 ≤ _), (by decide : 0 + 0 ≤ _)⟩)
  dsimp only [Pt.U, Pt.locs, Pt.cells, Pt.slots] at X4 l4 y4 z4 st4 hQ4
  subst l4 y4 z4
  obtain ⟨rfl, N4q, e4⟩ := hQ4
  have N4 := Fr.app N3 N4q
  refine own_via st4 ?_
  show own_Go p e below s _ _ _ (T4.setTop (mkF m 49 #[.val (.ref a1), .val (.ref a2), .val (.int (0 : Int32)), .unset] [(.int (own_ch (102 : Int32)))]))
  refine own_step (B := T4.setTop (mkF m 51 #[.val (.ref a1), .val (.ref a2), .val (.int (0 : Int32)), .val (.int (own_ch (102 : Int32)))] [(.int (own_ch (102 : Int32)))])) (fun t k => ?_) ?_
  · show Steps p.tables e below (T4.setTop (mkF m 49 #[.val (.ref a1), .val (.ref a2), .val (.int (0 : Int32)), .unset] [(.int (own_ch (102 : Int32)))])) _
    refine XS.istoreN X4.here hx rfl (hb hby d6_49) rfl (l' := #[.val (.ref a1), .val (.ref a2), .val (.int (0 : Int32)), .val (.int (own_ch (102 : Int32)))]) rfl ?_
    refine XS.iloadN X4.here hx rfl (hb hby d6_50) rfl ?_
    exact k
  obtain ⟨_, _, ⟨T5, L5, k5, n5⟩, -, X5, ⟨Lc5, hQ5, l5, y5, z5⟩, st5⟩ := Jvm.LawKit.callS X4 hx (y := (⟨"com/example/nests/nests/model/Names", "isNameChar", "(C)Z"⟩ : MethodName)) hown (mvT hZ (hw _ (List.mem_of_getElem? (i := 89) rfl))) (mvT hZ (hw _ (List.mem_of_getElem? (i := 90) rfl))) (mvT hZ (hw _ (List.mem_of_getElem? (i := 47) rfl))) (mvT hZ (hw _ (List.mem_of_getElem? (i := 91) rfl))) (by decide) (backOf (W := 0) (rm15 l Z a0 hw [] (own_ch (102 : Int32))  h0 n0 Z0 ) hZ (hw _ (List.mem_of_getElem? (i := 91) rfl)) (hw _ (List.mem_of_getElem? (i := 47) rfl)) (by decide) (by decide)) (g := (mkF m 51 #[.val (.ref a1), .val (.ref a2), .val (.int (0 : Int32)), .val (.int (own_ch (102 : Int32)))] [(.int (own_ch (102 : Int32)))])) rfl (by rw [hml]; rfl) (argsL := [(.int (own_ch (102 : Int32)))]) (rest := []) (lenOf pd_11 rfl) rfl (by show 2 * 0 + _ ≤ _; exact Nat.le_of_eq rfl) (hb hby d6_51) (fun _ _ => ⟨rfl, e4, (by decide : 0 + 0 ≤ _), (by decide : 0 + 0 ≤ _)⟩)
  dsimp only [Pt.U, Pt.locs, Pt.cells, Pt.slots] at X5 l5 y5 z5 st5 hQ5
  subst l5 y5 z5
  obtain ⟨rfl, N5q, e5⟩ := hQ5
  have N5 := Fr.app N4 N5q
  refine own_step st5 ?_
  show own_Go p e below s _ _ _ (T5.setTop (mkF m 54 #[.val (.ref a1), .val (.ref a2), .val (.int (0 : Int32)), .val (.int (own_ch (102 : Int32)))] [(.int (own_b (own_NC (own_ch (102 : Int32)))))]))
  refine own_step (B := T5.setTop (mkF m 95 #[.val (.ref a1), .val (.ref a2), .val (.int ((0 : Int32) + (1 : Int32))), .val (.int (own_ch (102 : Int32)))] [])) (fun t k => ?_) ?_
  · show Steps p.tables e below (T5.setTop (mkF m 54 #[.val (.ref a1), .val (.ref a2), .val (.int (0 : Int32)), .val (.int (own_ch (102 : Int32)))] [(.int (own_b (own_NC (own_ch (102 : Int32)))))])) _
    refine XS.ifYes X5.here hx rfl (pc0 := 54) (pc' := 92) rfl (hb hby d6_54) rfl ((if0 _ _).trans (feq (by decide)).2) (by decide) (by decide) ?_
    refine XS.iinc X5.here hx rfl (hb hby d6_92) rfl (l' := #[.val (.ref a1), .val (.ref a2), .val (.int ((0 : Int32) + (1 : Int32))), .val (.int (own_ch (102 : Int32)))]) rfl ?_
    exact k
  show own_Go p e below s _ _ _ (T5.setTop (mkF m 95 #[.val (.ref a1), .val (.ref a2), .val (.int (1 : Int32)), .val (.int (own_ch (102 : Int32)))] []))
  refine own_step (B := T5.setTop (mkF m 38 #[.val (.ref a1), .val (.ref a2), .val (.int (1 : Int32)), .val (.int (own_ch (102 : Int32)))] [(.ref a2), (.int (1 : Int32))])) (fun t k => ?_) ?_
  · show Steps p.tables e below (T5.setTop (mkF m 95 #[.val (.ref a1), .val (.ref a2), .val (.int (1 : Int32)), .val (.int (own_ch (102 : Int32)))] [])) _
    refine XS.goto X5.here hx rfl (pc0 := 95) (pc' := 36) rfl (hb hby d6_95) (by decide) (by decide) ?_
    refine XS.iloadN X5.here hx rfl (hb hby d6_36) rfl ?_
    refine XS.aloadN X5.here hx rfl (hb hby d6_37) rfl rfl ?_
    exact k
  obtain ⟨cq6, kq6, q6a, q6b, q6c⟩ := isOf hZ e5 P_0
  obtain ⟨_, _, ⟨T6, L6, k6, n6⟩, -, X6, ⟨Lc6, hQ6, l6, y6, z6⟩, st6⟩ := X5.virtualBack hx (y := (⟨"java/lang/String", "length", "()I"⟩ : MethodName)) (z := (⟨"java/lang/String", "length", "()I"⟩ : MethodName)) hown (mvT hZ (hw _ (List.mem_of_getElem? (i := 55) rfl))) (mvT hZ (hw _ (List.mem_of_getElem? (i := 56) rfl))) (notFace_of_selects (args := #[]) (mvT hZ (hw _ (List.mem_of_getElem? (i := 58) rfl)))) (mvT hZ (hw _ (List.mem_of_getElem? (i := 58) rfl))) (mvT hZ (hw _ (List.mem_of_getElem? (i := 57) rfl))) (by decide) (backOf (W := 1) (rm8 l Z a0 hw [] a2 cs b cl (1 : Int32) h0 n0 Z0 P_0 P_1 P_2 Ar hlen S_C hcs) hZ (hw _ (List.mem_of_getElem? (i := 59) rfl)) (hw _ (List.mem_of_getElem? (i := 6) rfl)) (by decide) (by decide)) q6a q6c (g := (mkF m 38 #[.val (.ref a1), .val (.ref a2), .val (.int (1 : Int32)), .val (.int (own_ch (102 : Int32)))] [(.ref a2), (.int (1 : Int32))])) rfl (by rw [hml]; rfl) (Steps.refl _) (argsL := []) (rest := [(.int (1 : Int32))]) (lenOf pd_9 rfl) rfl (by show 2 * 0 + _ ≤ _; exact Nat.le_of_eq rfl) (hb hby d6_38) (fun _ _ => ⟨rfl, e5, (by decide : 0 + 0 ≤ _), (by decide : 0 + 0 ≤ _)⟩)
  dsimp only [Pt.U, Pt.locs, Pt.cells, Pt.slots] at X6 l6 y6 z6 st6 hQ6
  subst l6 y6 z6
  obtain ⟨rfl, N6q, e6⟩ := hQ6
  have N6 := Fr.app N5 N6q
  refine own_via st6 ?_
  show own_Go p e below s _ _ _ (T6.setTop (mkF m 41 #[.val (.ref a1), .val (.ref a2), .val (.int (1 : Int32)), .val (.int (own_ch (102 : Int32)))] [(.int (1 : Int32)), (.int (1 : Int32))]))
  refine own_step (B := T6.setTop (mkF m 98 #[.val (.ref a1), .val (.ref a2), .val (.int (1 : Int32)), .val (.int (own_ch (102 : Int32)))] [])) (fun t k => ?_) ?_
  · show Steps p.tables e below (T6.setTop (mkF m 41 #[.val (.ref a1), .val (.ref a2), .val (.int (1 : Int32)), .val (.int (own_ch (102 : Int32)))] [(.int (1 : Int32)), (.int (1 : Int32))])) _
    refine XS.icmpYes X6.here hx rfl (pc0 := 41) (pc' := 98) rfl (hb hby d6_41) rfl (flt (by decide : ¬ ((1 : Int32) < (1 : Int32)))).2.1 (by decide) (by decide) ?_
    exact k
  exact own_retV X6 hx Bd.notSynchronized Bd.returns (hb hby d6_98) ⟨rfl, N6, e6⟩ (by decide) (by decide)
theorem d5_0 : decode prog_68_method_3_code 0 = .ok (.ldc 51, 2) := by decide +kernel
theorem d5_2 : decode prog_68_method_3_code 2 = .ok (.aload_n 0, 1) := by decide +kernel
theorem d5_3 : decode prog_68_method_3_code 3 = .ok (.invokestatic 52, 3) := by decide +kernel
theorem d5_6 : decode prog_68_method_3_code 6 = .ok (.return_, 1) := by decide +kernel
theorem pd_12 : parseMethodDescriptor "(Ljava/lang/String;Ljava/lang/String;)V" = some ⟨[(.object "java/lang/String"), (.object "java/lang/String")], none⟩ := by decide +kernel
theorem pn_13 : plainName "com/example/nests/nests/model/Cell" = true := by first | (simp [plainName, overriddenIn]; done) | decide +kernel
theorem ef_5 (m : MethodId) (a1 : Addr) : entryFrame m #[(.ref a1)] 1 = mkF m 0 #[.val (.ref a1)] [] := by first | (simp [entryFrame, mkF, argsToLocals, Value.category]; done) | rfl
def Q5 (Z : State) (a1 : Addr) (cs : Int32) (vf : Value) (b : Addr) (k : ClassId) (h0 : Heap) (n0 : Nat) (v : Option Value) (h : Heap) (L : List Loc) : Prop := v = none ∧ Fr n0 L ∧ Keep h0 h []
set_option maxRecDepth 65536 in
set_option maxHeartbeats 40000000 in
theorem rm5 (l : Launch) (Z : State) (a0 : Array Value) (hw : ∀ d ∈ tables_1, d.before a0 Z = true) (ws : List Jvm.Cond) (a1 : Addr) (cs : Int32) (vf : Value) (b : Addr) (k : ClassId) (h0 : Heap) (n0 : Nat) (Z0 : n0 ≤ h0.size) (P_0 : Exa Z h0 a1 "java/lang/String") (P_1 : Fld Z h0 a1 "java/lang/String" "coder" "B" (.int (0 : Int32))) (P_2 : Fld Z h0 a1 "java/lang/String" "value" "[B" (.ref b)) (V_b : Arv Z h0 b k .byte (1 : Int32) [(.int (102 : Int32))] (.int 0)) (S_C : Sta Z h0 "java/lang/String" "COMPACT_STRINGS" "Z" (.int cs)) (hcs : ¬ (cs = (0 : Int32))) (S_F : Sta Z h0 "jdk/internal/util/Preconditions" "SIOOBE_FORMATTER" "Ljava/util/function/BiFunction;" vf) (hvf : vf.isRef = true) :
    MetFree l (⟨"com/example/nests/nests/model/Cell", "checkFamily", "(Ljava/lang/String;)V"⟩ : MethodName) (head1 (Jvm.Cond.code (⟨"com/example/nests/nests/model/Cell", "checkFamily", "(Ljava/lang/String;)V"⟩ : MethodName) prog_68_method_3_code 1 none :: ws) ({ frames := 5, cells := 2, slots := 28, locals := 68 } : Room)) (fun a U => a = #[(.ref a1)] ∧ Z.Warmed39 U.vm ∧ U.heap = h0) (fun _ _ _ _ _ => True) (fun _ U o U' => ∃ v L, o = .returned v ∧ Q5 Z a1 cs vf b k h0 n0 v U'.heap L ∧ ReturnedEndW U o U' L ({ frames := 5, cells := 2, slots := 28, locals := 68 } : Room).cells ({ frames := 5, cells := 2, slots := 28, locals := 68 } : Room).slots) := by
  refine MetFree.of_bodySF (plainFor_of_name pn_13) hisR ?_
  intro p e s m args below meth c s₁ Bd hml0 hP hK
  obtain ⟨rfl, hZ, hh⟩ := hP
  have hx := Bd.exec
  have hby := Bd.bytes
  have hml : c.maxLocals = 1 := hml0
  have hown : s.vm.findClass "com/example/nests/nests/model/Cell" = some m.cls := findClass_of_methodNamed Bd.named
  have hnm := (name_of_methodNamed Bd.named Bd.method).1
  have X0 : Stand p l e ({ frames := 5, cells := 2, slots := 28, locals := 68 } : Room) (s.setVm s.vm) m #[(.ref a1)] below meth c s₁ [] 0 0 := Stand.of_body Bd
  have e0 : s₁.heap = h0 := by rw [← hh, Bd.state]; rfl
  have N0 := Fr.nil n0
  have hS0 : s.Since s.vm s.heap.size := (State.WarmedH.refl s).since _
  have hk0 : s.heap.size ≤ h0.size := by rw [hh]; exact Nat.le_refl _
  show own_GoW p e below s (Q5 Z a1 cs vf b k h0 n0) ({ frames := 5, cells := 2, slots := 28, locals := 68 } : Room).cells ({ frames := 5, cells := 2, slots := 28, locals := 68 } : Room).slots _
  refine own_stepW (B := s₁.setTop (mkF m 0 #[.val (.ref a1)] [])) (fun t k => castTop (ef_5 m a1) k) ?_
  have KK0 : Keep h0 h0 [] := Keep.refl h0 _
  have wS : ∀ a ∈ Bundle.stringAtoms, a.before a0 Z = true := by
    intro a ha
    simp only [Bundle.stringAtoms, Bundle.sN, List.mem_cons, List.not_mem_nil, or_false] at ha
    rcases ha with rfl | rfl | rfl | rfl | rfl | rfl | rfl
    · exact (hw _ (List.mem_of_getElem? (i := 6) rfl))
    · exact (hw _ (List.mem_of_getElem? (i := 7) rfl))
    · exact (hw _ (List.mem_of_getElem? (i := 4) rfl))
    · exact (hw _ (List.mem_of_getElem? (i := 8) rfl))
    · exact (hw _ (List.mem_of_getElem? (i := 9) rfl))
    · exact (hw _ (List.mem_of_getElem? (i := 10) rfl))
    · exact (hw _ (List.mem_of_getElem? (i := 11) rfl))
  obtain ⟨sa1, T1, h1, kn1, X1, e1, E1, hS1, hk1, hZ, hown, st1⟩ := ldcS X0 hx hZ hown (hw _ (List.mem_of_getElem? (i := 44) rfl)) wS e0 hS0 hk0 (g := (mkF m 0 #[.val (.ref a1)] [])) rfl (hb hby d5_0) (n := 24) (by decide) (by decide) (by decide) (by decide)
  have K1 : Keep h0 h1 [] := KK0.ext E1
  refine own_stepW st1 ?_
  show own_GoW p e below s _ _ _ (T1.setTop (mkF m 2 #[.val (.ref a1)] [(.ref sa1)]))
  refine own_stepW (B := T1.setTop (mkF m 3 #[.val (.ref a1)] [(.ref a1), (.ref sa1)])) (fun t k => ?_) ?_
  · show Steps p.tables e below (T1.setTop (mkF m 2 #[.val (.ref a1)] [(.ref sa1)])) _
    refine XS.aloadN X1.here hx rfl (hb hby d5_2) rfl rfl ?_
    exact k
  obtain ⟨_, _, ⟨T2, L2, k2, n2⟩, -, X2, ⟨Lc2, hQ2, l2, y2, z2⟩, st2⟩ := Jvm.LawKit.callS X1 hx (y := (⟨"com/example/nests/nests/model/Names", "check", "(Ljava/lang/String;Ljava/lang/String;)V"⟩ : MethodName)) hown (mvT hZ (hw _ (List.mem_of_getElem? (i := 45) rfl))) (mvT hZ (hw _ (List.mem_of_getElem? (i := 46) rfl))) (mvT hZ (hw _ (List.mem_of_getElem? (i := 47) rfl))) (mvT hZ (hw _ (List.mem_of_getElem? (i := 48) rfl))) (by decide) (backOf (W := 0) (rm6 l Z a0 hw [] sa1 a1 cs vf b k h1 n0 (Nat.le_trans Z0 E1.1) (P_0.ext E1) (P_1.ext E1) (P_2.ext E1) (V_b.ext E1) (S_C.ext E1) hcs (S_F.ext E1) hvf) hZ (hw _ (List.mem_of_getElem? (i := 48) rfl)) (hw _ (List.mem_of_getElem? (i := 47) rfl)) (by decide) (by decide)) (g := (mkF m 3 #[.val (.ref a1)] [(.ref a1), (.ref sa1)])) rfl (by rw [hml]; rfl) (argsL := [(.ref sa1), (.ref a1)]) (rest := []) (lenOf pd_12 rfl) rfl (by show 2 * 0 + _ ≤ _; exact Nat.le_of_eq rfl) (hb hby d5_3) (fun _ _ => ⟨rfl, e1, (by decide : 2 + 0 ≤ _), (by decide : 28 + 0 ≤ _)⟩)
  dsimp only [Pt.U, Pt.locs, Pt.cells, Pt.slots] at X2 l2 y2 z2 st2 hQ2
  subst l2 y2 z2
  obtain ⟨rfl, N2q, e2⟩ := hQ2
  have N2 := Fr.app N0 N2q
  refine own_stepW st2 ?_
  show own_GoW p e below s _ _ _ (T2.setTop (mkF m 6 #[.val (.ref a1)] []))
  exact own_retVW X2 hS1 (by rw [e2]; exact hk1) hx Bd.notSynchronized Bd.returns (hb hby d5_6) ⟨rfl, N2, by rw [e2]; exact K1⟩ (by decide) (by decide)
theorem d3_0 : decode prog_73_method_4_code 0 = .ok (.aload_n 0, 1) := by decide +kernel
theorem d3_1 : decode prog_73_method_4_code 1 = .ok (.getfield 44, 3) := by decide +kernel
theorem d3_4 : decode prog_73_method_4_code 4 = .ok (.areturn, 1) := by decide +kernel
theorem pn_14 : plainName "com/example/nests/nests/model/Mutation$Kind" = true := by first | (simp [plainName, overriddenIn]; done) | decide +kernel
theorem ef_3 (m : MethodId) (a1 : Addr) : entryFrame m #[(.ref a1)] 1 = mkF m 0 #[.val (.ref a1)] [] := by first | (simp [entryFrame, mkF, argsToLocals, Value.category]; done) | rfl
def Q3 (Z : State) (a1 : Addr) (tg : Addr) (h0 : Heap) (n0 : Nat) (v : Option Value) (h : Heap) (L : List Loc) : Prop := v = some (.ref tg) ∧ Fr n0 L ∧ h = h0
set_option maxRecDepth 65536 in
set_option maxHeartbeats 40000000 in
theorem rm3 (l : Launch) (Z : State) (a0 : Array Value) (hw : ∀ d ∈ tables_1, d.before a0 Z = true) (ws : List Jvm.Cond) (a1 : Addr) (tg : Addr) (h0 : Heap) (n0 : Nat) (Z0 : n0 ≤ h0.size) (F : Fld Z h0 a1 "com/example/nests/nests/model/Mutation$Kind" "target" "Lcom/example/nests/nests/model/Mutation$Target;" (.ref tg)) :
    MetFree l (⟨"com/example/nests/nests/model/Mutation$Kind", "getTarget", "()Lcom/example/nests/nests/model/Mutation$Target;"⟩ : MethodName) (head1 (Jvm.Cond.code (⟨"com/example/nests/nests/model/Mutation$Kind", "getTarget", "()Lcom/example/nests/nests/model/Mutation$Target;"⟩ : MethodName) prog_73_method_4_code 1 (some (.object "com/example/nests/nests/model/Mutation$Target")) :: ws) ({ frames := 0, cells := 0, slots := 0, locals := 0 } : Room)) (fun a U => a = #[(.ref a1)] ∧ Z.Warmed39 U.vm ∧ U.heap = h0) (fun _ _ _ _ _ => True) (fun _ U o U' => ∃ v L, o = .returned v ∧ Q3 Z a1 tg h0 n0 v U'.heap L ∧ FrameEnd U o U' L ({ frames := 0, cells := 0, slots := 0, locals := 0 } : Room).cells ({ frames := 0, cells := 0, slots := 0, locals := 0 } : Room).slots) := by
  refine MetFree.of_bodySF (plainFor_of_name pn_14) hisR ?_
  intro p e s m args below meth c s₁ Bd hml0 hP hK
  obtain ⟨rfl, hZ, hh⟩ := hP
  have hx := Bd.exec
  have hby := Bd.bytes
  have hml : c.maxLocals = 1 := hml0
  have hown : s.vm.findClass "com/example/nests/nests/model/Mutation$Kind" = some m.cls := findClass_of_methodNamed Bd.named
  have hnm := (name_of_methodNamed Bd.named Bd.method).1
  have X0 : Stand p l e ({ frames := 0, cells := 0, slots := 0, locals := 0 } : Room) s m #[(.ref a1)] below meth c s₁ [] 0 0 := Stand.of_body Bd
  have e0 : s₁.heap = h0 := by rw [← hh, Bd.state]; rfl
  have N0 := Fr.nil n0
  skip
  show own_Go p e below s (Q3 Z a1 tg h0 n0) ({ frames := 0, cells := 0, slots := 0, locals := 0 } : Room).cells ({ frames := 0, cells := 0, slots := 0, locals := 0 } : Room).slots _
  refine own_step (B := s₁.setTop (mkF m 0 #[.val (.ref a1)] [])) (fun t k => castTop (ef_3 m a1) k) ?_
  refine own_step (B := s₁.setTop (mkF m 1 #[.val (.ref a1)] [(.ref a1)])) (fun t k => ?_) ?_
  · show Steps p.tables e below (s₁.setTop (mkF m 0 #[.val (.ref a1)] [])) _
    refine XS.aloadN X0.here hx rfl (hb hby d3_0) rfl rfl ?_
    exact k
  obtain ⟨T1, X1, e1, st1⟩ := getF X0 hx hZ hown (host := "") (Or.inl (hw _ (List.mem_of_getElem? (i := 26) rfl))) Via.refl e0 F (g := (mkF m 1 #[.val (.ref a1)] [(.ref a1)])) rfl rfl (hb hby d3_1)
  refine own_step st1 ?_
  show own_Go p e below s _ _ _ (T1.setTop (mkF m 4 #[.val (.ref a1)] [(.ref tg)]))
  exact own_retR X1 hx Bd.notSynchronized Bd.returns rfl rfl (hb hby d3_4) ⟨rfl, N0, e1⟩ (by decide) (by decide)
theorem d4_0 : decode prog_73_method_6_code 0 = .ok (.aload_n 0, 1) := by decide +kernel
theorem d4_1 : decode prog_73_method_6_code 1 = .ok (.getfield 52, 3) := by decide +kernel
theorem d4_4 : decode prog_73_method_6_code 4 = .ok (.ireturn, 1) := by decide +kernel
theorem ef_4 (m : MethodId) (a1 : Addr) : entryFrame m #[(.ref a1)] 1 = mkF m 0 #[.val (.ref a1)] [] := by first | (simp [entryFrame, mkF, argsToLocals, Value.category]; done) | rfl
def Q4 (Z : State) (a1 : Addr) (z : Int32) (h0 : Heap) (n0 : Nat) (v : Option Value) (h : Heap) (L : List Loc) : Prop := v = some (.int z) ∧ Fr n0 L ∧ h = h0
set_option maxRecDepth 65536 in
set_option maxHeartbeats 40000000 in
theorem rm4 (l : Launch) (Z : State) (a0 : Array Value) (hw : ∀ d ∈ tables_1, d.before a0 Z = true) (ws : List Jvm.Cond) (a1 : Addr) (z : Int32) (h0 : Heap) (n0 : Nat) (Z0 : n0 ≤ h0.size) (F : Fld Z h0 a1 "com/example/nests/nests/model/Mutation$Kind" "takesValue" "Z" (.int z)) (hz : nar .boolean z = z) :
    MetFree l (⟨"com/example/nests/nests/model/Mutation$Kind", "takesValue", "()Z"⟩ : MethodName) (head1 (Jvm.Cond.code (⟨"com/example/nests/nests/model/Mutation$Kind", "takesValue", "()Z"⟩ : MethodName) prog_73_method_6_code 1 (some .boolean) :: ws) ({ frames := 0, cells := 0, slots := 0, locals := 0 } : Room)) (fun a U => a = #[(.ref a1)] ∧ Z.Warmed39 U.vm ∧ U.heap = h0) (fun _ _ _ _ _ => True) (fun _ U o U' => ∃ v L, o = .returned v ∧ Q4 Z a1 z h0 n0 v U'.heap L ∧ FrameEnd U o U' L ({ frames := 0, cells := 0, slots := 0, locals := 0 } : Room).cells ({ frames := 0, cells := 0, slots := 0, locals := 0 } : Room).slots) := by
  refine MetFree.of_bodySF (plainFor_of_name pn_14) hisR ?_
  intro p e s m args below meth c s₁ Bd hml0 hP hK
  obtain ⟨rfl, hZ, hh⟩ := hP
  have hx := Bd.exec
  have hby := Bd.bytes
  have hml : c.maxLocals = 1 := hml0
  have hown : s.vm.findClass "com/example/nests/nests/model/Mutation$Kind" = some m.cls := findClass_of_methodNamed Bd.named
  have hnm := (name_of_methodNamed Bd.named Bd.method).1
  have X0 : Stand p l e ({ frames := 0, cells := 0, slots := 0, locals := 0 } : Room) s m #[(.ref a1)] below meth c s₁ [] 0 0 := Stand.of_body Bd
  have e0 : s₁.heap = h0 := by rw [← hh, Bd.state]; rfl
  have N0 := Fr.nil n0
  skip
  show own_Go p e below s (Q4 Z a1 z h0 n0) ({ frames := 0, cells := 0, slots := 0, locals := 0 } : Room).cells ({ frames := 0, cells := 0, slots := 0, locals := 0 } : Room).slots _
  refine own_step (B := s₁.setTop (mkF m 0 #[.val (.ref a1)] [])) (fun t k => castTop (ef_4 m a1) k) ?_
  refine own_step (B := s₁.setTop (mkF m 1 #[.val (.ref a1)] [(.ref a1)])) (fun t k => ?_) ?_
  · show Steps p.tables e below (s₁.setTop (mkF m 0 #[.val (.ref a1)] [])) _
    refine XS.aloadN X0.here hx rfl (hb hby d4_0) rfl rfl ?_
    exact k
  obtain ⟨T1, X1, e1, st1⟩ := getF X0 hx hZ hown (host := "") (Or.inl (hw _ (List.mem_of_getElem? (i := 38) rfl))) Via.refl e0 F (g := (mkF m 1 #[.val (.ref a1)] [(.ref a1)])) rfl rfl (hb hby d4_1)
  refine own_step st1 ?_
  show own_Go p e below s _ _ _ (T1.setTop (mkF m 4 #[.val (.ref a1)] [(.int z)]))
  exact own_retN X1 hx Bd.notSynchronized (t := .boolean) Bd.returns (by simp) (hb hby d4_4) ⟨by show some (Value.int (nar .boolean z)) = _; rw [hz], N0, e1⟩ (by decide) (by decide)
theorem d18_0 : decode prog_73_method_5_code 0 = .ok (.aload_n 0, 1) := by decide +kernel
theorem d18_1 : decode prog_73_method_5_code 1 = .ok (.getfield 48, 3) := by decide +kernel
theorem d18_4 : decode prog_73_method_5_code 4 = .ok (.ireturn, 1) := by decide +kernel
theorem ef_18 (m : MethodId) (a1 : Addr) : entryFrame m #[(.ref a1)] 1 = mkF m 0 #[.val (.ref a1)] [] := by first | (simp [entryFrame, mkF, argsToLocals, Value.category]; done) | rfl
def Q18 (Z : State) (a1 : Addr) (z : Int32) (h0 : Heap) (n0 : Nat) (v : Option Value) (h : Heap) (L : List Loc) : Prop := v = some (.int z) ∧ Fr n0 L ∧ h = h0
set_option maxRecDepth 65536 in
set_option maxHeartbeats 40000000 in
theorem rm18 (l : Launch) (Z : State) (a0 : Array Value) (hw : ∀ d ∈ tables_1, d.before a0 Z = true) (ws : List Jvm.Cond) (a1 : Addr) (z : Int32) (h0 : Heap) (n0 : Nat) (Z0 : n0 ≤ h0.size) (F : Fld Z h0 a1 "com/example/nests/nests/model/Mutation$Kind" "takesTimestamp" "Z" (.int z)) (hz : nar .boolean z = z) :
    MetFree l (⟨"com/example/nests/nests/model/Mutation$Kind", "takesTimestamp", "()Z"⟩ : MethodName) (head1 (Jvm.Cond.code (⟨"com/example/nests/nests/model/Mutation$Kind", "takesTimestamp", "()Z"⟩ : MethodName) prog_73_method_5_code 1 (some .boolean) :: ws) ({ frames := 0, cells := 0, slots := 0, locals := 0 } : Room)) (fun a U => a = #[(.ref a1)] ∧ Z.Warmed39 U.vm ∧ U.heap = h0) (fun _ _ _ _ _ => True) (fun _ U o U' => ∃ v L, o = .returned v ∧ Q18 Z a1 z h0 n0 v U'.heap L ∧ FrameEnd U o U' L ({ frames := 0, cells := 0, slots := 0, locals := 0 } : Room).cells ({ frames := 0, cells := 0, slots := 0, locals := 0 } : Room).slots) := by
  refine MetFree.of_bodySF (plainFor_of_name pn_14) hisR ?_
  intro p e s m args below meth c s₁ Bd hml0 hP hK
  obtain ⟨rfl, hZ, hh⟩ := hP
  have hx := Bd.exec
  have hby := Bd.bytes
  have hml : c.maxLocals = 1 := hml0
  have hown : s.vm.findClass "com/example/nests/nests/model/Mutation$Kind" = some m.cls := findClass_of_methodNamed Bd.named
  have hnm := (name_of_methodNamed Bd.named Bd.method).1
  have X0 : Stand p l e ({ frames := 0, cells := 0, slots := 0, locals := 0 } : Room) s m #[(.ref a1)] below meth c s₁ [] 0 0 := Stand.of_body Bd
  have e0 : s₁.heap = h0 := by rw [← hh, Bd.state]; rfl
  have N0 := Fr.nil n0
  skip
  show own_Go p e below s (Q18 Z a1 z h0 n0) ({ frames := 0, cells := 0, slots := 0, locals := 0 } : Room).cells ({ frames := 0, cells := 0, slots := 0, locals := 0 } : Room).slots _
  refine own_step (B := s₁.setTop (mkF m 0 #[.val (.ref a1)] [])) (fun t k => castTop (ef_18 m a1) k) ?_
  refine own_step (B := s₁.setTop (mkF m 1 #[.val (.ref a1)] [(.ref a1)])) (fun t k => ?_) ?_
  · show Steps p.tables e below (s₁.setTop (mkF m 0 #[.val (.ref a1)] [])) _
    refine XS.aloadN X0.here hx rfl (hb hby d18_0) rfl rfl ?_
    exact k
  obtain ⟨T1, X1, e1, st1⟩ := getF X0 hx hZ hown (host := "") (Or.inl (hw _ (List.mem_of_getElem? (i := 127) rfl))) Via.refl e0 F (g := (mkF m 1 #[.val (.ref a1)] [(.ref a1)])) rfl rfl (hb hby d18_1)
  refine own_step st1 ?_
  show own_Go p e below s _ _ _ (T1.setTop (mkF m 4 #[.val (.ref a1)] [(.int z)]))
  exact own_retN X1 hx Bd.notSynchronized (t := .boolean) Bd.returns (by simp) (hb hby d18_4) ⟨by show some (Value.int (nar .boolean z)) = _; rw [hz], N0, e1⟩ (by decide) (by decide)
theorem d1_0 : decode prog_72_method_1_code 0 = .ok (.aload_n 0, 1) := by decide +kernel
theorem d1_1 : decode prog_72_method_1_code 1 = .ok (.invokespecial 1, 3) := by decide +kernel
theorem d1_4 : decode prog_72_method_1_code 4 = .ok (.aload_n 1, 1) := by decide +kernel
theorem d1_5 : decode prog_72_method_1_code 5 = .ok (.invokevirtual 7, 3) := by decide +kernel
theorem d1_8 : decode prog_72_method_1_code 8 = .ok (.astore 7, 2) := by decide +kernel
theorem d1_10 : decode prog_72_method_1_code 10 = .ok (.aload_n 2, 1) := by decide +kernel
theorem d1_11 : decode prog_72_method_1_code 11 = .ok (.ifnull 7, 3) := by decide +kernel
theorem d1_14 : decode prog_72_method_1_code 14 = .ok (.iconst 1, 1) := by decide +kernel
theorem d1_15 : decode prog_72_method_1_code 15 = .ok (.goto 4, 3) := by decide +kernel
theorem d1_18 : decode prog_72_method_1_code 18 = .ok (.iconst 0, 1) := by decide +kernel
theorem d1_19 : decode prog_72_method_1_code 19 = .ok (.aload 7, 2) := by decide +kernel
theorem d1_21 : decode prog_72_method_1_code 21 = .ok (.getstatic 13, 3) := by decide +kernel
theorem d1_24 : decode prog_72_method_1_code 24 = .ok (.if_acmp .eq 7, 3) := by decide +kernel
theorem d1_27 : decode prog_72_method_1_code 27 = .ok (.iconst 1, 1) := by decide +kernel
theorem d1_28 : decode prog_72_method_1_code 28 = .ok (.goto 4, 3) := by decide +kernel
theorem d1_31 : decode prog_72_method_1_code 31 = .ok (.iconst 0, 1) := by decide +kernel
theorem d1_32 : decode prog_72_method_1_code 32 = .ok (.if_icmp .ne 59, 3) := by decide +kernel
theorem d1_35 : decode prog_72_method_1_code 35 = .ok (.aload_n 3, 1) := by decide +kernel
theorem d1_36 : decode prog_72_method_1_code 36 = .ok (.ifnull 7, 3) := by decide +kernel
theorem d1_39 : decode prog_72_method_1_code 39 = .ok (.iconst 1, 1) := by decide +kernel
theorem d1_40 : decode prog_72_method_1_code 40 = .ok (.goto 4, 3) := by decide +kernel
theorem d1_43 : decode prog_72_method_1_code 43 = .ok (.iconst 0, 1) := by decide +kernel
theorem d1_44 : decode prog_72_method_1_code 44 = .ok (.aload 7, 2) := by decide +kernel
theorem d1_46 : decode prog_72_method_1_code 46 = .ok (.getstatic 19, 3) := by decide +kernel
theorem d1_49 : decode prog_72_method_1_code 49 = .ok (.if_acmp .ne 7, 3) := by decide +kernel
theorem d1_52 : decode prog_72_method_1_code 52 = .ok (.iconst 1, 1) := by decide +kernel
theorem d1_53 : decode prog_72_method_1_code 53 = .ok (.goto 4, 3) := by decide +kernel
theorem d1_56 : decode prog_72_method_1_code 56 = .ok (.iconst 0, 1) := by decide +kernel
theorem d1_57 : decode prog_72_method_1_code 57 = .ok (.if_icmp .ne 34, 3) := by decide +kernel
theorem d1_60 : decode prog_72_method_1_code 60 = .ok (.aload 6, 2) := by decide +kernel
theorem d1_62 : decode prog_72_method_1_code 62 = .ok (.ifnull 7, 3) := by decide +kernel
theorem d1_65 : decode prog_72_method_1_code 65 = .ok (.iconst 1, 1) := by decide +kernel
theorem d1_66 : decode prog_72_method_1_code 66 = .ok (.goto 4, 3) := by decide +kernel
theorem d1_69 : decode prog_72_method_1_code 69 = .ok (.iconst 0, 1) := by decide +kernel
theorem d1_70 : decode prog_72_method_1_code 70 = .ok (.aload_n 1, 1) := by decide +kernel
theorem d1_71 : decode prog_72_method_1_code 71 = .ok (.invokevirtual 22, 3) := by decide +kernel
theorem d1_74 : decode prog_72_method_1_code 74 = .ok (.if_icmp .ne 17, 3) := by decide +kernel
theorem d1_77 : decode prog_72_method_1_code 77 = .ok (.lload 4, 2) := by decide +kernel
theorem d1_79 : decode prog_72_method_1_code 79 = .ok (.lconst 0, 1) := by decide +kernel
theorem d1_80 : decode prog_72_method_1_code 80 = .ok (.lcmp, 1) := by decide +kernel
theorem d1_81 : decode prog_72_method_1_code 81 = .ok (.ifCond .eq 27, 3) := by decide +kernel
theorem d1_84 : decode prog_72_method_1_code 84 = .ok (.aload_n 1, 1) := by decide +kernel
theorem d1_85 : decode prog_72_method_1_code 85 = .ok (.invokevirtual 26, 3) := by decide +kernel
theorem d1_88 : decode prog_72_method_1_code 88 = .ok (.ifCond .ne 20, 3) := by decide +kernel
theorem d1_91 : decode prog_72_method_1_code 91 = .ok (.new 29, 3) := by decide +kernel
theorem d1_94 : decode prog_72_method_1_code 94 = .ok (.dup, 1) := by decide +kernel
theorem d1_95 : decode prog_72_method_1_code 95 = .ok (.aload_n 1, 1) := by decide +kernel
theorem d1_96 : decode prog_72_method_1_code 96 = .ok (.invokestatic 31, 3) := by decide +kernel
theorem d1_104 : decode prog_72_method_1_code 104 = .ok (.invokespecial 41, 3) := by decide +kernel
theorem d1_107 : decode prog_72_method_1_code 107 = .ok (.athrow, 1) := by decide +kernel
theorem d1_108 : decode prog_72_method_1_code 108 = .ok (.aload_n 2, 1) := by decide +kernel
theorem d1_109 : decode prog_72_method_1_code 109 = .ok (.ifnull 7, 3) := by decide +kernel
theorem d1_112 : decode prog_72_method_1_code 112 = .ok (.aload_n 2, 1) := by decide +kernel
theorem d1_113 : decode prog_72_method_1_code 113 = .ok (.invokestatic 44, 3) := by decide +kernel
theorem d1_116 : decode prog_72_method_1_code 116 = .ok (.aload_n 0, 1) := by decide +kernel
theorem d1_117 : decode prog_72_method_1_code 117 = .ok (.aload_n 1, 1) := by decide +kernel
theorem d1_118 : decode prog_72_method_1_code 118 = .ok (.putfield 49, 3) := by decide +kernel
theorem d1_121 : decode prog_72_method_1_code 121 = .ok (.aload_n 0, 1) := by decide +kernel
theorem d1_122 : decode prog_72_method_1_code 122 = .ok (.aload_n 2, 1) := by decide +kernel
theorem d1_123 : decode prog_72_method_1_code 123 = .ok (.putfield 55, 3) := by decide +kernel
theorem d1_126 : decode prog_72_method_1_code 126 = .ok (.aload_n 0, 1) := by decide +kernel
theorem d1_127 : decode prog_72_method_1_code 127 = .ok (.aload_n 3, 1) := by decide +kernel
theorem d1_128 : decode prog_72_method_1_code 128 = .ok (.ifnonnull 7, 3) := by decide +kernel
theorem d1_131 : decode prog_72_method_1_code 131 = .ok (.aconst_null, 1) := by decide +kernel
theorem d1_132 : decode prog_72_method_1_code 132 = .ok (.goto 10, 3) := by decide +kernel
theorem d1_135 : decode prog_72_method_1_code 135 = .ok (.aload_n 3, 1) := by decide +kernel
theorem d1_136 : decode prog_72_method_1_code 136 = .ok (.invokevirtual 59, 3) := by decide +kernel
theorem d1_139 : decode prog_72_method_1_code 139 = .ok (.checkcast 60, 3) := by decide +kernel
theorem d1_142 : decode prog_72_method_1_code 142 = .ok (.putfield 65, 3) := by decide +kernel
theorem d1_145 : decode prog_72_method_1_code 145 = .ok (.aload_n 0, 1) := by decide +kernel
theorem d1_146 : decode prog_72_method_1_code 146 = .ok (.lload 4, 2) := by decide +kernel
theorem d1_148 : decode prog_72_method_1_code 148 = .ok (.putfield 68, 3) := by decide +kernel
theorem d1_151 : decode prog_72_method_1_code 151 = .ok (.aload_n 0, 1) := by decide +kernel
theorem d1_152 : decode prog_72_method_1_code 152 = .ok (.aload 6, 2) := by decide +kernel
theorem d1_154 : decode prog_72_method_1_code 154 = .ok (.ifnonnull 7, 3) := by decide +kernel
theorem d1_157 : decode prog_72_method_1_code 157 = .ok (.aconst_null, 1) := by decide +kernel
theorem d1_158 : decode prog_72_method_1_code 158 = .ok (.goto 11, 3) := by decide +kernel
theorem d1_161 : decode prog_72_method_1_code 161 = .ok (.aload 6, 2) := by decide +kernel
theorem d1_163 : decode prog_72_method_1_code 163 = .ok (.invokevirtual 59, 3) := by decide +kernel
theorem d1_166 : decode prog_72_method_1_code 166 = .ok (.checkcast 60, 3) := by decide +kernel
theorem d1_169 : decode prog_72_method_1_code 169 = .ok (.putfield 72, 3) := by decide +kernel
theorem d1_172 : decode prog_72_method_1_code 172 = .ok (.return_, 1) := by decide +kernel
theorem pd_15 : parseMethodDescriptor "()V" = some ⟨[], none⟩ := by decide +kernel
theorem pd_16 : parseMethodDescriptor "()Lcom/example/nests/nests/model/Mutation$Target;" = some ⟨[], some (.object "com/example/nests/nests/model/Mutation$Target")⟩ := by decide +kernel
theorem pd_17 : parseMethodDescriptor "(Ljava/lang/String;)V" = some ⟨[(.object "java/lang/String")], none⟩ := by decide +kernel
theorem pd_18 : parseMethodDescriptor "()Ljava/lang/Object;" = some ⟨[], some (.object "java/lang/Object")⟩ := by decide +kernel
theorem pn_19 : plainName "com/example/nests/nests/model/Mutation" = true := by first | (simp [plainName, overriddenIn]; done) | decide +kernel
theorem ef_1cv (m : MethodId) (a1 : Addr) (a2 : Addr) (a3 : Addr) (a4 : Addr) (q5 : Int64) (a6 : Addr) : entryFrame m #[(.ref a1), (.ref a2), (.ref a3), (.ref a4), (.long q5), (.ref a6)] 8 = mkF m 0 #[.val (.ref a1), .val (.ref a2), .val (.ref a3), .val (.ref a4), .val (.long q5), .second, .val (.ref a6), .unset] [] := by first | (simp [entryFrame, mkF, argsToLocals, Value.category]; done) | rfl
def Q1cv (Z : State) (a1 : Addr) (a2 : Addr) (a3 : Addr) (a4 : Addr) (q5 : Int64) (a6 : Addr) (u0 : Value) (u1 : Value) (u2 : Value) (u3 : Value) (u4 : Value) (tC : Addr) (tF : Addr) (tR : Addr) (ts : Int32) (cs : Int32) (vf : Value) (b : Addr) (k : ClassId) (kq : ClassId) (zq : Int32) (vq : List Value) (kv : ClassId) (zv : Int32) (vv : List Value) (h0 : Heap) (n0 : Nat) (v : Option Value) (h : Heap) (L : List Loc) : Prop := v = none ∧ Fr n0 L ∧ Keep h0 h [a1] ∧ Exa Z h a1 "com/example/nests/nests/model/Mutation" ∧ (∃ r, Fld Z h a1 "com/example/nests/nests/model/Mutation" "qualifier" "[B" (.ref r) ∧ Exa Z h r "[B" ∧ Arv Z h r kq .byte zq vq (.int (0 : Int32)) ∧ h0.size ≤ r) ∧ (∃ r, Fld Z h a1 "com/example/nests/nests/model/Mutation" "value" "[B" (.ref r) ∧ Exa Z h r "[B" ∧ Arv Z h r kv .byte zv vv (.int (0 : Int32)) ∧ h0.size ≤ r)
set_option maxRecDepth 65536 in
set_option maxHeartbeats 40000000 in
theorem rm1cv (l : Launch) (Z : State) (a0 : Array Value) (hw : ∀ d ∈ tables_1, d.before a0 Z = true) (ws : List Jvm.Cond) (a1 : Addr) (a2 : Addr) (a3 : Addr) (a4 : Addr) (q5 : Int64) (a6 : Addr) (u0 : Value) (u1 : Value) (u2 : Value) (u3 : Value) (u4 : Value) (tC : Addr) (tF : Addr) (tR : Addr) (ts : Int32) (cs : Int32) (vf : Value) (b : Addr) (k : ClassId) (kq : ClassId) (zq : Int32) (vq : List Value) (kv : ClassId) (zv : Int32) (vv : List Value) (h0 : Heap) (n0 : Nat) (Z0 : n0 ≤ h0.size) (E_a1 : Exa Z h0 a1 "com/example/nests/nests/model/Mutation") (F_0 : Fld Z h0 a1 "com/example/nests/nests/model/Mutation" "kind" "Lcom/example/nests/nests/model/Mutation$Kind;" u0) (F_1 : Fld Z h0 a1 "com/example/nests/nests/model/Mutation" "family" "Ljava/lang/String;" u1) (F_2 : Fld Z h0 a1 "com/example/nests/nests/model/Mutation" "qualifier" "[B" u2) (F_3 : Fld Z h0 a1 "com/example/nests/nests/model/Mutation" "timestamp" "J" u3) (F_4 : Fld Z h0 a1 "com/example/nests/nests/model/Mutation" "value" "[B" u4) (g_a1 : n0 ≤ a1) (E_k : Exa Z h0 a2 "com/example/nests/nests/model/Mutation$Kind") (Fk_t : Fld Z h0 a2 "com/example/nests/nests/model/Mutation$Kind" "target" "Lcom/example/nests/nests/model/Mutation$Target;" (.ref tC)) (Fk_v : Fld Z h0 a2 "com/example/nests/nests/model/Mutation$Kind" "takesValue" "Z" (.int (1 : Int32))) (Fk_s : Fld Z h0 a2 "com/example/nests/nests/model/Mutation$Kind" "takesTimestamp" "Z" (.int ts)) (S_R : Sta Z h0 "com/example/nests/nests/model/Mutation$Target" "ROW" "Lcom/example/nests/nests/model/Mutation$Target;" (.ref tR)) (S_L : Sta Z h0 "com/example/nests/nests/model/Mutation$Target" "COLUMN" "Lcom/example/nests/nests/model/Mutation$Target;" (.ref tC)) (nCR : ¬ (tC = tR)) (nFR : ¬ (tF = tR)) (nFC : ¬ (tF = tC)) (hts : q5 = (0 : Int64) ∨ ts = (1 : Int32)) (htn : nar .boolean ts = ts) (P_0 : Exa Z h0 a3 "java/lang/String") (P_1 : Fld Z h0 a3 "java/lang/String" "coder" "B" (.int (0 : Int32))) (P_2 : Fld Z h0 a3 "java/lang/String" "value" "[B" (.ref b)) (V_b : Arv Z h0 b k .byte (1 : Int32) [(.int (102 : Int32))] (.int 0)) (S_C : Sta Z h0 "java/lang/String" "COMPACT_STRINGS" "Z" (.int cs)) (hcs : ¬ (cs = (0 : Int32))) (S_F : Sta Z h0 "jdk/internal/util/Preconditions" "SIOOBE_FORMATTER" "Ljava/util/function/BiFunction;" vf) (hvf : vf.isRef = true) (V_q : Arv Z h0 a4 kq .byte zq vq (.int (0 : Int32))) (E_q : Exa Z h0 a4 "[B") (hzq : zq.toNatClampNeg ≤ 3) (V_v : Arv Z h0 a6 kv .byte zv vv (.int (0 : Int32))) (E_v : Exa Z h0 a6 "[B") (hzv : zv.toNatClampNeg ≤ 3) :
    MetFree l (⟨"com/example/nests/nests/model/Mutation", "<init>", "(Lcom/example/nests/nests/model/Mutation$Kind;Ljava/lang/String;[BJ[B)V"⟩ : MethodName) (head1 (Jvm.Cond.code (⟨"com/example/nests/nests/model/Mutation", "<init>", "(Lcom/example/nests/nests/model/Mutation$Kind;Ljava/lang/String;[BJ[B)V"⟩ : MethodName) prog_72_method_1_code 8 none :: ws) ({ frames := 6, cells := 4, slots := 34, locals := 80 } : Room)) (fun a U => a = #[(.ref a1), (.ref a2), (.ref a3), (.ref a4), (.long q5), (.ref a6)] ∧ Z.Warmed39 U.vm ∧ U.heap = h0) (fun _ _ _ _ _ => True) (fun _ U o U' => ∃ v L, o = .returned v ∧ Q1cv Z a1 a2 a3 a4 q5 a6 u0 u1 u2 u3 u4 tC tF tR ts cs vf b k kq zq vq kv zv vv h0 n0 v U'.heap L ∧ ReturnedEndW U o U' L ({ frames := 6, cells := 4, slots := 34, locals := 80 } : Room).cells ({ frames := 6, cells := 4, slots := 34, locals := 80 } : Room).slots) := by
  refine MetFree.of_bodySF (plainFor_of_name pn_19) hisR ?_
  intro p e s m args below meth c s₁ Bd hml0 hP hK
  obtain ⟨rfl, hZ, hh⟩ := hP
  have hx := Bd.exec
  have hby := Bd.bytes
  have hml : c.maxLocals = 8 := hml0
  have hown : s.vm.findClass "com/example/nests/nests/model/Mutation" = some m.cls := findClass_of_methodNamed Bd.named
  have hnm := (name_of_methodNamed Bd.named Bd.method).1
  have X0 : Stand p l e ({ frames := 6, cells := 4, slots := 34, locals := 80 } : Room) (s.setVm s.vm) m #[(.ref a1), (.ref a2), (.ref a3), (.ref a4), (.long q5), (.ref a6)] below meth c s₁ [] 0 0 := Stand.of_body Bd
  have e0 : s₁.heap = h0 := by rw [← hh, Bd.state]; rfl
  have N0 := Fr.nil n0
  have hS0 : s.Since s.vm s.heap.size := (State.WarmedH.refl s).since _
  have hk0 : s.heap.size ≤ h0.size := by rw [hh]; exact Nat.le_refl _
  show own_GoW p e below s (Q1cv Z a1 a2 a3 a4 q5 a6 u0 u1 u2 u3 u4 tC tF tR ts cs vf b k kq zq vq kv zv vv h0 n0) ({ frames := 6, cells := 4, slots := 34, locals := 80 } : Room).cells ({ frames := 6, cells := 4, slots := 34, locals := 80 } : Room).slots _
  refine own_stepW (B := s₁.setTop (mkF m 0 #[.val (.ref a1), .val (.ref a2), .val (.ref a3), .val (.ref a4), .val (.long q5), .second, .val (.ref a6), .unset] [])) (fun t k => castTop (ef_1cv m a1 a2 a3 a4 q5 a6) k) ?_
  have KK0 : Keep h0 h0 [a1] := Keep.refl h0 _
  refine own_stepW (B := s₁.setTop (mkF m 1 #[.val (.ref a1), .val (.ref a2), .val (.ref a3), .val (.ref a4), .val (.long q5), .second, .val (.ref a6), .unset] [(.ref a1)])) (fun t k => ?_) ?_
  · show Steps p.tables e below (s₁.setTop (mkF m 0 #[.val (.ref a1), .val (.ref a2), .val (.ref a3), .val (.ref a4), .val (.long q5), .second, .val (.ref a6), .unset] [])) _
    refine XS.aloadN X0.here hx rfl (hb hby d1_0) rfl rfl ?_
    exact k
  obtain ⟨T1, X1, e1, st1⟩ := initO X0 hx hZ hown (hw _ (List.mem_of_getElem? (i := 18) rfl)) (hw _ (List.mem_of_getElem? (i := 19) rfl)) (hw _ (List.mem_of_getElem? (i := 20) rfl)) e0 (g := (mkF m 1 #[.val (.ref a1), .val (.ref a2), .val (.ref a3), .val (.ref a4), .val (.long q5), .second, .val (.ref a6), .unset] [(.ref a1)])) rfl (by rw [hml]; rfl) rfl (hb hby d1_1) (by decide) (W := 0) (by show 2 * 0 + _ ≤ _; exact Nat.le_of_eq rfl) (by decide)
  refine own_stepW st1 ?_
  show own_GoW p e below s _ _ _ (T1.setTop (mkF m 4 #[.val (.ref a1), .val (.ref a2), .val (.ref a3), .val (.ref a4), .val (.long q5), .second, .val (.ref a6), .unset] []))
  refine own_stepW (B := T1.setTop (mkF m 5 #[.val (.ref a1), .val (.ref a2), .val (.ref a3), .val (.ref a4), .val (.long q5), .second, .val (.ref a6), .unset] [(.ref a2)])) (fun t k => ?_) ?_
  · show Steps p.tables e below (T1.setTop (mkF m 4 #[.val (.ref a1), .val (.ref a2), .val (.ref a3), .val (.ref a4), .val (.long q5), .second, .val (.ref a6), .unset] [])) _
    refine XS.aloadN X1.here hx rfl (hb hby d1_4) rfl rfl ?_
    exact k
  obtain ⟨cq2, kq2, q2a, q2b, q2c⟩ := isOf hZ e1 E_k
  obtain ⟨_, _, ⟨T2, L2, k2, n2⟩, -, X2, ⟨Lc2, hQ2, l2, y2, z2⟩, st2⟩ := X1.virtualBack hx (y := (⟨"com/example/nests/nests/model/Mutation$Kind", "getTarget", "()Lcom/example/nests/nests/model/Mutation$Target;"⟩ : MethodName)) (z := (⟨"com/example/nests/nests/model/Mutation$Kind", "getTarget", "()Lcom/example/nests/nests/model/Mutation$Target;"⟩ : MethodName)) hown (mvT hZ (hw _ (List.mem_of_getElem? (i := 21) rfl))) (mvT hZ (hw _ (List.mem_of_getElem? (i := 22) rfl))) (notFace_of_selects (args := #[]) (mvT hZ (hw _ (List.mem_of_getElem? (i := 24) rfl)))) (mvT hZ (hw _ (List.mem_of_getElem? (i := 24) rfl))) (mvT hZ (hw _ (List.mem_of_getElem? (i := 23) rfl))) (by decide) (backOf (W := 0) (rm3 l Z a0 hw [] a2 tC h0 n0 Z0 Fk_t) hZ (hw _ (List.mem_of_getElem? (i := 25) rfl)) (hw _ (List.mem_of_getElem? (i := 2) rfl)) (by decide) (by decide)) q2a q2c (g := (mkF m 5 #[.val (.ref a1), .val (.ref a2), .val (.ref a3), .val (.ref a4), .val (.long q5), .second, .val (.ref a6), .unset] [(.ref a2)])) rfl (by rw [hml]; rfl) (Steps.refl _) (argsL := []) (rest := []) (lenOf pd_16 rfl) rfl (by show 2 * 0 + _ ≤ _; exact Nat.le_of_eq rfl) (hb hby d1_5) (fun _ _ => ⟨rfl, e1, (by decide : 0 + 0 ≤ _), (by decide : 0 + 0 ≤ _)⟩)
  dsimp only [Pt.U, Pt.locs, Pt.cells, Pt.slots] at X2 l2 y2 z2 st2 hQ2
  subst l2 y2 z2
  obtain ⟨rfl, N2q, e2⟩ := hQ2
  have N2 := Fr.app N0 N2q
  refine own_viaW st2 ?_
  show own_GoW p e below s _ _ _ (T2.setTop (mkF m 8 #[.val (.ref a1), .val (.ref a2), .val (.ref a3), .val (.ref a4), .val (.long q5), .second, .val (.ref a6), .unset] [(.ref tC)]))
  refine own_stepW (B := T2.setTop (mkF m 21 #[.val (.ref a1), .val (.ref a2), .val (.ref a3), .val (.ref a4), .val (.long q5), .second, .val (.ref a6), .val (.ref tC)] [(.ref tC), (.int (1 : Int32))])) (fun t k => ?_) ?_
  · show Steps p.tables e below (T2.setTop (mkF m 8 #[.val (.ref a1), .val (.ref a2), .val (.ref a3), .val (.ref a4), .val (.long q5), .second, .val (.ref a6), .unset] [(.ref tC)])) _
    refine XS.astore X2.here hx rfl (hb hby d1_8) rfl rfl (l' := #[.val (.ref a1), .val (.ref a2), .val (.ref a3), .val (.ref a4), .val (.long q5), .second, .val (.ref a6), .val (.ref tC)]) rfl ?_
    refine XS.aloadN X2.here hx rfl (hb hby d1_10) rfl rfl ?_
    refine XS.ifnullNo X2.here hx rfl (hb hby d1_11) rfl ?_
    refine XS.iconst X2.here hx rfl (hb hby d1_14) ?_
    refine XS.goto X2.here hx rfl (pc0 := 15) (pc' := 19) rfl (hb hby d1_15) (by decide) (by decide) ?_
    refine XS.aload X2.here hx rfl (hb hby d1_19) rfl rfl ?_
    exact k
  obtain ⟨T3, X3, e3, st3⟩ := getS2 X2 hx hZ hown (host := "") (Or.inl (hw _ (List.mem_of_getElem? (i := 30) rfl))) Via.refl e2 S_R (g := (mkF m 21 #[.val (.ref a1), .val (.ref a2), .val (.ref a3), .val (.ref a4), .val (.long q5), .second, .val (.ref a6), .val (.ref tC)] [(.ref tC), (.int (1 : Int32))])) rfl (hb hby d1_21)
  refine own_stepW st3 ?_
  show own_GoW p e below s _ _ _ (T3.setTop (mkF m 24 #[.val (.ref a1), .val (.ref a2), .val (.ref a3), .val (.ref a4), .val (.long q5), .second, .val (.ref a6), .val (.ref tC)] [(.ref tR), (.ref tC), (.int (1 : Int32))]))
  refine own_stepW (B := T3.setTop (mkF m 46 #[.val (.ref a1), .val (.ref a2), .val (.ref a3), .val (.ref a4), .val (.long q5), .second, .val (.ref a6), .val (.ref tC)] [(.ref tC), (.int (1 : Int32))])) (fun t k => ?_) ?_
  · show Steps p.tables e below (T3.setTop (mkF m 24 #[.val (.ref a1), .val (.ref a2), .val (.ref a3), .val (.ref a4), .val (.long q5), .second, .val (.ref a6), .val (.ref tC)] [(.ref tR), (.ref tC), (.int (1 : Int32))])) _
    refine Jvm.RoadKit.acmp (g := (mkF m 24 #[.val (.ref a1), .val (.ref a2), .val (.ref a3), .val (.ref a4), .val (.long q5), .second, .val (.ref a6), .val (.ref tC)] [(.ref tR), (.ref tC), (.int (1 : Int32))])) X3 hx rfl rfl rfl (pc0 := 24) (pc' := 27) (same := false) rfl (hb hby d1_24) rfl (decide_eq_false fun q => nCR (Value.ref.inj q)) (by decide) (by decide) ?_
    refine XS.iconst X3.here hx rfl (hb hby d1_27) ?_
    refine XS.goto X3.here hx rfl (pc0 := 28) (pc' := 32) rfl (hb hby d1_28) (by decide) (by decide) ?_
    refine XS.icmpNo X3.here hx rfl (hb hby d1_32) rfl (teq (by decide : ((1 : Int32) = (1 : Int32)))).2 ?_
    refine XS.aloadN X3.here hx rfl (hb hby d1_35) rfl rfl ?_
    refine XS.ifnullNo X3.here hx rfl (hb hby d1_36) rfl ?_
    refine XS.iconst X3.here hx rfl (hb hby d1_39) ?_
    refine XS.goto X3.here hx rfl (pc0 := 40) (pc' := 44) rfl (hb hby d1_40) (by decide) (by decide) ?_
    refine XS.aload X3.here hx rfl (hb hby d1_44) rfl rfl ?_
    exact k
  obtain ⟨T4, X4, e4, st4⟩ := getS2 X3 hx hZ hown (host := "") (Or.inl (hw _ (List.mem_of_getElem? (i := 32) rfl))) Via.refl e3 S_L (g := (mkF m 46 #[.val (.ref a1), .val (.ref a2), .val (.ref a3), .val (.ref a4), .val (.long q5), .second, .val (.ref a6), .val (.ref tC)] [(.ref tC), (.int (1 : Int32))])) rfl (hb hby d1_46)
  refine own_stepW st4 ?_
  show own_GoW p e below s _ _ _ (T4.setTop (mkF m 49 #[.val (.ref a1), .val (.ref a2), .val (.ref a3), .val (.ref a4), .val (.long q5), .second, .val (.ref a6), .val (.ref tC)] [(.ref tC), (.ref tC), (.int (1 : Int32))]))
  refine own_stepW (B := T4.setTop (mkF m 71 #[.val (.ref a1), .val (.ref a2), .val (.ref a3), .val (.ref a4), .val (.long q5), .second, .val (.ref a6), .val (.ref tC)] [(.ref a2), (.int (1 : Int32))])) (fun t k => ?_) ?_
  · show Steps p.tables e below (T4.setTop (mkF m 49 #[.val (.ref a1), .val (.ref a2), .val (.ref a3), .val (.ref a4), .val (.long q5), .second, .val (.ref a6), .val (.ref tC)] [(.ref tC), (.ref tC), (.int (1 : Int32))])) _
    refine Jvm.RoadKit.acmp (g := (mkF m 49 #[.val (.ref a1), .val (.ref a2), .val (.ref a3), .val (.ref a4), .val (.long q5), .second, .val (.ref a6), .val (.ref tC)] [(.ref tC), (.ref tC), (.int (1 : Int32))])) X4 hx rfl rfl rfl (pc0 := 49) (pc' := 52) (same := true) rfl (hb hby d1_49) rfl (decide_eq_true rfl) (by decide) (by decide) ?_
    refine XS.iconst X4.here hx rfl (hb hby d1_52) ?_
    refine XS.goto X4.here hx rfl (pc0 := 53) (pc' := 57) rfl (hb hby d1_53) (by decide) (by decide) ?_
    refine XS.icmpNo X4.here hx rfl (hb hby d1_57) rfl (teq (by decide : ((1 : Int32) = (1 : Int32)))).2 ?_
    refine XS.aload X4.here hx rfl (hb hby d1_60) rfl rfl ?_
    refine XS.ifnullNo X4.here hx rfl (hb hby d1_62) rfl ?_
    refine XS.iconst X4.here hx rfl (hb hby d1_65) ?_
    refine XS.goto X4.here hx rfl (pc0 := 66) (pc' := 70) rfl (hb hby d1_66) (by decide) (by decide) ?_
    refine XS.aloadN X4.here hx rfl (hb hby d1_70) rfl rfl ?_
    exact k
  obtain ⟨cq5, kq5, q5a, q5b, q5c⟩ := isOf hZ e4 E_k
  obtain ⟨_, _, ⟨T5, L5, k5, n5⟩, -, X5, ⟨Lc5, hQ5, l5, y5, z5⟩, st5⟩ := X4.virtualBack hx (y := (⟨"com/example/nests/nests/model/Mutation$Kind", "takesValue", "()Z"⟩ : MethodName)) (z := (⟨"com/example/nests/nests/model/Mutation$Kind", "takesValue", "()Z"⟩ : MethodName)) hown (mvT hZ (hw _ (List.mem_of_getElem? (i := 33) rfl))) (mvT hZ (hw _ (List.mem_of_getElem? (i := 34) rfl))) (notFace_of_selects (args := #[]) (mvT hZ (hw _ (List.mem_of_getElem? (i := 36) rfl)))) (mvT hZ (hw _ (List.mem_of_getElem? (i := 36) rfl))) (mvT hZ (hw _ (List.mem_of_getElem? (i := 35) rfl))) (by decide) (backOf (W := 1) (rm4 l Z a0 hw [] a2 (1 : Int32) h0 n0 Z0 Fk_v rfl) hZ (hw _ (List.mem_of_getElem? (i := 37) rfl)) (hw _ (List.mem_of_getElem? (i := 2) rfl)) (by decide) (by decide)) q5a q5c (g := (mkF m 71 #[.val (.ref a1), .val (.ref a2), .val (.ref a3), .val (.ref a4), .val (.long q5), .second, .val (.ref a6), .val (.ref tC)] [(.ref a2), (.int (1 : Int32))])) rfl (by rw [hml]; rfl) (Steps.refl _) (argsL := []) (rest := [(.int (1 : Int32))]) (lenOf pd_6 rfl) rfl (by show 2 * 0 + _ ≤ _; exact Nat.le_of_eq rfl) (hb hby d1_71) (fun _ _ => ⟨rfl, e4, (by decide : 0 + 0 ≤ _), (by decide : 0 + 0 ≤ _)⟩)
  dsimp only [Pt.U, Pt.locs, Pt.cells, Pt.slots] at X5 l5 y5 z5 st5 hQ5
  subst l5 y5 z5
  obtain ⟨rfl, N5q, e5⟩ := hQ5
  have N5 := Fr.app N2 N5q
  refine own_viaW st5 ?_
  show own_GoW p e below s _ _ _ (T5.setTop (mkF m 74 #[.val (.ref a1), .val (.ref a2), .val (.ref a3), .val (.ref a4), .val (.long q5), .second, .val (.ref a6), .val (.ref tC)] [(.int (1 : Int32)), (.int (1 : Int32))]))
  refine own_stepW (B := T5.setTop (mkF m 81 #[.val (.ref a1), .val (.ref a2), .val (.ref a3), .val (.ref a4), .val (.long q5), .second, .val (.ref a6), .val (.ref tC)] [(.int (lcmpW q5 (0 : Int64)))])) (fun t k => ?_) ?_
  · show Steps p.tables e below (T5.setTop (mkF m 74 #[.val (.ref a1), .val (.ref a2), .val (.ref a3), .val (.ref a4), .val (.long q5), .second, .val (.ref a6), .val (.ref tC)] [(.int (1 : Int32)), (.int (1 : Int32))])) _
    refine XS.icmpNo X5.here hx rfl (hb hby d1_74) rfl (teq (by decide : ((1 : Int32) = (1 : Int32)))).2 ?_
    refine XS.lload X5.here hx rfl (hb hby d1_77) rfl ?_
    refine XS.lconst X5.here hx rfl (hb hby d1_79) ?_
    refine XS.lcmp X5.here hx rfl (hb hby d1_80) rfl ?_
    exact k
  by_cases hq : q5 = (0 : Int64)
  · refine own_stepW (B := T5.setTop (mkF m 113 #[.val (.ref a1), .val (.ref a2), .val (.ref a3), .val (.ref a4), .val (.long q5), .second, .val (.ref a6), .val (.ref tC)] [(.ref a3)])) (fun t k => ?_) ?_
    · show Steps p.tables e below (T5.setTop (mkF m 81 #[.val (.ref a1), .val (.ref a2), .val (.ref a3), .val (.ref a4), .val (.long q5), .second, .val (.ref a6), .val (.ref tC)] [(.int (lcmpW q5 (0 : Int64)))])) _
      refine XS.ifYes X5.here hx rfl (pc0 := 81) (pc' := 108) rfl (hb hby d1_81) rfl ((if0 _ _).trans (teq ((lw_eq _ _).mpr hq)).1) (by decide) (by decide) ?_
      refine XS.aloadN X5.here hx rfl (hb hby d1_108) rfl rfl ?_
      refine XS.ifnullNo X5.here hx rfl (hb hby d1_109) rfl ?_
      refine XS.aloadN X5.here hx rfl (hb hby d1_112) rfl rfl ?_
      exact k
    obtain ⟨_, _, ⟨T6, L6, k6, n6⟩, -, X6, hSx6, gx6, ⟨Lc6, hQ6, l6, y6, z6⟩, st6⟩ := callSS X5 hx (y := (⟨"com/example/nests/nests/model/Cell", "checkFamily", "(Ljava/lang/String;)V"⟩ : MethodName)) hown (mvT hZ (hw _ (List.mem_of_getElem? (i := 40) rfl))) (mvT hZ (hw _ (List.mem_of_getElem? (i := 41) rfl))) (mvT hZ (hw _ (List.mem_of_getElem? (i := 42) rfl))) (mvT hZ (hw _ (List.mem_of_getElem? (i := 43) rfl))) (by decide) (backOfS (W := 0) (rm5 l Z a0 hw [] a3 cs vf b k h0 n0 Z0 P_0 P_1 P_2 V_b S_C hcs S_F hvf) hZ (hw _ (List.mem_of_getElem? (i := 43) rfl)) (hw _ (List.mem_of_getElem? (i := 42) rfl)) (by decide) (by decide)) (g := (mkF m 113 #[.val (.ref a1), .val (.ref a2), .val (.ref a3), .val (.ref a4), .val (.long q5), .second, .val (.ref a6), .val (.ref tC)] [(.ref a3)])) rfl (by rw [hml]; rfl) (argsL := [(.ref a3)]) (rest := []) (lenOf pd_17 rfl) rfl (by show 2 * 0 + _ ≤ _; exact Nat.le_of_eq rfl) (hb hby d1_113) (fun _ _ => ⟨rfl, e5, (by decide : 0 + 2 ≤ _), (by decide : 0 + 28 ≤ _)⟩)
    dsimp only [Pt.U, Pt.locs, Pt.cells, Pt.slots] at X6 l6 y6 z6 st6 hQ6 hSx6 gx6
    subst l6 y6 z6
    obtain ⟨rfl, N6q, K6⟩ := hQ6
    have N6 := Fr.app N5 N6q
    refine own_viaW st6 ?_
    obtain ⟨X6, hS6, hZ, hown⟩ := rebS hS0 (by rw [e5]; exact hk0) X6 hSx6 gx6 hZ hown
    show own_GoW p e below s _ _ _ (T6.setTop (mkF m 116 #[.val (.ref a1), .val (.ref a2), .val (.ref a3), .val (.ref a4), .val (.long q5), .second, .val (.ref a6), .val (.ref tC)] []))
    have KK6 : Keep h0 T6.heap [a1] := KK0.trans K6 all0
    refine own_stepW (B := T6.setTop (mkF m 118 #[.val (.ref a1), .val (.ref a2), .val (.ref a3), .val (.ref a4), .val (.long q5), .second, .val (.ref a6), .val (.ref tC)] [(.ref a2), (.ref a1)])) (fun t k => ?_) ?_
    · show Steps p.tables e below (T6.setTop (mkF m 116 #[.val (.ref a1), .val (.ref a2), .val (.ref a3), .val (.ref a4), .val (.long q5), .second, .val (.ref a6), .val (.ref tC)] [])) _
      refine XS.aloadN X6.here hx rfl (hb hby d1_116) rfl rfl ?_
      refine XS.aloadN X6.here hx rfl (hb hby d1_117) rfl rfl ?_
      exact k
    obtain ⟨T7, h7, X7, e7, W7, st7⟩ := putF X6 hx hZ hown (host := "") (Or.inl (hw _ (List.mem_of_getElem? (i := 92) rfl))) Via.refl rfl (F_0.keep K6 nin0) (E_a1.keep K6) (Or.inr ⟨(hw _ (List.mem_of_getElem? (i := 93) rfl)), rfl, hnm⟩) (hw _ (List.mem_of_getElem? (i := 13) rfl)) (ty := (.object "com/example/nests/nests/model/Mutation$Kind")) (by decide) rfl rfl (g := (mkF m 118 #[.val (.ref a1), .val (.ref a2), .val (.ref a3), .val (.ref a4), .val (.long q5), .second, .val (.ref a6), .val (.ref tC)] [(.ref a2), (.ref a1)])) rfl rfl (hb hby d1_118)
    have Fw7 := (F_0.keep K6 nin0).same W7
    have K7 : Keep h0 h7 [a1] := KK6.wr W7 (Or.inl (by simp))
    have N7 := Fr.snoc X7 N6 g_a1
    refine own_stepW st7 ?_
    show own_GoW p e below s _ _ _ (T7.setTop (mkF m 121 #[.val (.ref a1), .val (.ref a2), .val (.ref a3), .val (.ref a4), .val (.long q5), .second, .val (.ref a6), .val (.ref tC)] []))
    refine own_stepW (B := T7.setTop (mkF m 123 #[.val (.ref a1), .val (.ref a2), .val (.ref a3), .val (.ref a4), .val (.long q5), .second, .val (.ref a6), .val (.ref tC)] [(.ref a3), (.ref a1)])) (fun t k => ?_) ?_
    · show Steps p.tables e below (T7.setTop (mkF m 121 #[.val (.ref a1), .val (.ref a2), .val (.ref a3), .val (.ref a4), .val (.long q5), .second, .val (.ref a6), .val (.ref tC)] [])) _
      refine XS.aloadN X7.here hx rfl (hb hby d1_121) rfl rfl ?_
      refine XS.aloadN X7.here hx rfl (hb hby d1_122) rfl rfl ?_
      exact k
    obtain ⟨T8, h8, X8, e8, W8, st8⟩ := putF X7 hx hZ hown (host := "") (Or.inl (hw _ (List.mem_of_getElem? (i := 94) rfl))) Via.refl e7 ((F_1.keep K6 nin0).other W7 (Or.inr (slot_ne (Or.inr (hw _ (List.mem_of_getElem? (i := 95) rfl))) (Or.inr (hw _ (List.mem_of_getElem? (i := 93) rfl))) (by decide) (t := (.object "java/lang/String")) (t' := (.object "com/example/nests/nests/model/Mutation$Kind")) (by decide) (by decide)))) ((E_a1.keep K6).wr W7) (Or.inr ⟨(hw _ (List.mem_of_getElem? (i := 95) rfl)), rfl, hnm⟩) (hw _ (List.mem_of_getElem? (i := 13) rfl)) (ty := (.object "java/lang/String")) (by decide) rfl rfl (g := (mkF m 123 #[.val (.ref a1), .val (.ref a2), .val (.ref a3), .val (.ref a4), .val (.long q5), .second, .val (.ref a6), .val (.ref tC)] [(.ref a3), (.ref a1)])) rfl rfl (hb hby d1_123)
    have Fw8 := ((F_1.keep K6 nin0).other W7 (Or.inr (slot_ne (Or.inr (hw _ (List.mem_of_getElem? (i := 95) rfl))) (Or.inr (hw _ (List.mem_of_getElem? (i := 93) rfl))) (by decide) (t := (.object "java/lang/String")) (t' := (.object "com/example/nests/nests/model/Mutation$Kind")) (by decide) (by decide)))).same W8
    have K8 : Keep h0 h8 [a1] := K7.wr W8 (Or.inl (by simp))
    have N8 := Fr.snoc X8 N7 g_a1
    refine own_stepW st8 ?_
    show own_GoW p e below s _ _ _ (T8.setTop (mkF m 126 #[.val (.ref a1), .val (.ref a2), .val (.ref a3), .val (.ref a4), .val (.long q5), .second, .val (.ref a6), .val (.ref tC)] []))
    refine own_stepW (B := T8.setTop (mkF m 136 #[.val (.ref a1), .val (.ref a2), .val (.ref a3), .val (.ref a4), .val (.long q5), .second, .val (.ref a6), .val (.ref tC)] [(.ref a4), (.ref a1)])) (fun t k => ?_) ?_
    · show Steps p.tables e below (T8.setTop (mkF m 126 #[.val (.ref a1), .val (.ref a2), .val (.ref a3), .val (.ref a4), .val (.long q5), .second, .val (.ref a6), .val (.ref tC)] [])) _
      refine XS.aloadN X8.here hx rfl (hb hby d1_126) rfl rfl ?_
      refine XS.aloadN X8.here hx rfl (hb hby d1_127) rfl rfl ?_
      refine XS.ifnonnullYes X8.here hx rfl (pc0 := 128) (pc' := 135) rfl (hb hby d1_128) rfl (by decide) (by decide) ?_
      refine XS.aloadN X8.here hx rfl (hb hby d1_135) rfl rfl ?_
      exact k
    obtain ⟨T9, h9, X9, e9, E9, A9, AE9, st9⟩ := cloneH X8 hx hZ hown (hw _ (List.mem_of_getElem? (i := 96) rfl)) (hw _ (List.mem_of_getElem? (i := 97) rfl)) (hw _ (List.mem_of_getElem? (i := 101) rfl)) (hw _ (List.mem_of_getElem? (i := 99) rfl)) (hw _ (List.mem_of_getElem? (i := 100) rfl)) (hw _ (List.mem_of_getElem? (i := 102) rfl)) e8 (Arv.arh (((V_q.keep K6 nin0).other W7 (Ne.symm (ne_exa E_a1 E_q (by decide)))).other W8 (Ne.symm (ne_exa E_a1 E_q (by decide))))) (((E_q.keep K6).wr W7).wr W8) (g := (mkF m 136 #[.val (.ref a1), .val (.ref a2), .val (.ref a3), .val (.ref a4), .val (.long q5), .second, .val (.ref a6), .val (.ref tC)] [(.ref a4), (.ref a1)])) rfl (by rw [hml]; rfl) rfl (hb hby d1_136) (by decide) (W := 1) (cap := 3) (by show 2 * 0 + _ ≤ _; exact Nat.le_of_eq rfl) (by decide) hzq (by decide) (by decide)
    obtain ⟨b9, g9⟩ : ∃ z, z = h8.size := ⟨_, rfl⟩
    rw [← g9] at A9 AE9 st9
    have g_b9 : n0 ≤ b9 := Nat.le_trans (Nat.le_trans (Nat.le_trans (Nat.le_trans Z0 K6.1) (Keep.of_wr W7).1) (Keep.of_wr W8).1) (Nat.le_of_eq g9.symm)
    have ne_a1_b9 : a1 ≠ b9 := Nat.ne_of_lt (Nat.lt_of_lt_of_le (((E_a1.keep K6).wr W7).wr W8).lt (Nat.le_of_eq g9.symm))
    have ne_a2_b9 : a2 ≠ b9 := Nat.ne_of_lt (Nat.lt_of_lt_of_le (((E_k.keep K6).wr W7).wr W8).lt (Nat.le_of_eq g9.symm))
    have ne_a4_b9 : a4 ≠ b9 := Nat.ne_of_lt (Nat.lt_of_lt_of_le (((V_q.keep K6 nin0).other W7 (Ne.symm (ne_exa E_a1 E_q (by decide)))).other W8 (Ne.symm (ne_exa E_a1 E_q (by decide)))).lt (Nat.le_of_eq g9.symm))
    have ne_a6_b9 : a6 ≠ b9 := Nat.ne_of_lt (Nat.lt_of_lt_of_le (((V_v.keep K6 nin0).other W7 (Ne.symm (ne_exa E_a1 E_v (by decide)))).other W8 (Ne.symm (ne_exa E_a1 E_v (by decide)))).lt (Nat.le_of_eq g9.symm))
    have sz_b9 : h0.size ≤ b9 := Nat.le_trans K8.1 (Nat.le_of_eq g9.symm)
    have K9 : Keep h0 h9 [a1] := K8.ext E9
    refine own_stepW st9 ?_
    show own_GoW p e below s _ _ _ (T9.setTop (mkF m 139 #[.val (.ref a1), .val (.ref a2), .val (.ref a3), .val (.ref a4), .val (.long q5), .second, .val (.ref a6), .val (.ref tC)] [(.ref b9), (.ref a1)]))
    obtain ⟨T10, X10, e10, st10⟩ := castY X9 hx hZ hown (hw _ (List.mem_of_getElem? (i := 103) rfl)) e9 (Ins.self AE9) (g := (mkF m 139 #[.val (.ref a1), .val (.ref a2), .val (.ref a3), .val (.ref a4), .val (.long q5), .second, .val (.ref a6), .val (.ref tC)] [(.ref b9), (.ref a1)])) rfl rfl (hb hby d1_139)
    refine own_stepW st10 ?_
    show own_GoW p e below s _ _ _ (T10.setTop (mkF m 142 #[.val (.ref a1), .val (.ref a2), .val (.ref a3), .val (.ref a4), .val (.long q5), .second, .val (.ref a6), .val (.ref tC)] [(.ref b9), (.ref a1)]))
    obtain ⟨T11, h11, X11, e11, W11, st11⟩ := putF X10 hx hZ hown (host := "") (Or.inl (hw _ (List.mem_of_getElem? (i := 105) rfl))) Via.refl e10 ((((F_2.keep K6 nin0).other W7 (Or.inr (slot_ne (Or.inr (hw _ (List.mem_of_getElem? (i := 106) rfl))) (Or.inr (hw _ (List.mem_of_getElem? (i := 93) rfl))) (by decide) (t := (.array .byte)) (t' := (.object "com/example/nests/nests/model/Mutation$Kind")) (by decide) (by decide)))).other W8 (Or.inr (slot_ne (Or.inr (hw _ (List.mem_of_getElem? (i := 106) rfl))) (Or.inr (hw _ (List.mem_of_getElem? (i := 95) rfl))) (by decide) (t := (.array .byte)) (t' := (.object "java/lang/String")) (by decide) (by decide)))).ext E9) ((((E_a1.keep K6).wr W7).wr W8).ext E9) (Or.inr ⟨(hw _ (List.mem_of_getElem? (i := 106) rfl)), rfl, hnm⟩) (hw _ (List.mem_of_getElem? (i := 13) rfl)) (ty := (.array .byte)) (by decide) rfl rfl (g := (mkF m 142 #[.val (.ref a1), .val (.ref a2), .val (.ref a3), .val (.ref a4), .val (.long q5), .second, .val (.ref a6), .val (.ref tC)] [(.ref b9), (.ref a1)])) rfl rfl (hb hby d1_142)
    have Fw11 := ((((F_2.keep K6 nin0).other W7 (Or.inr (slot_ne (Or.inr (hw _ (List.mem_of_getElem? (i := 106) rfl))) (Or.inr (hw _ (List.mem_of_getElem? (i := 93) rfl))) (by decide) (t := (.array .byte)) (t' := (.object "com/example/nests/nests/model/Mutation$Kind")) (by decide) (by decide)))).other W8 (Or.inr (slot_ne (Or.inr (hw _ (List.mem_of_getElem? (i := 106) rfl))) (Or.inr (hw _ (List.mem_of_getElem? (i := 95) rfl))) (by decide) (t := (.array .byte)) (t' := (.object "java/lang/String")) (by decide) (by decide)))).ext E9).same W11
    have K11 : Keep h0 h11 [a1] := K9.wr W11 (Or.inl (by simp))
    have N11 := Fr.snoc X11 N8 g_a1
    refine own_stepW st11 ?_
    show own_GoW p e below s _ _ _ (T11.setTop (mkF m 145 #[.val (.ref a1), .val (.ref a2), .val (.ref a3), .val (.ref a4), .val (.long q5), .second, .val (.ref a6), .val (.ref tC)] []))
    refine own_stepW (B := T11.setTop (mkF m 148 #[.val (.ref a1), .val (.ref a2), .val (.ref a3), .val (.ref a4), .val (.long q5), .second, .val (.ref a6), .val (.ref tC)] [(.long q5), (.ref a1)])) (fun t k => ?_) ?_
    · show Steps p.tables e below (T11.setTop (mkF m 145 #[.val (.ref a1), .val (.ref a2), .val (.ref a3), .val (.ref a4), .val (.long q5), .second, .val (.ref a6), .val (.ref tC)] [])) _
      refine XS.aloadN X11.here hx rfl (hb hby d1_145) rfl rfl ?_
      refine XS.lload X11.here hx rfl (hb hby d1_146) rfl ?_
      exact k
    obtain ⟨T12, h12, X12, e12, W12, st12⟩ := putF X11 hx hZ hown (host := "") (Or.inl (hw _ (List.mem_of_getElem? (i := 107) rfl))) Via.refl e11 (((((F_3.keep K6 nin0).other W7 (Or.inr (slot_ne (Or.inr (hw _ (List.mem_of_getElem? (i := 108) rfl))) (Or.inr (hw _ (List.mem_of_getElem? (i := 93) rfl))) (by decide) (t := .long) (t' := (.object "com/example/nests/nests/model/Mutation$Kind")) (by decide) (by decide)))).other W8 (Or.inr (slot_ne (Or.inr (hw _ (List.mem_of_getElem? (i := 108) rfl))) (Or.inr (hw _ (List.mem_of_getElem? (i := 95) rfl))) (by decide) (t := .long) (t' := (.object "java/lang/String")) (by decide) (by decide)))).ext E9).other W11 (Or.inr (slot_ne (Or.inr (hw _ (List.mem_of_getElem? (i := 108) rfl))) (Or.inr (hw _ (List.mem_of_getElem? (i := 106) rfl))) (by decide) (t := .long) (t' := (.array .byte)) (by decide) (by decide)))) (((((E_a1.keep K6).wr W7).wr W8).ext E9).wr W11) (Or.inr ⟨(hw _ (List.mem_of_getElem? (i := 108) rfl)), rfl, hnm⟩) (hw _ (List.mem_of_getElem? (i := 13) rfl)) (ty := .long) (by decide) rfl rfl (g := (mkF m 148 #[.val (.ref a1), .val (.ref a2), .val (.ref a3), .val (.ref a4), .val (.long q5), .second, .val (.ref a6), .val (.ref tC)] [(.long q5), (.ref a1)])) rfl rfl (hb hby d1_148)
    have Fw12 := (((((F_3.keep K6 nin0).other W7 (Or.inr (slot_ne (Or.inr (hw _ (List.mem_of_getElem? (i := 108) rfl))) (Or.inr (hw _ (List.mem_of_getElem? (i := 93) rfl))) (by decide) (t := .long) (t' := (.object "com/example/nests/nests/model/Mutation$Kind")) (by decide) (by decide)))).other W8 (Or.inr (slot_ne (Or.inr (hw _ (List.mem_of_getElem? (i := 108) rfl))) (Or.inr (hw _ (List.mem_of_getElem? (i := 95) rfl))) (by decide) (t := .long) (t' := (.object "java/lang/String")) (by decide) (by decide)))).ext E9).other W11 (Or.inr (slot_ne (Or.inr (hw _ (List.mem_of_getElem? (i := 108) rfl))) (Or.inr (hw _ (List.mem_of_getElem? (i := 106) rfl))) (by decide) (t := .long) (t' := (.array .byte)) (by decide) (by decide)))).same W12
    have K12 : Keep h0 h12 [a1] := K11.wr W12 (Or.inl (by simp))
    have N12 := Fr.snoc X12 N11 g_a1
    refine own_stepW st12 ?_
    show own_GoW p e below s _ _ _ (T12.setTop (mkF m 151 #[.val (.ref a1), .val (.ref a2), .val (.ref a3), .val (.ref a4), .val (.long q5), .second, .val (.ref a6), .val (.ref tC)] []))
    refine own_stepW (B := T12.setTop (mkF m 163 #[.val (.ref a1), .val (.ref a2), .val (.ref a3), .val (.ref a4), .val (.long q5), .second, .val (.ref a6), .val (.ref tC)] [(.ref a6), (.ref a1)])) (fun t k => ?_) ?_
    · show Steps p.tables e below (T12.setTop (mkF m 151 #[.val (.ref a1), .val (.ref a2), .val (.ref a3), .val (.ref a4), .val (.long q5), .second, .val (.ref a6), .val (.ref tC)] [])) _
      refine XS.aloadN X12.here hx rfl (hb hby d1_151) rfl rfl ?_
      refine XS.aload X12.here hx rfl (hb hby d1_152) rfl rfl ?_
      refine XS.ifnonnullYes X12.here hx rfl (pc0 := 154) (pc' := 161) rfl (hb hby d1_154) rfl (by decide) (by decide) ?_
      refine XS.aload X12.here hx rfl (hb hby d1_161) rfl rfl ?_
      exact k
    obtain ⟨T13, h13, X13, e13, E13, A13, AE13, st13⟩ := cloneH X12 hx hZ hown (hw _ (List.mem_of_getElem? (i := 96) rfl)) (hw _ (List.mem_of_getElem? (i := 97) rfl)) (hw _ (List.mem_of_getElem? (i := 101) rfl)) (hw _ (List.mem_of_getElem? (i := 99) rfl)) (hw _ (List.mem_of_getElem? (i := 100) rfl)) (hw _ (List.mem_of_getElem? (i := 102) rfl)) e12 (Arv.arh ((((((V_v.keep K6 nin0).other W7 (Ne.symm (ne_exa E_a1 E_v (by decide)))).other W8 (Ne.symm (ne_exa E_a1 E_v (by decide)))).ext E9).other W11 (Ne.symm (ne_exa E_a1 E_v (by decide)))).other W12 (Ne.symm (ne_exa E_a1 E_v (by decide))))) ((((((E_v.keep K6).wr W7).wr W8).ext E9).wr W11).wr W12) (g := (mkF m 163 #[.val (.ref a1), .val (.ref a2), .val (.ref a3), .val (.ref a4), .val (.long q5), .second, .val (.ref a6), .val (.ref tC)] [(.ref a6), (.ref a1)])) rfl (by rw [hml]; rfl) rfl (hb hby d1_163) (by decide) (W := 1) (cap := 3) (by show 2 * 0 + _ ≤ _; exact Nat.le_of_eq rfl) (by decide) hzv (by decide) (by decide)
    obtain ⟨b13, g13⟩ : ∃ z, z = h12.size := ⟨_, rfl⟩
    rw [← g13] at A13 AE13 st13
    have g_b13 : n0 ≤ b13 := Nat.le_trans (Nat.le_trans (Nat.le_trans (Nat.le_trans (Nat.le_trans (Nat.le_trans (Nat.le_trans Z0 K6.1) (Keep.of_wr W7).1) (Keep.of_wr W8).1) E9.1) (Keep.of_wr W11).1) (Keep.of_wr W12).1) (Nat.le_of_eq g13.symm)
    have ne_a1_b13 : a1 ≠ b13 := Nat.ne_of_lt (Nat.lt_of_lt_of_le ((((((E_a1.keep K6).wr W7).wr W8).ext E9).wr W11).wr W12).lt (Nat.le_of_eq g13.symm))
    have ne_a2_b13 : a2 ≠ b13 := Nat.ne_of_lt (Nat.lt_of_lt_of_le ((((((E_k.keep K6).wr W7).wr W8).ext E9).wr W11).wr W12).lt (Nat.le_of_eq g13.symm))
    have ne_a4_b13 : a4 ≠ b13 := Nat.ne_of_lt (Nat.lt_of_lt_of_le ((((((V_q.keep K6 nin0).other W7 (Ne.symm (ne_exa E_a1 E_q (by decide)))).other W8 (Ne.symm (ne_exa E_a1 E_q (by decide)))).ext E9).other W11 (Ne.symm (ne_exa E_a1 E_q (by decide)))).other W12 (Ne.symm (ne_exa E_a1 E_q (by decide)))).lt (Nat.le_of_eq g13.symm))
    have ne_a6_b13 : a6 ≠ b13 := Nat.ne_of_lt (Nat.lt_of_lt_of_le ((((((V_v.keep K6 nin0).other W7 (Ne.symm (ne_exa E_a1 E_v (by decide)))).other W8 (Ne.symm (ne_exa E_a1 E_v (by decide)))).ext E9).other W11 (Ne.symm (ne_exa E_a1 E_v (by decide)))).other W12 (Ne.symm (ne_exa E_a1 E_v (by decide)))).lt (Nat.le_of_eq g13.symm))
    have ne_b9_b13 : b9 ≠ b13 := Nat.ne_of_lt (Nat.lt_of_lt_of_le ((A9.other W11 (Ne.symm ne_a1_b9)).other W12 (Ne.symm ne_a1_b9)).lt (Nat.le_of_eq g13.symm))
    have sz_b13 : h0.size ≤ b13 := Nat.le_trans K12.1 (Nat.le_of_eq g13.symm)
    have K13 : Keep h0 h13 [a1] := K12.ext E13
    refine own_stepW st13 ?_
    show own_GoW p e below s _ _ _ (T13.setTop (mkF m 166 #[.val (.ref a1), .val (.ref a2), .val (.ref a3), .val (.ref a4), .val (.long q5), .second, .val (.ref a6), .val (.ref tC)] [(.ref b13), (.ref a1)]))
    obtain ⟨T14, X14, e14, st14⟩ := castY X13 hx hZ hown (hw _ (List.mem_of_getElem? (i := 103) rfl)) e13 (Ins.self AE13) (g := (mkF m 166 #[.val (.ref a1), .val (.ref a2), .val (.ref a3), .val (.ref a4), .val (.long q5), .second, .val (.ref a6), .val (.ref tC)] [(.ref b13), (.ref a1)])) rfl rfl (hb hby d1_166)
    refine own_stepW st14 ?_
    show own_GoW p e below s _ _ _ (T14.setTop (mkF m 169 #[.val (.ref a1), .val (.ref a2), .val (.ref a3), .val (.ref a4), .val (.long q5), .second, .val (.ref a6), .val (.ref tC)] [(.ref b13), (.ref a1)]))
    obtain ⟨T15, h15, X15, e15, W15, st15⟩ := putF X14 hx hZ hown (host := "") (Or.inl (hw _ (List.mem_of_getElem? (i := 109) rfl))) Via.refl e14 (((((((F_4.keep K6 nin0).other W7 (Or.inr (slot_ne (Or.inr (hw _ (List.mem_of_getElem? (i := 110) rfl))) (Or.inr (hw _ (List.mem_of_getElem? (i := 93) rfl))) (by decide) (t := (.array .byte)) (t' := (.object "com/example/nests/nests/model/Mutation$Kind")) (by decide) (by decide)))).other W8 (Or.inr (slot_ne (Or.inr (hw _ (List.mem_of_getElem? (i := 110) rfl))) (Or.inr (hw _ (List.mem_of_getElem? (i := 95) rfl))) (by decide) (t := (.array .byte)) (t' := (.object "java/lang/String")) (by decide) (by decide)))).ext E9).other W11 (Or.inr (slot_ne (Or.inr (hw _ (List.mem_of_getElem? (i := 110) rfl))) (Or.inr (hw _ (List.mem_of_getElem? (i := 106) rfl))) (by decide) (t := (.array .byte)) (t' := (.array .byte)) (by decide) (by decide)))).other W12 (Or.inr (slot_ne (Or.inr (hw _ (List.mem_of_getElem? (i := 110) rfl))) (Or.inr (hw _ (List.mem_of_getElem? (i := 108) rfl))) (by decide) (t := (.array .byte)) (t' := .long) (by decide) (by decide)))).ext E13) (((((((E_a1.keep K6).wr W7).wr W8).ext E9).wr W11).wr W12).ext E13) (Or.inr ⟨(hw _ (List.mem_of_getElem? (i := 110) rfl)), rfl, hnm⟩) (hw _ (List.mem_of_getElem? (i := 13) rfl)) (ty := (.array .byte)) (by decide) rfl rfl (g := (mkF m 169 #[.val (.ref a1), .val (.ref a2), .val (.ref a3), .val (.ref a4), .val (.long q5), .second, .val (.ref a6), .val (.ref tC)] [(.ref b13), (.ref a1)])) rfl rfl (hb hby d1_169)
    have Fw15 := (((((((F_4.keep K6 nin0).other W7 (Or.inr (slot_ne (Or.inr (hw _ (List.mem_of_getElem? (i := 110) rfl))) (Or.inr (hw _ (List.mem_of_getElem? (i := 93) rfl))) (by decide) (t := (.array .byte)) (t' := (.object "com/example/nests/nests/model/Mutation$Kind")) (by decide) (by decide)))).other W8 (Or.inr (slot_ne (Or.inr (hw _ (List.mem_of_getElem? (i := 110) rfl))) (Or.inr (hw _ (List.mem_of_getElem? (i := 95) rfl))) (by decide) (t := (.array .byte)) (t' := (.object "java/lang/String")) (by decide) (by decide)))).ext E9).other W11 (Or.inr (slot_ne (Or.inr (hw _ (List.mem_of_getElem? (i := 110) rfl))) (Or.inr (hw _ (List.mem_of_getElem? (i := 106) rfl))) (by decide) (t := (.array .byte)) (t' := (.array .byte)) (by decide) (by decide)))).other W12 (Or.inr (slot_ne (Or.inr (hw _ (List.mem_of_getElem? (i := 110) rfl))) (Or.inr (hw _ (List.mem_of_getElem? (i := 108) rfl))) (by decide) (t := (.array .byte)) (t' := .long) (by decide) (by decide)))).ext E13).same W15
    have K15 : Keep h0 h15 [a1] := K13.wr W15 (Or.inl (by simp))
    have N15 := Fr.snoc X15 N12 g_a1
    refine own_stepW st15 ?_
    show own_GoW p e below s _ _ _ (T15.setTop (mkF m 172 #[.val (.ref a1), .val (.ref a2), .val (.ref a3), .val (.ref a4), .val (.long q5), .second, .val (.ref a6), .val (.ref tC)] []))
    exact own_retVW X15 hS6 (by rw [e15]; exact (Nat.le_trans (Nat.le_trans (Nat.le_trans (Nat.le_trans (Nat.le_trans (Nat.le_trans (Nat.le_trans (Nat.le_refl T6.heap.size) (Keep.of_wr W7).1) (Keep.of_wr W8).1) E9.1) (Keep.of_wr W11).1) (Keep.of_wr W12).1) E13.1) (Keep.of_wr W15).1)) hx Bd.notSynchronized Bd.returns (hb hby d1_172) ⟨rfl, N15, by rw [e15]; exact K15, by rw [e15]; exact ((((((((E_a1.keep K6).wr W7).wr W8).ext E9).wr W11).wr W12).ext E13).wr W15), ⟨b9, by rw [e15]; exact (((Fw11.other W12 (Or.inr (slot_ne (Or.inr (hw _ (List.mem_of_getElem? (i := 106) rfl))) (Or.inr (hw _ (List.mem_of_getElem? (i := 108) rfl))) (by decide) (t := (.array .byte)) (t' := .long) (by decide) (by decide)))).ext E13).other W15 (Or.inr (slot_ne (Or.inr (hw _ (List.mem_of_getElem? (i := 106) rfl))) (Or.inr (hw _ (List.mem_of_getElem? (i := 110) rfl))) (by decide) (t := (.array .byte)) (t' := (.array .byte)) (by decide) (by decide)))), by rw [e15]; exact ((((AE9.wr W11).wr W12).ext E13).wr W15), by rw [e15]; exact ((((A9.other W11 (Ne.symm ne_a1_b9)).other W12 (Ne.symm ne_a1_b9)).ext E13).other W15 (Ne.symm ne_a1_b9)), sz_b9⟩, ⟨b13, by rw [e15]; exact Fw15, by rw [e15]; exact (AE13.wr W15), by rw [e15]; exact (A13.other W15 (Ne.symm ne_a1_b13)), sz_b13⟩⟩ (by decide) (by decide)
  · refine own_stepW (B := T5.setTop (mkF m 85 #[.val (.ref a1), .val (.ref a2), .val (.ref a3), .val (.ref a4), .val (.long q5), .second, .val (.ref a6), .val (.ref tC)] [(.ref a2)])) (fun t k => ?_) ?_
    · show Steps p.tables e below (T5.setTop (mkF m 81 #[.val (.ref a1), .val (.ref a2), .val (.ref a3), .val (.ref a4), .val (.long q5), .second, .val (.ref a6), .val (.ref tC)] [(.int (lcmpW q5 (0 : Int64)))])) _
      refine XS.ifNo X5.here hx rfl (hb hby d1_81) rfl ((if0 _ _).trans (feq (fun q => hq ((lw_eq _ _).mp q))).1) ?_
      refine XS.aloadN X5.here hx rfl (hb hby d1_84) rfl rfl ?_
      exact k
    obtain ⟨cq16, kq16, q16a, q16b, q16c⟩ := isOf hZ e5 E_k
    obtain ⟨_, _, ⟨T16, L16, k16, n16⟩, -, X16, ⟨Lc16, hQ16, l16, y16, z16⟩, st16⟩ := X5.virtualBack hx (y := (⟨"com/example/nests/nests/model/Mutation$Kind", "takesTimestamp", "()Z"⟩ : MethodName)) (z := (⟨"com/example/nests/nests/model/Mutation$Kind", "takesTimestamp", "()Z"⟩ : MethodName)) hown (mvT hZ (hw _ (List.mem_of_getElem? (i := 122) rfl))) (mvT hZ (hw _ (List.mem_of_getElem? (i := 123) rfl))) (notFace_of_selects (args := #[]) (mvT hZ (hw _ (List.mem_of_getElem? (i := 125) rfl)))) (mvT hZ (hw _ (List.mem_of_getElem? (i := 125) rfl))) (mvT hZ (hw _ (List.mem_of_getElem? (i := 124) rfl))) (by decide) (backOf (W := 0) (rm18 l Z a0 hw [] a2 ts h0 n0 Z0 Fk_s htn) hZ (hw _ (List.mem_of_getElem? (i := 126) rfl)) (hw _ (List.mem_of_getElem? (i := 2) rfl)) (by decide) (by decide)) q16a q16c (g := (mkF m 85 #[.val (.ref a1), .val (.ref a2), .val (.ref a3), .val (.ref a4), .val (.long q5), .second, .val (.ref a6), .val (.ref tC)] [(.ref a2)])) rfl (by rw [hml]; rfl) (Steps.refl _) (argsL := []) (rest := []) (lenOf pd_6 rfl) rfl (by show 2 * 0 + _ ≤ _; exact Nat.le_of_eq rfl) (hb hby d1_85) (fun _ _ => ⟨rfl, e5, (by decide : 0 + 0 ≤ _), (by decide : 0 + 0 ≤ _)⟩)
    dsimp only [Pt.U, Pt.locs, Pt.cells, Pt.slots] at X16 l16 y16 z16 st16 hQ16
    subst l16 y16 z16
    obtain ⟨rfl, N16q, e16⟩ := hQ16
    have N16 := Fr.app N5 N16q
    refine own_viaW st16 ?_
    show own_GoW p e below s _ _ _ (T16.setTop (mkF m 88 #[.val (.ref a1), .val (.ref a2), .val (.ref a3), .val (.ref a4), .val (.long q5), .second, .val (.ref a6), .val (.ref tC)] [(.int ts)]))
    refine own_stepW (B := T16.setTop (mkF m 113 #[.val (.ref a1), .val (.ref a2), .val (.ref a3), .val (.ref a4), .val (.long q5), .second, .val (.ref a6), .val (.ref tC)] [(.ref a3)])) (fun t k => ?_) ?_
    · show Steps p.tables e below (T16.setTop (mkF m 88 #[.val (.ref a1), .val (.ref a2), .val (.ref a3), .val (.ref a4), .val (.long q5), .second, .val (.ref a6), .val (.ref tC)] [(.int ts)])) _
      refine XS.ifYes X16.here hx rfl (pc0 := 88) (pc' := 108) rfl (hb hby d1_88) rfl ((if0 _ _).trans (feq (by rw [hts.resolve_left hq]; decide)).2) (by decide) (by decide) ?_
      refine XS.aloadN X16.here hx rfl (hb hby d1_108) rfl rfl ?_
      refine XS.ifnullNo X16.here hx rfl (hb hby d1_109) rfl ?_
      refine XS.aloadN X16.here hx rfl (hb hby d1_112) rfl rfl ?_
      exact k
    obtain ⟨_, _, ⟨T17, L17, k17, n17⟩, -, X17, hSx17, gx17, ⟨Lc17, hQ17, l17, y17, z17⟩, st17⟩ := callSS X16 hx (y := (⟨"com/example/nests/nests/model/Cell", "checkFamily", "(Ljava/lang/String;)V"⟩ : MethodName)) hown (mvT hZ (hw _ (List.mem_of_getElem? (i := 40) rfl))) (mvT hZ (hw _ (List.mem_of_getElem? (i := 41) rfl))) (mvT hZ (hw _ (List.mem_of_getElem? (i := 42) rfl))) (mvT hZ (hw _ (List.mem_of_getElem? (i := 43) rfl))) (by decide) (backOfS (W := 0) (rm5 l Z a0 hw [] a3 cs vf b k h0 n0 Z0 P_0 P_1 P_2 V_b S_C hcs S_F hvf) hZ (hw _ (List.mem_of_getElem? (i := 43) rfl)) (hw _ (List.mem_of_getElem? (i := 42) rfl)) (by decide) (by decide)) (g := (mkF m 113 #[.val (.ref a1), .val (.ref a2), .val (.ref a3), .val (.ref a4), .val (.long q5), .second, .val (.ref a6), .val (.ref tC)] [(.ref a3)])) rfl (by rw [hml]; rfl) (argsL := [(.ref a3)]) (rest := []) (lenOf pd_17 rfl) rfl (by show 2 * 0 + _ ≤ _; exact Nat.le_of_eq rfl) (hb hby d1_113) (fun _ _ => ⟨rfl, e16, (by decide : 0 + 2 ≤ _), (by decide : 0 + 28 ≤ _)⟩)
    dsimp only [Pt.U, Pt.locs, Pt.cells, Pt.slots] at X17 l17 y17 z17 st17 hQ17 hSx17 gx17
    subst l17 y17 z17
    obtain ⟨rfl, N17q, K17⟩ := hQ17
    have N17 := Fr.app N16 N17q
    refine own_viaW st17 ?_
    obtain ⟨X17, hS17, hZ, hown⟩ := rebS hS0 (by rw [e16]; exact hk0) X17 hSx17 gx17 hZ hown
    show own_GoW p e below s _ _ _ (T17.setTop (mkF m 116 #[.val (.ref a1), .val (.ref a2), .val (.ref a3), .val (.ref a4), .val (.long q5), .second, .val (.ref a6), .val (.ref tC)] []))
    have KK17 : Keep h0 T17.heap [a1] := KK0.trans K17 all0
    refine own_stepW (B := T17.setTop (mkF m 118 #[.val (.ref a1), .val (.ref a2), .val (.ref a3), .val (.ref a4), .val (.long q5), .second, .val (.ref a6), .val (.ref tC)] [(.ref a2), (.ref a1)])) (fun t k => ?_) ?_
    · show Steps p.tables e below (T17.setTop (mkF m 116 #[.val (.ref a1), .val (.ref a2), .val (.ref a3), .val (.ref a4), .val (.long q5), .second, .val (.ref a6), .val (.ref tC)] [])) _
      refine XS.aloadN X17.here hx rfl (hb hby d1_116) rfl rfl ?_
      refine XS.aloadN X17.here hx rfl (hb hby d1_117) rfl rfl ?_
      exact k
    obtain ⟨T18, h18, X18, e18, W18, st18⟩ := putF X17 hx hZ hown (host := "") (Or.inl (hw _ (List.mem_of_getElem? (i := 92) rfl))) Via.refl rfl (F_0.keep K17 nin0) (E_a1.keep K17) (Or.inr ⟨(hw _ (List.mem_of_getElem? (i := 93) rfl)), rfl, hnm⟩) (hw _ (List.mem_of_getElem? (i := 13) rfl)) (ty := (.object "com/example/nests/nests/model/Mutation$Kind")) (by decide) rfl rfl (g := (mkF m 118 #[.val (.ref a1), .val (.ref a2), .val (.ref a3), .val (.ref a4), .val (.long q5), .second, .val (.ref a6), .val (.ref tC)] [(.ref a2), (.ref a1)])) rfl rfl (hb hby d1_118)
    have Fw18 := (F_0.keep K17 nin0).same W18
    have K18 : Keep h0 h18 [a1] := KK17.wr W18 (Or.inl (by simp))
    have N18 := Fr.snoc X18 N17 g_a1
    refine own_stepW st18 ?_
    show own_GoW p e below s _ _ _ (T18.setTop (mkF m 121 #[.val (.ref a1), .val (.ref a2), .val (.ref a3), .val (.ref a4), .val (.long q5), .second, .val (.ref a6), .val (.ref tC)] []))
    refine own_stepW (B := T18.setTop (mkF m 123 #[.val (.ref a1), .val (.ref a2), .val (.ref a3), .val (.ref a4), .val (.long q5), .second, .val (.ref a6), .val (.ref tC)] [(.ref a3), (.ref a1)])) (fun t k => ?_) ?_
    · show Steps p.tables e below (T18.setTop (mkF m 121 #[.val (.ref a1), .val (.ref a2), .val (.ref a3), .val (.ref a4), .val (.long q5), .second, .val (.ref a6), .val (.ref tC)] [])) _
      refine XS.aloadN X18.here hx rfl (hb hby d1_121) rfl rfl ?_
      refine XS.aloadN X18.here hx rfl (hb hby d1_122) rfl rfl ?_
      exact k
    obtain ⟨T19, h19, X19, e19, W19, st19⟩ := putF X18 hx hZ hown (host := "") (Or.inl (hw _ (List.mem_of_getElem? (i := 94) rfl))) Via.refl e18 ((F_1.keep K17 nin0).other W18 (Or.inr (slot_ne (Or.inr (hw _ (List.mem_of_getElem? (i := 95) rfl))) (Or.inr (hw _ (List.mem_of_getElem? (i := 93) rfl))) (by decide) (t := (.object "java/lang/String")) (t' := (.object "com/example/nests/nests/model/Mutation$Kind")) (by decide) (by decide)))) ((E_a1.keep K17).wr W18) (Or.inr ⟨(hw _ (List.mem_of_getElem? (i := 95) rfl)), rfl, hnm⟩) (hw _ (List.mem_of_getElem? (i := 13) rfl)) (ty := (.object "java/lang/String")) (by decide) rfl rfl (g := (mkF m 123 #[.val (.ref a1), .val (.ref a2), .val (.ref a3), .val (.ref a4), .val (.long q5), .second, .val (.ref a6), .val (.ref tC)] [(.ref a3), (.ref a1)])) rfl rfl (hb hby d1_123)
    have Fw19 := ((F_1.keep K17 nin0).other W18 (Or.inr (slot_ne (Or.inr (hw _ (List.mem_of_getElem? (i := 95) rfl))) (Or.inr (hw _ (List.mem_of_getElem? (i := 93) rfl))) (by decide) (t := (.object "java/lang/String")) (t' := (.object "com/example/nests/nests/model/Mutation$Kind")) (by decide) (by decide)))).same W19
    have K19 : Keep h0 h19 [a1] := K18.wr W19 (Or.inl (by simp))
    have N19 := Fr.snoc X19 N18 g_a1
    refine own_stepW st19 ?_
    show own_GoW p e below s _ _ _ (T19.setTop (mkF m 126 #[.val (.ref a1), .val (.ref a2), .val (.ref a3), .val (.ref a4), .val (.long q5), .second, .val (.ref a6), .val (.ref tC)] []))
    refine own_stepW (B := T19.setTop (mkF m 136 #[.val (.ref a1), .val (.ref a2), .val (.ref a3), .val (.ref a4), .val (.long q5), .second, .val (.ref a6), .val (.ref tC)] [(.ref a4), (.ref a1)])) (fun t k => ?_) ?_
    · show Steps p.tables e below (T19.setTop (mkF m 126 #[.val (.ref a1), .val (.ref a2), .val (.ref a3), .val (.ref a4), .val (.long q5), .second, .val (.ref a6), .val (.ref tC)] [])) _
      refine XS.aloadN X19.here hx rfl (hb hby d1_126) rfl rfl ?_
      refine XS.aloadN X19.here hx rfl (hb hby d1_127) rfl rfl ?_
      refine XS.ifnonnullYes X19.here hx rfl (pc0 := 128) (pc' := 135) rfl (hb hby d1_128) rfl (by decide) (by decide) ?_
      refine XS.aloadN X19.here hx rfl (hb hby d1_135) rfl rfl ?_
      exact k
    obtain ⟨T20, h20, X20, e20, E20, A20, AE20, st20⟩ := cloneH X19 hx hZ hown (hw _ (List.mem_of_getElem? (i := 96) rfl)) (hw _ (List.mem_of_getElem? (i := 97) rfl)) (hw _ (List.mem_of_getElem? (i := 101) rfl)) (hw _ (List.mem_of_getElem? (i := 99) rfl)) (hw _ (List.mem_of_getElem? (i := 100) rfl)) (hw _ (List.mem_of_getElem? (i := 102) rfl)) e19 (Arv.arh (((V_q.keep K17 nin0).other W18 (Ne.symm (ne_exa E_a1 E_q (by decide)))).other W19 (Ne.symm (ne_exa E_a1 E_q (by decide))))) (((E_q.keep K17).wr W18).wr W19) (g := (mkF m 136 #[.val (.ref a1), .val (.ref a2), .val (.ref a3), .val (.ref a4), .val (.long q5), .second, .val (.ref a6), .val (.ref tC)] [(.ref a4), (.ref a1)])) rfl (by rw [hml]; rfl) rfl (hb hby d1_136) (by decide) (W := 1) (cap := 3) (by show 2 * 0 + _ ≤ _; exact Nat.le_of_eq rfl) (by decide) hzq (by decide) (by decide)
    obtain ⟨b20, g20⟩ : ∃ z, z = h19.size := ⟨_, rfl⟩
    rw [← g20] at A20 AE20 st20
    have g_b20 : n0 ≤ b20 := Nat.le_trans (Nat.le_trans (Nat.le_trans (Nat.le_trans Z0 K17.1) (Keep.of_wr W18).1) (Keep.of_wr W19).1) (Nat.le_of_eq g20.symm)
    have ne_a1_b20 : a1 ≠ b20 := Nat.ne_of_lt (Nat.lt_of_lt_of_le (((E_a1.keep K17).wr W18).wr W19).lt (Nat.le_of_eq g20.symm))
    have ne_a2_b20 : a2 ≠ b20 := Nat.ne_of_lt (Nat.lt_of_lt_of_le (((E_k.keep K17).wr W18).wr W19).lt (Nat.le_of_eq g20.symm))
    have ne_a4_b20 : a4 ≠ b20 := Nat.ne_of_lt (Nat.lt_of_lt_of_le (((V_q.keep K17 nin0).other W18 (Ne.symm (ne_exa E_a1 E_q (by decide)))).other W19 (Ne.symm (ne_exa E_a1 E_q (by decide)))).lt (Nat.le_of_eq g20.symm))
    have ne_a6_b20 : a6 ≠ b20 := Nat.ne_of_lt (Nat.lt_of_lt_of_le (((V_v.keep K17 nin0).other W18 (Ne.symm (ne_exa E_a1 E_v (by decide)))).other W19 (Ne.symm (ne_exa E_a1 E_v (by decide)))).lt (Nat.le_of_eq g20.symm))
    have sz_b20 : h0.size ≤ b20 := Nat.le_trans K19.1 (Nat.le_of_eq g20.symm)
    have K20 : Keep h0 h20 [a1] := K19.ext E20
    refine own_stepW st20 ?_
    show own_GoW p e below s _ _ _ (T20.setTop (mkF m 139 #[.val (.ref a1), .val (.ref a2), .val (.ref a3), .val (.ref a4), .val (.long q5), .second, .val (.ref a6), .val (.ref tC)] [(.ref b20), (.ref a1)]))
    obtain ⟨T21, X21, e21, st21⟩ := castY X20 hx hZ hown (hw _ (List.mem_of_getElem? (i := 103) rfl)) e20 (Ins.self AE20) (g := (mkF m 139 #[.val (.ref a1), .val (.ref a2), .val (.ref a3), .val (.ref a4), .val (.long q5), .second, .val (.ref a6), .val (.ref tC)] [(.ref b20), (.ref a1)])) rfl rfl (hb hby d1_139)
    refine own_stepW st21 ?_
    show own_GoW p e below s _ _ _ (T21.setTop (mkF m 142 #[.val (.ref a1), .val (.ref a2), .val (.ref a3), .val (.ref a4), .val (.long q5), .second, .val (.ref a6), .val (.ref tC)] [(.ref b20), (.ref a1)]))
    obtain ⟨T22, h22, X22, e22, W22, st22⟩ := putF X21 hx hZ hown (host := "") (Or.inl (hw _ (List.mem_of_getElem? (i := 105) rfl))) Via.refl e21 ((((F_2.keep K17 nin0).other W18 (Or.inr (slot_ne (Or.inr (hw _ (List.mem_of_getElem? (i := 106) rfl))) (Or.inr (hw _ (List.mem_of_getElem? (i := 93) rfl))) (by decide) (t := (.array .byte)) (t' := (.object "com/example/nests/nests/model/Mutation$Kind")) (by decide) (by decide)))).other W19 (Or.inr (slot_ne (Or.inr (hw _ (List.mem_of_getElem? (i := 106) rfl))) (Or.inr (hw _ (List.mem_of_getElem? (i := 95) rfl))) (by decide) (t := (.array .byte)) (t' := (.object "java/lang/String")) (by decide) (by decide)))).ext E20) ((((E_a1.keep K17).wr W18).wr W19).ext E20) (Or.inr ⟨(hw _ (List.mem_of_getElem? (i := 106) rfl)), rfl, hnm⟩) (hw _ (List.mem_of_getElem? (i := 13) rfl)) (ty := (.array .byte)) (by decide) rfl rfl (g := (mkF m 142 #[.val (.ref a1), .val (.ref a2), .val (.ref a3), .val (.ref a4), .val (.long q5), .second, .val (.ref a6), .val (.ref tC)] [(.ref b20), (.ref a1)])) rfl rfl (hb hby d1_142)
    have Fw22 := ((((F_2.keep K17 nin0).other W18 (Or.inr (slot_ne (Or.inr (hw _ (List.mem_of_getElem? (i := 106) rfl))) (Or.inr (hw _ (List.mem_of_getElem? (i := 93) rfl))) (by decide) (t := (.array .byte)) (t' := (.object "com/example/nests/nests/model/Mutation$Kind")) (by decide) (by decide)))).other W19 (Or.inr (slot_ne (Or.inr (hw _ (List.mem_of_getElem? (i := 106) rfl))) (Or.inr (hw _ (List.mem_of_getElem? (i := 95) rfl))) (by decide) (t := (.array .byte)) (t' := (.object "java/lang/String")) (by decide) (by decide)))).ext E20).same W22
    have K22 : Keep h0 h22 [a1] := K20.wr W22 (Or.inl (by simp))
    have N22 := Fr.snoc X22 N19 g_a1
    refine own_stepW st22 ?_
    show own_GoW p e below s _ _ _ (T22.setTop (mkF m 145 #[.val (.ref a1), .val (.ref a2), .val (.ref a3), .val (.ref a4), .val (.long q5), .second, .val (.ref a6), .val (.ref tC)] []))
    refine own_stepW (B := T22.setTop (mkF m 148 #[.val (.ref a1), .val (.ref a2), .val (.ref a3), .val (.ref a4), .val (.long q5), .second, .val (.ref a6), .val (.ref tC)] [(.long q5), (.ref a1)])) (fun t k => ?_) ?_
    · show Steps p.tables e below (T22.setTop (mkF m 145 #[.val (.ref a1), .val (.ref a2), .val (.ref a3), .val (.ref a4), .val (.long q5), .second, .val (.ref a6), .val (.ref tC)] [])) _
      refine XS.aloadN X22.here hx rfl (hb hby d1_145) rfl rfl ?_
      refine XS.lload X22.here hx rfl (hb hby d1_146) rfl ?_
      exact k
    obtain ⟨T23, h23, X23, e23, W23, st23⟩ := putF X22 hx hZ hown (host := "") (Or.inl (hw _ (List.mem_of_getElem? (i := 107) rfl))) Via.refl e22 (((((F_3.keep K17 nin0).other W18 (Or.inr (slot_ne (Or.inr (hw _ (List.mem_of_getElem? (i := 108) rfl))) (Or.inr (hw _ (List.mem_of_getElem? (i := 93) rfl))) (by decide) (t := .long) (t' := (.object "com/example/nests/nests/model/Mutation$Kind")) (by decide) (by decide)))).other W19 (Or.inr (slot_ne (Or.inr (hw _ (List.mem_of_getElem? (i := 108) rfl))) (Or.inr (hw _ (List.mem_of_getElem? (i := 95) rfl))) (by decide) (t := .long) (t' := (.object "java/lang/String")) (by decide) (by decide)))).ext E20).other W22 (Or.inr (slot_ne (Or.inr (hw _ (List.mem_of_getElem? (i := 108) rfl))) (Or.inr (hw _ (List.mem_of_getElem? (i := 106) rfl))) (by decide) (t := .long) (t' := (.array .byte)) (by decide) (by decide)))) (((((E_a1.keep K17).wr W18).wr W19).ext E20).wr W22) (Or.inr ⟨(hw _ (List.mem_of_getElem? (i := 108) rfl)), rfl, hnm⟩) (hw _ (List.mem_of_getElem? (i := 13) rfl)) (ty := .long) (by decide) rfl rfl (g := (mkF m 148 #[.val (.ref a1), .val (.ref a2), .val (.ref a3), .val (.ref a4), .val (.long q5), .second, .val (.ref a6), .val (.ref tC)] [(.long q5), (.ref a1)])) rfl rfl (hb hby d1_148)
    have Fw23 := (((((F_3.keep K17 nin0).other W18 (Or.inr (slot_ne (Or.inr (hw _ (List.mem_of_getElem? (i := 108) rfl))) (Or.inr (hw _ (List.mem_of_getElem? (i := 93) rfl))) (by decide) (t := .long) (t' := (.object "com/example/nests/nests/model/Mutation$Kind")) (by decide) (by decide)))).other W19 (Or.inr (slot_ne (Or.inr (hw _ (List.mem_of_getElem? (i := 108) rfl))) (Or.inr (hw _ (List.mem_of_getElem? (i := 95) rfl))) (by decide) (t := .long) (t' := (.object "java/lang/String")) (by decide) (by decide)))).ext E20).other W22 (Or.inr (slot_ne (Or.inr (hw _ (List.mem_of_getElem? (i := 108) rfl))) (Or.inr (hw _ (List.mem_of_getElem? (i := 106) rfl))) (by decide) (t := .long) (t' := (.array .byte)) (by decide) (by decide)))).same W23
    have K23 : Keep h0 h23 [a1] := K22.wr W23 (Or.inl (by simp))
    have N23 := Fr.snoc X23 N22 g_a1
    refine own_stepW st23 ?_
    show own_GoW p e below s _ _ _ (T23.setTop (mkF m 151 #[.val (.ref a1), .val (.ref a2), .val (.ref a3), .val (.ref a4), .val (.long q5), .second, .val (.ref a6), .val (.ref tC)] []))
    refine own_stepW (B := T23.setTop (mkF m 163 #[.val (.ref a1), .val (.ref a2), .val (.ref a3), .val (.ref a4), .val (.long q5), .second, .val (.ref a6), .val (.ref tC)] [(.ref a6), (.ref a1)])) (fun t k => ?_) ?_
    · show Steps p.tables e below (T23.setTop (mkF m 151 #[.val (.ref a1), .val (.ref a2), .val (.ref a3), .val (.ref a4), .val (.long q5), .second, .val (.ref a6), .val (.ref tC)] [])) _
      refine XS.aloadN X23.here hx rfl (hb hby d1_151) rfl rfl ?_
      refine XS.aload X23.here hx rfl (hb hby d1_152) rfl rfl ?_
      refine XS.ifnonnullYes X23.here hx rfl (pc0 := 154) (pc' := 161) rfl (hb hby d1_154) rfl (by decide) (by decide) ?_
      refine XS.aload X23.here hx rfl (hb hby d1_161) rfl rfl ?_
      exact k
    obtain ⟨T24, h24, X24, e24, E24, A24, AE24, st24⟩ := cloneH X23 hx hZ hown (hw _ (List.mem_of_getElem? (i := 96) rfl)) (hw _ (List.mem_of_getElem? (i := 97) rfl)) (hw _ (List.mem_of_getElem? (i := 101) rfl)) (hw _ (List.mem_of_getElem? (i := 99) rfl)) (hw _ (List.mem_of_getElem? (i := 100) rfl)) (hw _ (List.mem_of_getElem? (i := 102) rfl)) e23 (Arv.arh ((((((V_v.keep K17 nin0).other W18 (Ne.symm (ne_exa E_a1 E_v (by decide)))).other W19 (Ne.symm (ne_exa E_a1 E_v (by decide)))).ext E20).other W22 (Ne.symm (ne_exa E_a1 E_v (by decide)))).other W23 (Ne.symm (ne_exa E_a1 E_v (by decide))))) ((((((E_v.keep K17).wr W18).wr W19).ext E20).wr W22).wr W23) (g := (mkF m 163 #[.val (.ref a1), .val (.ref a2), .val (.ref a3), .val (.ref a4), .val (.long q5), .second, .val (.ref a6), .val (.ref tC)] [(.ref a6), (.ref a1)])) rfl (by rw [hml]; rfl) rfl (hb hby d1_163) (by decide) (W := 1) (cap := 3) (by show 2 * 0 + _ ≤ _; exact Nat.le_of_eq rfl) (by decide) hzv (by decide) (by decide)
    obtain ⟨b24, g24⟩ : ∃ z, z = h23.size := ⟨_, rfl⟩
    rw [← g24] at A24 AE24 st24
    have g_b24 : n0 ≤ b24 := Nat.le_trans (Nat.le_trans (Nat.le_trans (Nat.le_trans (Nat.le_trans (Nat.le_trans (Nat.le_trans Z0 K17.1) (Keep.of_wr W18).1) (Keep.of_wr W19).1) E20.1) (Keep.of_wr W22).1) (Keep.of_wr W23).1) (Nat.le_of_eq g24.symm)
    have ne_a1_b24 : a1 ≠ b24 := Nat.ne_of_lt (Nat.lt_of_lt_of_le ((((((E_a1.keep K17).wr W18).wr W19).ext E20).wr W22).wr W23).lt (Nat.le_of_eq g24.symm))
    have ne_a2_b24 : a2 ≠ b24 := Nat.ne_of_lt (Nat.lt_of_lt_of_le ((((((E_k.keep K17).wr W18).wr W19).ext E20).wr W22).wr W23).lt (Nat.le_of_eq g24.symm))
    have ne_a4_b24 : a4 ≠ b24 := Nat.ne_of_lt (Nat.lt_of_lt_of_le ((((((V_q.keep K17 nin0).other W18 (Ne.symm (ne_exa E_a1 E_q (by decide)))).other W19 (Ne.symm (ne_exa E_a1 E_q (by decide)))).ext E20).other W22 (Ne.symm (ne_exa E_a1 E_q (by decide)))).other W23 (Ne.symm (ne_exa E_a1 E_q (by decide)))).lt (Nat.le_of_eq g24.symm))
    have ne_a6_b24 : a6 ≠ b24 := Nat.ne_of_lt (Nat.lt_of_lt_of_le ((((((V_v.keep K17 nin0).other W18 (Ne.symm (ne_exa E_a1 E_v (by decide)))).other W19 (Ne.symm (ne_exa E_a1 E_v (by decide)))).ext E20).other W22 (Ne.symm (ne_exa E_a1 E_v (by decide)))).other W23 (Ne.symm (ne_exa E_a1 E_v (by decide)))).lt (Nat.le_of_eq g24.symm))
    have ne_b20_b24 : b20 ≠ b24 := Nat.ne_of_lt (Nat.lt_of_lt_of_le ((A20.other W22 (Ne.symm ne_a1_b20)).other W23 (Ne.symm ne_a1_b20)).lt (Nat.le_of_eq g24.symm))
    have sz_b24 : h0.size ≤ b24 := Nat.le_trans K23.1 (Nat.le_of_eq g24.symm)
    have K24 : Keep h0 h24 [a1] := K23.ext E24
    refine own_stepW st24 ?_
    show own_GoW p e below s _ _ _ (T24.setTop (mkF m 166 #[.val (.ref a1), .val (.ref a2), .val (.ref a3), .val (.ref a4), .val (.long q5), .second, .val (.ref a6), .val (.ref tC)] [(.ref b24), (.ref a1)]))
    obtain ⟨T25, X25, e25, st25⟩ := castY X24 hx hZ hown (hw _ (List.mem_of_getElem? (i := 103) rfl)) e24 (Ins.self AE24) (g := (mkF m 166 #[.val (.ref a1), .val (.ref a2), .val (.ref a3), .val (.ref a4), .val (.long q5), .second, .val (.ref a6), .val (.ref tC)] [(.ref b24), (.ref a1)])) rfl rfl (hb hby d1_166)
    refine own_stepW st25 ?_
    show own_GoW p e below s _ _ _ (T25.setTop (mkF m 169 #[.val (.ref a1), .val (.ref a2), .val (.ref a3), .val (.ref a4), .val (.long q5), .second, .val (.ref a6), .val (.ref tC)] [(.ref b24), (.ref a1)]))
    obtain ⟨T26, h26, X26, e26, W26, st26⟩ := putF X25 hx hZ hown (host := "") (Or.inl (hw _ (List.mem_of_getElem? (i := 109) rfl))) Via.refl e25 (((((((F_4.keep K17 nin0).other W18 (Or.inr (slot_ne (Or.inr (hw _ (List.mem_of_getElem? (i := 110) rfl))) (Or.inr (hw _ (List.mem_of_getElem? (i := 93) rfl))) (by decide) (t := (.array .byte)) (t' := (.object "com/example/nests/nests/model/Mutation$Kind")) (by decide) (by decide)))).other W19 (Or.inr (slot_ne (Or.inr (hw _ (List.mem_of_getElem? (i := 110) rfl))) (Or.inr (hw _ (List.mem_of_getElem? (i := 95) rfl))) (by decide) (t := (.array .byte)) (t' := (.object "java/lang/String")) (by decide) (by decide)))).ext E20).other W22 (Or.inr (slot_ne (Or.inr (hw _ (List.mem_of_getElem? (i := 110) rfl))) (Or.inr (hw _ (List.mem_of_getElem? (i := 106) rfl))) (by decide) (t := (.array .byte)) (t' := (.array .byte)) (by decide) (by decide)))).other W23 (Or.inr (slot_ne (Or.inr (hw _ (List.mem_of_getElem? (i := 110) rfl))) (Or.inr (hw _ (List.mem_of_getElem? (i := 108) rfl))) (by decide) (t := (.array .byte)) (t' := .long) (by decide) (by decide)))).ext E24) (((((((E_a1.keep K17).wr W18).wr W19).ext E20).wr W22).wr W23).ext E24) (Or.inr ⟨(hw _ (List.mem_of_getElem? (i := 110) rfl)), rfl, hnm⟩) (hw _ (List.mem_of_getElem? (i := 13) rfl)) (ty := (.array .byte)) (by decide) rfl rfl (g := (mkF m 169 #[.val (.ref a1), .val (.ref a2), .val (.ref a3), .val (.ref a4), .val (.long q5), .second, .val (.ref a6), .val (.ref tC)] [(.ref b24), (.ref a1)])) rfl rfl (hb hby d1_169)
    have Fw26 := (((((((F_4.keep K17 nin0).other W18 (Or.inr (slot_ne (Or.inr (hw _ (List.mem_of_getElem? (i := 110) rfl))) (Or.inr (hw _ (List.mem_of_getElem? (i := 93) rfl))) (by decide) (t := (.array .byte)) (t' := (.object "com/example/nests/nests/model/Mutation$Kind")) (by decide) (by decide)))).other W19 (Or.inr (slot_ne (Or.inr (hw _ (List.mem_of_getElem? (i := 110) rfl))) (Or.inr (hw _ (List.mem_of_getElem? (i := 95) rfl))) (by decide) (t := (.array .byte)) (t' := (.object "java/lang/String")) (by decide) (by decide)))).ext E20).other W22 (Or.inr (slot_ne (Or.inr (hw _ (List.mem_of_getElem? (i := 110) rfl))) (Or.inr (hw _ (List.mem_of_getElem? (i := 106) rfl))) (by decide) (t := (.array .byte)) (t' := (.array .byte)) (by decide) (by decide)))).other W23 (Or.inr (slot_ne (Or.inr (hw _ (List.mem_of_getElem? (i := 110) rfl))) (Or.inr (hw _ (List.mem_of_getElem? (i := 108) rfl))) (by decide) (t := (.array .byte)) (t' := .long) (by decide) (by decide)))).ext E24).same W26
    have K26 : Keep h0 h26 [a1] := K24.wr W26 (Or.inl (by simp))
    have N26 := Fr.snoc X26 N23 g_a1
    refine own_stepW st26 ?_
    show own_GoW p e below s _ _ _ (T26.setTop (mkF m 172 #[.val (.ref a1), .val (.ref a2), .val (.ref a3), .val (.ref a4), .val (.long q5), .second, .val (.ref a6), .val (.ref tC)] []))
    exact own_retVW X26 hS17 (by rw [e26]; exact (Nat.le_trans (Nat.le_trans (Nat.le_trans (Nat.le_trans (Nat.le_trans (Nat.le_trans (Nat.le_trans (Nat.le_refl T17.heap.size) (Keep.of_wr W18).1) (Keep.of_wr W19).1) E20.1) (Keep.of_wr W22).1) (Keep.of_wr W23).1) E24.1) (Keep.of_wr W26).1)) hx Bd.notSynchronized Bd.returns (hb hby d1_172) ⟨rfl, N26, by rw [e26]; exact K26, by rw [e26]; exact ((((((((E_a1.keep K17).wr W18).wr W19).ext E20).wr W22).wr W23).ext E24).wr W26), ⟨b20, by rw [e26]; exact (((Fw22.other W23 (Or.inr (slot_ne (Or.inr (hw _ (List.mem_of_getElem? (i := 106) rfl))) (Or.inr (hw _ (List.mem_of_getElem? (i := 108) rfl))) (by decide) (t := (.array .byte)) (t' := .long) (by decide) (by decide)))).ext E24).other W26 (Or.inr (slot_ne (Or.inr (hw _ (List.mem_of_getElem? (i := 106) rfl))) (Or.inr (hw _ (List.mem_of_getElem? (i := 110) rfl))) (by decide) (t := (.array .byte)) (t' := (.array .byte)) (by decide) (by decide)))), by rw [e26]; exact ((((AE20.wr W22).wr W23).ext E24).wr W26), by rw [e26]; exact ((((A20.other W22 (Ne.symm ne_a1_b20)).other W23 (Ne.symm ne_a1_b20)).ext E24).other W26 (Ne.symm ne_a1_b20)), sz_b20⟩, ⟨b24, by rw [e26]; exact Fw26, by rw [e26]; exact (AE24.wr W26), by rw [e26]; exact (A24.other W26 (Ne.symm ne_a1_b24)), sz_b24⟩⟩ (by decide) (by decide)
theorem ef_1cn (m : MethodId) (a1 : Addr) (a2 : Addr) (a3 : Addr) (a4 : Addr) (q5 : Int64) : entryFrame m #[(.ref a1), (.ref a2), (.ref a3), (.ref a4), (.long q5), .null] 8 = mkF m 0 #[.val (.ref a1), .val (.ref a2), .val (.ref a3), .val (.ref a4), .val (.long q5), .second, .val .null, .unset] [] := by first | (simp [entryFrame, mkF, argsToLocals, Value.category]; done) | rfl
def Q1cn (Z : State) (a1 : Addr) (a2 : Addr) (a3 : Addr) (a4 : Addr) (q5 : Int64) (u0 : Value) (u1 : Value) (u2 : Value) (u3 : Value) (u4 : Value) (tC : Addr) (tF : Addr) (tR : Addr) (ts : Int32) (cs : Int32) (vf : Value) (b : Addr) (k : ClassId) (kq : ClassId) (zq : Int32) (vq : List Value) (h0 : Heap) (n0 : Nat) (v : Option Value) (h : Heap) (L : List Loc) : Prop := v = none ∧ Fr n0 L ∧ Keep h0 h [a1] ∧ Exa Z h a1 "com/example/nests/nests/model/Mutation" ∧ (∃ r, Fld Z h a1 "com/example/nests/nests/model/Mutation" "qualifier" "[B" (.ref r) ∧ Exa Z h r "[B" ∧ Arv Z h r kq .byte zq vq (.int (0 : Int32)) ∧ h0.size ≤ r) ∧ Fld Z h a1 "com/example/nests/nests/model/Mutation" "value" "[B" .null
set_option maxRecDepth 65536 in
set_option maxHeartbeats 40000000 in
theorem rm1cn (l : Launch) (Z : State) (a0 : Array Value) (hw : ∀ d ∈ tables_1, d.before a0 Z = true) (ws : List Jvm.Cond) (a1 : Addr) (a2 : Addr) (a3 : Addr) (a4 : Addr) (q5 : Int64) (u0 : Value) (u1 : Value) (u2 : Value) (u3 : Value) (u4 : Value) (tC : Addr) (tF : Addr) (tR : Addr) (ts : Int32) (cs : Int32) (vf : Value) (b : Addr) (k : ClassId) (kq : ClassId) (zq : Int32) (vq : List Value) (h0 : Heap) (n0 : Nat) (Z0 : n0 ≤ h0.size) (E_a1 : Exa Z h0 a1 "com/example/nests/nests/model/Mutation") (F_0 : Fld Z h0 a1 "com/example/nests/nests/model/Mutation" "kind" "Lcom/example/nests/nests/model/Mutation$Kind;" u0) (F_1 : Fld Z h0 a1 "com/example/nests/nests/model/Mutation" "family" "Ljava/lang/String;" u1) (F_2 : Fld Z h0 a1 "com/example/nests/nests/model/Mutation" "qualifier" "[B" u2) (F_3 : Fld Z h0 a1 "com/example/nests/nests/model/Mutation" "timestamp" "J" u3) (F_4 : Fld Z h0 a1 "com/example/nests/nests/model/Mutation" "value" "[B" u4) (g_a1 : n0 ≤ a1) (E_k : Exa Z h0 a2 "com/example/nests/nests/model/Mutation$Kind") (Fk_t : Fld Z h0 a2 "com/example/nests/nests/model/Mutation$Kind" "target" "Lcom/example/nests/nests/model/Mutation$Target;" (.ref tC)) (Fk_v : Fld Z h0 a2 "com/example/nests/nests/model/Mutation$Kind" "takesValue" "Z" (.int (0 : Int32))) (Fk_s : Fld Z h0 a2 "com/example/nests/nests/model/Mutation$Kind" "takesTimestamp" "Z" (.int ts)) (S_R : Sta Z h0 "com/example/nests/nests/model/Mutation$Target" "ROW" "Lcom/example/nests/nests/model/Mutation$Target;" (.ref tR)) (S_L : Sta Z h0 "com/example/nests/nests/model/Mutation$Target" "COLUMN" "Lcom/example/nests/nests/model/Mutation$Target;" (.ref tC)) (nCR : ¬ (tC = tR)) (nFR : ¬ (tF = tR)) (nFC : ¬ (tF = tC)) (hts : q5 = (0 : Int64) ∨ ts = (1 : Int32)) (htn : nar .boolean ts = ts) (P_0 : Exa Z h0 a3 "java/lang/String") (P_1 : Fld Z h0 a3 "java/lang/String" "coder" "B" (.int (0 : Int32))) (P_2 : Fld Z h0 a3 "java/lang/String" "value" "[B" (.ref b)) (V_b : Arv Z h0 b k .byte (1 : Int32) [(.int (102 : Int32))] (.int 0)) (S_C : Sta Z h0 "java/lang/String" "COMPACT_STRINGS" "Z" (.int cs)) (hcs : ¬ (cs = (0 : Int32))) (S_F : Sta Z h0 "jdk/internal/util/Preconditions" "SIOOBE_FORMATTER" "Ljava/util/function/BiFunction;" vf) (hvf : vf.isRef = true) (V_q : Arv Z h0 a4 kq .byte zq vq (.int (0 : Int32))) (E_q : Exa Z h0 a4 "[B") (hzq : zq.toNatClampNeg ≤ 3) :
    MetFree l (⟨"com/example/nests/nests/model/Mutation", "<init>", "(Lcom/example/nests/nests/model/Mutation$Kind;Ljava/lang/String;[BJ[B)V"⟩ : MethodName) (head1 (Jvm.Cond.code (⟨"com/example/nests/nests/model/Mutation", "<init>", "(Lcom/example/nests/nests/model/Mutation$Kind;Ljava/lang/String;[BJ[B)V"⟩ : MethodName) prog_72_method_1_code 8 none :: ws) ({ frames := 6, cells := 3, slots := 31, locals := 80 } : Room)) (fun a U => a = #[(.ref a1), (.ref a2), (.ref a3), (.ref a4), (.long q5), .null] ∧ Z.Warmed39 U.vm ∧ U.heap = h0) (fun _ _ _ _ _ => True) (fun _ U o U' => ∃ v L, o = .returned v ∧ Q1cn Z a1 a2 a3 a4 q5 u0 u1 u2 u3 u4 tC tF tR ts cs vf b k kq zq vq h0 n0 v U'.heap L ∧ ReturnedEndW U o U' L ({ frames := 6, cells := 3, slots := 31, locals := 80 } : Room).cells ({ frames := 6, cells := 3, slots := 31, locals := 80 } : Room).slots) := by
  refine MetFree.of_bodySF (plainFor_of_name pn_19) hisR ?_
  intro p e s m args below meth c s₁ Bd hml0 hP hK
  obtain ⟨rfl, hZ, hh⟩ := hP
  have hx := Bd.exec
  have hby := Bd.bytes
  have hml : c.maxLocals = 8 := hml0
  have hown : s.vm.findClass "com/example/nests/nests/model/Mutation" = some m.cls := findClass_of_methodNamed Bd.named
  have hnm := (name_of_methodNamed Bd.named Bd.method).1
  have X0 : Stand p l e ({ frames := 6, cells := 3, slots := 31, locals := 80 } : Room) (s.setVm s.vm) m #[(.ref a1), (.ref a2), (.ref a3), (.ref a4), (.long q5), .null] below meth c s₁ [] 0 0 := Stand.of_body Bd
  have e0 : s₁.heap = h0 := by rw [← hh, Bd.state]; rfl
  have N0 := Fr.nil n0
  have hS0 : s.Since s.vm s.heap.size := (State.WarmedH.refl s).since _
  have hk0 : s.heap.size ≤ h0.size := by rw [hh]; exact Nat.le_refl _
  show own_GoW p e below s (Q1cn Z a1 a2 a3 a4 q5 u0 u1 u2 u3 u4 tC tF tR ts cs vf b k kq zq vq h0 n0) ({ frames := 6, cells := 3, slots := 31, locals := 80 } : Room).cells ({ frames := 6, cells := 3, slots := 31, locals := 80 } : Room).slots _
  refine own_stepW (B := s₁.setTop (mkF m 0 #[.val (.ref a1), .val (.ref a2), .val (.ref a3), .val (.ref a4), .val (.long q5), .second, .val .null, .unset] [])) (fun t k => castTop (ef_1cn m a1 a2 a3 a4 q5) k) ?_
  have KK0 : Keep h0 h0 [a1] := Keep.refl h0 _
  refine own_stepW (B := s₁.setTop (mkF m 1 #[.val (.ref a1), .val (.ref a2), .val (.ref a3), .val (.ref a4), .val (.long q5), .second, .val .null, .unset] [(.ref a1)])) (fun t k => ?_) ?_
  · show Steps p.tables e below (s₁.setTop (mkF m 0 #[.val (.ref a1), .val (.ref a2), .val (.ref a3), .val (.ref a4), .val (.long q5), .second, .val .null, .unset] [])) _
    refine XS.aloadN X0.here hx rfl (hb hby d1_0) rfl rfl ?_
    exact k
  obtain ⟨T1, X1, e1, st1⟩ := initO X0 hx hZ hown (hw _ (List.mem_of_getElem? (i := 18) rfl)) (hw _ (List.mem_of_getElem? (i := 19) rfl)) (hw _ (List.mem_of_getElem? (i := 20) rfl)) e0 (g := (mkF m 1 #[.val (.ref a1), .val (.ref a2), .val (.ref a3), .val (.ref a4), .val (.long q5), .second, .val .null, .unset] [(.ref a1)])) rfl (by rw [hml]; rfl) rfl (hb hby d1_1) (by decide) (W := 0) (by show 2 * 0 + _ ≤ _; exact Nat.le_of_eq rfl) (by decide)
  refine own_stepW st1 ?_
  show own_GoW p e below s _ _ _ (T1.setTop (mkF m 4 #[.val (.ref a1), .val (.ref a2), .val (.ref a3), .val (.ref a4), .val (.long q5), .second, .val .null, .unset] []))
  refine own_stepW (B := T1.setTop (mkF m 5 #[.val (.ref a1), .val (.ref a2), .val (.ref a3), .val (.ref a4), .val (.long q5), .second, .val .null, .unset] [(.ref a2)])) (fun t k => ?_) ?_
  · show Steps p.tables e below (T1.setTop (mkF m 4 #[.val (.ref a1), .val (.ref a2), .val (.ref a3), .val (.ref a4), .val (.long q5), .second, .val .null, .unset] [])) _
    refine XS.aloadN X1.here hx rfl (hb hby d1_4) rfl rfl ?_
    exact k
  obtain ⟨cq2, kq2, q2a, q2b, q2c⟩ := isOf hZ e1 E_k
  obtain ⟨_, _, ⟨T2, L2, k2, n2⟩, -, X2, ⟨Lc2, hQ2, l2, y2, z2⟩, st2⟩ := X1.virtualBack hx (y := (⟨"com/example/nests/nests/model/Mutation$Kind", "getTarget", "()Lcom/example/nests/nests/model/Mutation$Target;"⟩ : MethodName)) (z := (⟨"com/example/nests/nests/model/Mutation$Kind", "getTarget", "()Lcom/example/nests/nests/model/Mutation$Target;"⟩ : MethodName)) hown (mvT hZ (hw _ (List.mem_of_getElem? (i := 21) rfl))) (mvT hZ (hw _ (List.mem_of_getElem? (i := 22) rfl))) (notFace_of_selects (args := #[]) (mvT hZ (hw _ (List.mem_of_getElem? (i := 24) rfl)))) (mvT hZ (hw _ (List.mem_of_getElem? (i := 24) rfl))) (mvT hZ (hw _ (List.mem_of_getElem? (i := 23) rfl))) (by decide) (backOf (W := 0) (rm3 l Z a0 hw [] a2 tC h0 n0 Z0 Fk_t) hZ (hw _ (List.mem_of_getElem? (i := 25) rfl)) (hw _ (List.mem_of_getElem? (i := 2) rfl)) (by decide) (by decide)) q2a q2c (g := (mkF m 5 #[.val (.ref a1), .val (.ref a2), .val (.ref a3), .val (.ref a4), .val (.long q5), .second, .val .null, .unset] [(.ref a2)])) rfl (by rw [hml]; rfl) (Steps.refl _) (argsL := []) (rest := []) (lenOf pd_16 rfl) rfl (by show 2 * 0 + _ ≤ _; exact Nat.le_of_eq rfl) (hb hby d1_5) (fun _ _ => ⟨rfl, e1, (by decide : 0 + 0 ≤ _), (by decide : 0 + 0 ≤ _)⟩)
  dsimp only [Pt.U, Pt.locs, Pt.cells, Pt.slots] at X2 l2 y2 z2 st2 hQ2
  subst l2 y2 z2
  obtain ⟨rfl, N2q, e2⟩ := hQ2
  have N2 := Fr.app N0 N2q
  refine own_viaW st2 ?_
  show own_GoW p e below s _ _ _ (T2.setTop (mkF m 8 #[.val (.ref a1), .val (.ref a2), .val (.ref a3), .val (.ref a4), .val (.long q5), .second, .val .null, .unset] [(.ref tC)]))
  refine own_stepW (B := T2.setTop (mkF m 21 #[.val (.ref a1), .val (.ref a2), .val (.ref a3), .val (.ref a4), .val (.long q5), .second, .val .null, .val (.ref tC)] [(.ref tC), (.int (1 : Int32))])) (fun t k => ?_) ?_
  · show Steps p.tables e below (T2.setTop (mkF m 8 #[.val (.ref a1), .val (.ref a2), .val (.ref a3), .val (.ref a4), .val (.long q5), .second, .val .null, .unset] [(.ref tC)])) _
    refine XS.astore X2.here hx rfl (hb hby d1_8) rfl rfl (l' := #[.val (.ref a1), .val (.ref a2), .val (.ref a3), .val (.ref a4), .val (.long q5), .second, .val .null, .val (.ref tC)]) rfl ?_
    refine XS.aloadN X2.here hx rfl (hb hby d1_10) rfl rfl ?_
    refine XS.ifnullNo X2.here hx rfl (hb hby d1_11) rfl ?_
    refine XS.iconst X2.here hx rfl (hb hby d1_14) ?_
    refine XS.goto X2.here hx rfl (pc0 := 15) (pc' := 19) rfl (hb hby d1_15) (by decide) (by decide) ?_
    refine XS.aload X2.here hx rfl (hb hby d1_19) rfl rfl ?_
    exact k
  obtain ⟨T3, X3, e3, st3⟩ := getS2 X2 hx hZ hown (host := "") (Or.inl (hw _ (List.mem_of_getElem? (i := 30) rfl))) Via.refl e2 S_R (g := (mkF m 21 #[.val (.ref a1), .val (.ref a2), .val (.ref a3), .val (.ref a4), .val (.long q5), .second, .val .null, .val (.ref tC)] [(.ref tC), (.int (1 : Int32))])) rfl (hb hby d1_21)
  refine own_stepW st3 ?_
  show own_GoW p e below s _ _ _ (T3.setTop (mkF m 24 #[.val (.ref a1), .val (.ref a2), .val (.ref a3), .val (.ref a4), .val (.long q5), .second, .val .null, .val (.ref tC)] [(.ref tR), (.ref tC), (.int (1 : Int32))]))
  refine own_stepW (B := T3.setTop (mkF m 46 #[.val (.ref a1), .val (.ref a2), .val (.ref a3), .val (.ref a4), .val (.long q5), .second, .val .null, .val (.ref tC)] [(.ref tC), (.int (1 : Int32))])) (fun t k => ?_) ?_
  · show Steps p.tables e below (T3.setTop (mkF m 24 #[.val (.ref a1), .val (.ref a2), .val (.ref a3), .val (.ref a4), .val (.long q5), .second, .val .null, .val (.ref tC)] [(.ref tR), (.ref tC), (.int (1 : Int32))])) _
    refine Jvm.RoadKit.acmp (g := (mkF m 24 #[.val (.ref a1), .val (.ref a2), .val (.ref a3), .val (.ref a4), .val (.long q5), .second, .val .null, .val (.ref tC)] [(.ref tR), (.ref tC), (.int (1 : Int32))])) X3 hx rfl rfl rfl (pc0 := 24) (pc' := 27) (same := false) rfl (hb hby d1_24) rfl (decide_eq_false fun q => nCR (Value.ref.inj q)) (by decide) (by decide) ?_
    refine XS.iconst X3.here hx rfl (hb hby d1_27) ?_
    refine XS.goto X3.here hx rfl (pc0 := 28) (pc' := 32) rfl (hb hby d1_28) (by decide) (by decide) ?_
    refine XS.icmpNo X3.here hx rfl (hb hby d1_32) rfl (teq (by decide : ((1 : Int32) = (1 : Int32)))).2 ?_
    refine XS.aloadN X3.here hx rfl (hb hby d1_35) rfl rfl ?_
    refine XS.ifnullNo X3.here hx rfl (hb hby d1_36) rfl ?_
    refine XS.iconst X3.here hx rfl (hb hby d1_39) ?_
    refine XS.goto X3.here hx rfl (pc0 := 40) (pc' := 44) rfl (hb hby d1_40) (by decide) (by decide) ?_
    refine XS.aload X3.here hx rfl (hb hby d1_44) rfl rfl ?_
    exact k
  obtain ⟨T4, X4, e4, st4⟩ := getS2 X3 hx hZ hown (host := "") (Or.inl (hw _ (List.mem_of_getElem? (i := 32) rfl))) Via.refl e3 S_L (g := (mkF m 46 #[.val (.ref a1), .val (.ref a2), .val (.ref a3), .val (.ref a4), .val (.long q5), .second, .val .null, .val (.ref tC)] [(.ref tC), (.int (1 : Int32))])) rfl (hb hby d1_46)
  refine own_stepW st4 ?_
  show own_GoW p e below s _ _ _ (T4.setTop (mkF m 49 #[.val (.ref a1), .val (.ref a2), .val (.ref a3), .val (.ref a4), .val (.long q5), .second, .val .null, .val (.ref tC)] [(.ref tC), (.ref tC), (.int (1 : Int32))]))
  refine own_stepW (B := T4.setTop (mkF m 71 #[.val (.ref a1), .val (.ref a2), .val (.ref a3), .val (.ref a4), .val (.long q5), .second, .val .null, .val (.ref tC)] [(.ref a2), (.int (0 : Int32))])) (fun t k => ?_) ?_
  · show Steps p.tables e below (T4.setTop (mkF m 49 #[.val (.ref a1), .val (.ref a2), .val (.ref a3), .val (.ref a4), .val (.long q5), .second, .val .null, .val (.ref tC)] [(.ref tC), (.ref tC), (.int (1 : Int32))])) _
    refine Jvm.RoadKit.acmp (g := (mkF m 49 #[.val (.ref a1), .val (.ref a2), .val (.ref a3), .val (.ref a4), .val (.long q5), .second, .val .null, .val (.ref tC)] [(.ref tC), (.ref tC), (.int (1 : Int32))])) X4 hx rfl rfl rfl (pc0 := 49) (pc' := 52) (same := true) rfl (hb hby d1_49) rfl (decide_eq_true rfl) (by decide) (by decide) ?_
    refine XS.iconst X4.here hx rfl (hb hby d1_52) ?_
    refine XS.goto X4.here hx rfl (pc0 := 53) (pc' := 57) rfl (hb hby d1_53) (by decide) (by decide) ?_
    refine XS.icmpNo X4.here hx rfl (hb hby d1_57) rfl (teq (by decide : ((1 : Int32) = (1 : Int32)))).2 ?_
    refine XS.aload X4.here hx rfl (hb hby d1_60) rfl rfl ?_
    refine XS.ifnullYes X4.here hx rfl (pc0 := 62) (pc' := 69) rfl (hb hby d1_62) rfl (by decide) (by decide) ?_
    refine XS.iconst X4.here hx rfl (hb hby d1_69) ?_
    refine XS.aloadN X4.here hx rfl (hb hby d1_70) rfl rfl ?_
    exact k
  obtain ⟨cq5, kq5, q5a, q5b, q5c⟩ := isOf hZ e4 E_k
  obtain ⟨_, _, ⟨T5, L5, k5, n5⟩, -, X5, ⟨Lc5, hQ5, l5, y5, z5⟩, st5⟩ := X4.virtualBack hx (y := (⟨"com/example/nests/nests/model/Mutation$Kind", "takesValue", "()Z"⟩ : MethodName)) (z := (⟨"com/example/nests/nests/model/Mutation$Kind", "takesValue", "()Z"⟩ : MethodName)) hown (mvT hZ (hw _ (List.mem_of_getElem? (i := 33) rfl))) (mvT hZ (hw _ (List.mem_of_getElem? (i := 34) rfl))) (notFace_of_selects (args := #[]) (mvT hZ (hw _ (List.mem_of_getElem? (i := 36) rfl)))) (mvT hZ (hw _ (List.mem_of_getElem? (i := 36) rfl))) (mvT hZ (hw _ (List.mem_of_getElem? (i := 35) rfl))) (by decide) (backOf (W := 1) (rm4 l Z a0 hw [] a2 (0 : Int32) h0 n0 Z0 Fk_v rfl) hZ (hw _ (List.mem_of_getElem? (i := 37) rfl)) (hw _ (List.mem_of_getElem? (i := 2) rfl)) (by decide) (by decide)) q5a q5c (g := (mkF m 71 #[.val (.ref a1), .val (.ref a2), .val (.ref a3), .val (.ref a4), .val (.long q5), .second, .val .null, .val (.ref tC)] [(.ref a2), (.int (0 : Int32))])) rfl (by rw [hml]; rfl) (Steps.refl _) (argsL := []) (rest := [(.int (0 : Int32))]) (lenOf pd_6 rfl) rfl (by show 2 * 0 + _ ≤ _; exact Nat.le_of_eq rfl) (hb hby d1_71) (fun _ _ => ⟨rfl, e4, (by decide : 0 + 0 ≤ _), (by decide : 0 + 0 ≤ _)⟩)
  dsimp only [Pt.U, Pt.locs, Pt.cells, Pt.slots] at X5 l5 y5 z5 st5 hQ5
  subst l5 y5 z5
  obtain ⟨rfl, N5q, e5⟩ := hQ5
  have N5 := Fr.app N2 N5q
  refine own_viaW st5 ?_
  show own_GoW p e below s _ _ _ (T5.setTop (mkF m 74 #[.val (.ref a1), .val (.ref a2), .val (.ref a3), .val (.ref a4), .val (.long q5), .second, .val .null, .val (.ref tC)] [(.int (0 : Int32)), (.int (0 : Int32))]))
  refine own_stepW (B := T5.setTop (mkF m 81 #[.val (.ref a1), .val (.ref a2), .val (.ref a3), .val (.ref a4), .val (.long q5), .second, .val .null, .val (.ref tC)] [(.int (lcmpW q5 (0 : Int64)))])) (fun t k => ?_) ?_
  · show Steps p.tables e below (T5.setTop (mkF m 74 #[.val (.ref a1), .val (.ref a2), .val (.ref a3), .val (.ref a4), .val (.long q5), .second, .val .null, .val (.ref tC)] [(.int (0 : Int32)), (.int (0 : Int32))])) _
    refine XS.icmpNo X5.here hx rfl (hb hby d1_74) rfl (teq (by decide : ((0 : Int32) = (0 : Int32)))).2 ?_
    refine XS.lload X5.here hx rfl (hb hby d1_77) rfl ?_
    refine XS.lconst X5.here hx rfl (hb hby d1_79) ?_
    refine XS.lcmp X5.here hx rfl (hb hby d1_80) rfl ?_
    exact k
  by_cases hq : q5 = (0 : Int64)
  · refine own_stepW (B := T5.setTop (mkF m 113 #[.val (.ref a1), .val (.ref a2), .val (.ref a3), .val (.ref a4), .val (.long q5), .second, .val .null, .val (.ref tC)] [(.ref a3)])) (fun t k => ?_) ?_
    · show Steps p.tables e below (T5.setTop (mkF m 81 #[.val (.ref a1), .val (.ref a2), .val (.ref a3), .val (.ref a4), .val (.long q5), .second, .val .null, .val (.ref tC)] [(.int (lcmpW q5 (0 : Int64)))])) _
      refine XS.ifYes X5.here hx rfl (pc0 := 81) (pc' := 108) rfl (hb hby d1_81) rfl ((if0 _ _).trans (teq ((lw_eq _ _).mpr hq)).1) (by decide) (by decide) ?_
      refine XS.aloadN X5.here hx rfl (hb hby d1_108) rfl rfl ?_
      refine XS.ifnullNo X5.here hx rfl (hb hby d1_109) rfl ?_
      refine XS.aloadN X5.here hx rfl (hb hby d1_112) rfl rfl ?_
      exact k
    obtain ⟨_, _, ⟨T6, L6, k6, n6⟩, -, X6, hSx6, gx6, ⟨Lc6, hQ6, l6, y6, z6⟩, st6⟩ := callSS X5 hx (y := (⟨"com/example/nests/nests/model/Cell", "checkFamily", "(Ljava/lang/String;)V"⟩ : MethodName)) hown (mvT hZ (hw _ (List.mem_of_getElem? (i := 40) rfl))) (mvT hZ (hw _ (List.mem_of_getElem? (i := 41) rfl))) (mvT hZ (hw _ (List.mem_of_getElem? (i := 42) rfl))) (mvT hZ (hw _ (List.mem_of_getElem? (i := 43) rfl))) (by decide) (backOfS (W := 0) (rm5 l Z a0 hw [] a3 cs vf b k h0 n0 Z0 P_0 P_1 P_2 V_b S_C hcs S_F hvf) hZ (hw _ (List.mem_of_getElem? (i := 43) rfl)) (hw _ (List.mem_of_getElem? (i := 42) rfl)) (by decide) (by decide)) (g := (mkF m 113 #[.val (.ref a1), .val (.ref a2), .val (.ref a3), .val (.ref a4), .val (.long q5), .second, .val .null, .val (.ref tC)] [(.ref a3)])) rfl (by rw [hml]; rfl) (argsL := [(.ref a3)]) (rest := []) (lenOf pd_17 rfl) rfl (by show 2 * 0 + _ ≤ _; exact Nat.le_of_eq rfl) (hb hby d1_113) (fun _ _ => ⟨rfl, e5, (by decide : 0 + 2 ≤ _), (by decide : 0 + 28 ≤ _)⟩)
    dsimp only [Pt.U, Pt.locs, Pt.cells, Pt.slots] at X6 l6 y6 z6 st6 hQ6 hSx6 gx6
    subst l6 y6 z6
    obtain ⟨rfl, N6q, K6⟩ := hQ6
    have N6 := Fr.app N5 N6q
    refine own_viaW st6 ?_
    obtain ⟨X6, hS6, hZ, hown⟩ := rebS hS0 (by rw [e5]; exact hk0) X6 hSx6 gx6 hZ hown
    show own_GoW p e below s _ _ _ (T6.setTop (mkF m 116 #[.val (.ref a1), .val (.ref a2), .val (.ref a3), .val (.ref a4), .val (.long q5), .second, .val .null, .val (.ref tC)] []))
    have KK6 : Keep h0 T6.heap [a1] := KK0.trans K6 all0
    refine own_stepW (B := T6.setTop (mkF m 118 #[.val (.ref a1), .val (.ref a2), .val (.ref a3), .val (.ref a4), .val (.long q5), .second, .val .null, .val (.ref tC)] [(.ref a2), (.ref a1)])) (fun t k => ?_) ?_
    · show Steps p.tables e below (T6.setTop (mkF m 116 #[.val (.ref a1), .val (.ref a2), .val (.ref a3), .val (.ref a4), .val (.long q5), .second, .val .null, .val (.ref tC)] [])) _
      refine XS.aloadN X6.here hx rfl (hb hby d1_116) rfl rfl ?_
      refine XS.aloadN X6.here hx rfl (hb hby d1_117) rfl rfl ?_
      exact k
    obtain ⟨T7, h7, X7, e7, W7, st7⟩ := putF X6 hx hZ hown (host := "") (Or.inl (hw _ (List.mem_of_getElem? (i := 92) rfl))) Via.refl rfl (F_0.keep K6 nin0) (E_a1.keep K6) (Or.inr ⟨(hw _ (List.mem_of_getElem? (i := 93) rfl)), rfl, hnm⟩) (hw _ (List.mem_of_getElem? (i := 13) rfl)) (ty := (.object "com/example/nests/nests/model/Mutation$Kind")) (by decide) rfl rfl (g := (mkF m 118 #[.val (.ref a1), .val (.ref a2), .val (.ref a3), .val (.ref a4), .val (.long q5), .second, .val .null, .val (.ref tC)] [(.ref a2), (.ref a1)])) rfl rfl (hb hby d1_118)
    have Fw7 := (F_0.keep K6 nin0).same W7
    have K7 : Keep h0 h7 [a1] := KK6.wr W7 (Or.inl (by simp))
    have N7 := Fr.snoc X7 N6 g_a1
    refine own_stepW st7 ?_
    show own_GoW p e below s _ _ _ (T7.setTop (mkF m 121 #[.val (.ref a1), .val (.ref a2), .val (.ref a3), .val (.ref a4), .val (.long q5), .second, .val .null, .val (.ref tC)] []))
    refine own_stepW (B := T7.setTop (mkF m 123 #[.val (.ref a1), .val (.ref a2), .val (.ref a3), .val (.ref a4), .val (.long q5), .second, .val .null, .val (.ref tC)] [(.ref a3), (.ref a1)])) (fun t k => ?_) ?_
    · show Steps p.tables e below (T7.setTop (mkF m 121 #[.val (.ref a1), .val (.ref a2), .val (.ref a3), .val (.ref a4), .val (.long q5), .second, .val .null, .val (.ref tC)] [])) _
      refine XS.aloadN X7.here hx rfl (hb hby d1_121) rfl rfl ?_
      refine XS.aloadN X7.here hx rfl (hb hby d1_122) rfl rfl ?_
      exact k
    obtain ⟨T8, h8, X8, e8, W8, st8⟩ := putF X7 hx hZ hown (host := "") (Or.inl (hw _ (List.mem_of_getElem? (i := 94) rfl))) Via.refl e7 ((F_1.keep K6 nin0).other W7 (Or.inr (slot_ne (Or.inr (hw _ (List.mem_of_getElem? (i := 95) rfl))) (Or.inr (hw _ (List.mem_of_getElem? (i := 93) rfl))) (by decide) (t := (.object "java/lang/String")) (t' := (.object "com/example/nests/nests/model/Mutation$Kind")) (by decide) (by decide)))) ((E_a1.keep K6).wr W7) (Or.inr ⟨(hw _ (List.mem_of_getElem? (i := 95) rfl)), rfl, hnm⟩) (hw _ (List.mem_of_getElem? (i := 13) rfl)) (ty := (.object "java/lang/String")) (by decide) rfl rfl (g := (mkF m 123 #[.val (.ref a1), .val (.ref a2), .val (.ref a3), .val (.ref a4), .val (.long q5), .second, .val .null, .val (.ref tC)] [(.ref a3), (.ref a1)])) rfl rfl (hb hby d1_123)
    have Fw8 := ((F_1.keep K6 nin0).other W7 (Or.inr (slot_ne (Or.inr (hw _ (List.mem_of_getElem? (i := 95) rfl))) (Or.inr (hw _ (List.mem_of_getElem? (i := 93) rfl))) (by decide) (t := (.object "java/lang/String")) (t' := (.object "com/example/nests/nests/model/Mutation$Kind")) (by decide) (by decide)))).same W8
    have K8 : Keep h0 h8 [a1] := K7.wr W8 (Or.inl (by simp))
    have N8 := Fr.snoc X8 N7 g_a1
    refine own_stepW st8 ?_
    show own_GoW p e below s _ _ _ (T8.setTop (mkF m 126 #[.val (.ref a1), .val (.ref a2), .val (.ref a3), .val (.ref a4), .val (.long q5), .second, .val .null, .val (.ref tC)] []))
    refine own_stepW (B := T8.setTop (mkF m 136 #[.val (.ref a1), .val (.ref a2), .val (.ref a3), .val (.ref a4), .val (.long q5), .second, .val .null, .val (.ref tC)] [(.ref a4), (.ref a1)])) (fun t k => ?_) ?_
    · show Steps p.tables e below (T8.setTop (mkF m 126 #[.val (.ref a1), .val (.ref a2), .val (.ref a3), .val (.ref a4), .val (.long q5), .second, .val .null, .val (.ref tC)] [])) _
      refine XS.aloadN X8.here hx rfl (hb hby d1_126) rfl rfl ?_
      refine XS.aloadN X8.here hx rfl (hb hby d1_127) rfl rfl ?_
      refine XS.ifnonnullYes X8.here hx rfl (pc0 := 128) (pc' := 135) rfl (hb hby d1_128) rfl (by decide) (by decide) ?_
      refine XS.aloadN X8.here hx rfl (hb hby d1_135) rfl rfl ?_
      exact k
    obtain ⟨T9, h9, X9, e9, E9, A9, AE9, st9⟩ := cloneH X8 hx hZ hown (hw _ (List.mem_of_getElem? (i := 96) rfl)) (hw _ (List.mem_of_getElem? (i := 97) rfl)) (hw _ (List.mem_of_getElem? (i := 101) rfl)) (hw _ (List.mem_of_getElem? (i := 99) rfl)) (hw _ (List.mem_of_getElem? (i := 100) rfl)) (hw _ (List.mem_of_getElem? (i := 102) rfl)) e8 (Arv.arh (((V_q.keep K6 nin0).other W7 (Ne.symm (ne_exa E_a1 E_q (by decide)))).other W8 (Ne.symm (ne_exa E_a1 E_q (by decide))))) (((E_q.keep K6).wr W7).wr W8) (g := (mkF m 136 #[.val (.ref a1), .val (.ref a2), .val (.ref a3), .val (.ref a4), .val (.long q5), .second, .val .null, .val (.ref tC)] [(.ref a4), (.ref a1)])) rfl (by rw [hml]; rfl) rfl (hb hby d1_136) (by decide) (W := 1) (cap := 3) (by show 2 * 0 + _ ≤ _; exact Nat.le_of_eq rfl) (by decide) hzq (by decide) (by decide)
    obtain ⟨b9, g9⟩ : ∃ z, z = h8.size := ⟨_, rfl⟩
    rw [← g9] at A9 AE9 st9
    have g_b9 : n0 ≤ b9 := Nat.le_trans (Nat.le_trans (Nat.le_trans (Nat.le_trans Z0 K6.1) (Keep.of_wr W7).1) (Keep.of_wr W8).1) (Nat.le_of_eq g9.symm)
    have ne_a1_b9 : a1 ≠ b9 := Nat.ne_of_lt (Nat.lt_of_lt_of_le (((E_a1.keep K6).wr W7).wr W8).lt (Nat.le_of_eq g9.symm))
    have ne_a2_b9 : a2 ≠ b9 := Nat.ne_of_lt (Nat.lt_of_lt_of_le (((E_k.keep K6).wr W7).wr W8).lt (Nat.le_of_eq g9.symm))
    have ne_a4_b9 : a4 ≠ b9 := Nat.ne_of_lt (Nat.lt_of_lt_of_le (((V_q.keep K6 nin0).other W7 (Ne.symm (ne_exa E_a1 E_q (by decide)))).other W8 (Ne.symm (ne_exa E_a1 E_q (by decide)))).lt (Nat.le_of_eq g9.symm))
    have sz_b9 : h0.size ≤ b9 := Nat.le_trans K8.1 (Nat.le_of_eq g9.symm)
    have K9 : Keep h0 h9 [a1] := K8.ext E9
    refine own_stepW st9 ?_
    show own_GoW p e below s _ _ _ (T9.setTop (mkF m 139 #[.val (.ref a1), .val (.ref a2), .val (.ref a3), .val (.ref a4), .val (.long q5), .second, .val .null, .val (.ref tC)] [(.ref b9), (.ref a1)]))
    obtain ⟨T10, X10, e10, st10⟩ := castY X9 hx hZ hown (hw _ (List.mem_of_getElem? (i := 103) rfl)) e9 (Ins.self AE9) (g := (mkF m 139 #[.val (.ref a1), .val (.ref a2), .val (.ref a3), .val (.ref a4), .val (.long q5), .second, .val .null, .val (.ref tC)] [(.ref b9), (.ref a1)])) rfl rfl (hb hby d1_139)
    refine own_stepW st10 ?_
    show own_GoW p e below s _ _ _ (T10.setTop (mkF m 142 #[.val (.ref a1), .val (.ref a2), .val (.ref a3), .val (.ref a4), .val (.long q5), .second, .val .null, .val (.ref tC)] [(.ref b9), (.ref a1)]))
    obtain ⟨T11, h11, X11, e11, W11, st11⟩ := putF X10 hx hZ hown (host := "") (Or.inl (hw _ (List.mem_of_getElem? (i := 105) rfl))) Via.refl e10 ((((F_2.keep K6 nin0).other W7 (Or.inr (slot_ne (Or.inr (hw _ (List.mem_of_getElem? (i := 106) rfl))) (Or.inr (hw _ (List.mem_of_getElem? (i := 93) rfl))) (by decide) (t := (.array .byte)) (t' := (.object "com/example/nests/nests/model/Mutation$Kind")) (by decide) (by decide)))).other W8 (Or.inr (slot_ne (Or.inr (hw _ (List.mem_of_getElem? (i := 106) rfl))) (Or.inr (hw _ (List.mem_of_getElem? (i := 95) rfl))) (by decide) (t := (.array .byte)) (t' := (.object "java/lang/String")) (by decide) (by decide)))).ext E9) ((((E_a1.keep K6).wr W7).wr W8).ext E9) (Or.inr ⟨(hw _ (List.mem_of_getElem? (i := 106) rfl)), rfl, hnm⟩) (hw _ (List.mem_of_getElem? (i := 13) rfl)) (ty := (.array .byte)) (by decide) rfl rfl (g := (mkF m 142 #[.val (.ref a1), .val (.ref a2), .val (.ref a3), .val (.ref a4), .val (.long q5), .second, .val .null, .val (.ref tC)] [(.ref b9), (.ref a1)])) rfl rfl (hb hby d1_142)
    have Fw11 := ((((F_2.keep K6 nin0).other W7 (Or.inr (slot_ne (Or.inr (hw _ (List.mem_of_getElem? (i := 106) rfl))) (Or.inr (hw _ (List.mem_of_getElem? (i := 93) rfl))) (by decide) (t := (.array .byte)) (t' := (.object "com/example/nests/nests/model/Mutation$Kind")) (by decide) (by decide)))).other W8 (Or.inr (slot_ne (Or.inr (hw _ (List.mem_of_getElem? (i := 106) rfl))) (Or.inr (hw _ (List.mem_of_getElem? (i := 95) rfl))) (by decide) (t := (.array .byte)) (t' := (.object "java/lang/String")) (by decide) (by decide)))).ext E9).same W11
    have K11 : Keep h0 h11 [a1] := K9.wr W11 (Or.inl (by simp))
    have N11 := Fr.snoc X11 N8 g_a1
    refine own_stepW st11 ?_
    show own_GoW p e below s _ _ _ (T11.setTop (mkF m 145 #[.val (.ref a1), .val (.ref a2), .val (.ref a3), .val (.ref a4), .val (.long q5), .second, .val .null, .val (.ref tC)] []))
    refine own_stepW (B := T11.setTop (mkF m 148 #[.val (.ref a1), .val (.ref a2), .val (.ref a3), .val (.ref a4), .val (.long q5), .second, .val .null, .val (.ref tC)] [(.long q5), (.ref a1)])) (fun t k => ?_) ?_
    · show Steps p.tables e below (T11.setTop (mkF m 145 #[.val (.ref a1), .val (.ref a2), .val (.ref a3), .val (.ref a4), .val (.long q5), .second, .val .null, .val (.ref tC)] [])) _
      refine XS.aloadN X11.here hx rfl (hb hby d1_145) rfl rfl ?_
      refine XS.lload X11.here hx rfl (hb hby d1_146) rfl ?_
      exact k
    obtain ⟨T12, h12, X12, e12, W12, st12⟩ := putF X11 hx hZ hown (host := "") (Or.inl (hw _ (List.mem_of_getElem? (i := 107) rfl))) Via.refl e11 (((((F_3.keep K6 nin0).other W7 (Or.inr (slot_ne (Or.inr (hw _ (List.mem_of_getElem? (i := 108) rfl))) (Or.inr (hw _ (List.mem_of_getElem? (i := 93) rfl))) (by decide) (t := .long) (t' := (.object "com/example/nests/nests/model/Mutation$Kind")) (by decide) (by decide)))).other W8 (Or.inr (slot_ne (Or.inr (hw _ (List.mem_of_getElem? (i := 108) rfl))) (Or.inr (hw _ (List.mem_of_getElem? (i := 95) rfl))) (by decide) (t := .long) (t' := (.object "java/lang/String")) (by decide) (by decide)))).ext E9).other W11 (Or.inr (slot_ne (Or.inr (hw _ (List.mem_of_getElem? (i := 108) rfl))) (Or.inr (hw _ (List.mem_of_getElem? (i := 106) rfl))) (by decide) (t := .long) (t' := (.array .byte)) (by decide) (by decide)))) (((((E_a1.keep K6).wr W7).wr W8).ext E9).wr W11) (Or.inr ⟨(hw _ (List.mem_of_getElem? (i := 108) rfl)), rfl, hnm⟩) (hw _ (List.mem_of_getElem? (i := 13) rfl)) (ty := .long) (by decide) rfl rfl (g := (mkF m 148 #[.val (.ref a1), .val (.ref a2), .val (.ref a3), .val (.ref a4), .val (.long q5), .second, .val .null, .val (.ref tC)] [(.long q5), (.ref a1)])) rfl rfl (hb hby d1_148)
    have Fw12 := (((((F_3.keep K6 nin0).other W7 (Or.inr (slot_ne (Or.inr (hw _ (List.mem_of_getElem? (i := 108) rfl))) (Or.inr (hw _ (List.mem_of_getElem? (i := 93) rfl))) (by decide) (t := .long) (t' := (.object "com/example/nests/nests/model/Mutation$Kind")) (by decide) (by decide)))).other W8 (Or.inr (slot_ne (Or.inr (hw _ (List.mem_of_getElem? (i := 108) rfl))) (Or.inr (hw _ (List.mem_of_getElem? (i := 95) rfl))) (by decide) (t := .long) (t' := (.object "java/lang/String")) (by decide) (by decide)))).ext E9).other W11 (Or.inr (slot_ne (Or.inr (hw _ (List.mem_of_getElem? (i := 108) rfl))) (Or.inr (hw _ (List.mem_of_getElem? (i := 106) rfl))) (by decide) (t := .long) (t' := (.array .byte)) (by decide) (by decide)))).same W12
    have K12 : Keep h0 h12 [a1] := K11.wr W12 (Or.inl (by simp))
    have N12 := Fr.snoc X12 N11 g_a1
    refine own_stepW st12 ?_
    show own_GoW p e below s _ _ _ (T12.setTop (mkF m 151 #[.val (.ref a1), .val (.ref a2), .val (.ref a3), .val (.ref a4), .val (.long q5), .second, .val .null, .val (.ref tC)] []))
    refine own_stepW (B := T12.setTop (mkF m 169 #[.val (.ref a1), .val (.ref a2), .val (.ref a3), .val (.ref a4), .val (.long q5), .second, .val .null, .val (.ref tC)] [.null, (.ref a1)])) (fun t k => ?_) ?_
    · show Steps p.tables e below (T12.setTop (mkF m 151 #[.val (.ref a1), .val (.ref a2), .val (.ref a3), .val (.ref a4), .val (.long q5), .second, .val .null, .val (.ref tC)] [])) _
      refine XS.aloadN X12.here hx rfl (hb hby d1_151) rfl rfl ?_
      refine XS.aload X12.here hx rfl (hb hby d1_152) rfl rfl ?_
      refine XS.ifnonnullNo X12.here hx rfl (hb hby d1_154) rfl ?_
      refine XS.aconstNull X12.here hx rfl (hb hby d1_157) ?_
      refine XS.goto X12.here hx rfl (pc0 := 158) (pc' := 169) rfl (hb hby d1_158) (by decide) (by decide) ?_
      exact k
    obtain ⟨T13, h13, X13, e13, W13, st13⟩ := putF X12 hx hZ hown (host := "") (Or.inl (hw _ (List.mem_of_getElem? (i := 109) rfl))) Via.refl e12 ((((((F_4.keep K6 nin0).other W7 (Or.inr (slot_ne (Or.inr (hw _ (List.mem_of_getElem? (i := 110) rfl))) (Or.inr (hw _ (List.mem_of_getElem? (i := 93) rfl))) (by decide) (t := (.array .byte)) (t' := (.object "com/example/nests/nests/model/Mutation$Kind")) (by decide) (by decide)))).other W8 (Or.inr (slot_ne (Or.inr (hw _ (List.mem_of_getElem? (i := 110) rfl))) (Or.inr (hw _ (List.mem_of_getElem? (i := 95) rfl))) (by decide) (t := (.array .byte)) (t' := (.object "java/lang/String")) (by decide) (by decide)))).ext E9).other W11 (Or.inr (slot_ne (Or.inr (hw _ (List.mem_of_getElem? (i := 110) rfl))) (Or.inr (hw _ (List.mem_of_getElem? (i := 106) rfl))) (by decide) (t := (.array .byte)) (t' := (.array .byte)) (by decide) (by decide)))).other W12 (Or.inr (slot_ne (Or.inr (hw _ (List.mem_of_getElem? (i := 110) rfl))) (Or.inr (hw _ (List.mem_of_getElem? (i := 108) rfl))) (by decide) (t := (.array .byte)) (t' := .long) (by decide) (by decide)))) ((((((E_a1.keep K6).wr W7).wr W8).ext E9).wr W11).wr W12) (Or.inr ⟨(hw _ (List.mem_of_getElem? (i := 110) rfl)), rfl, hnm⟩) (hw _ (List.mem_of_getElem? (i := 13) rfl)) (ty := (.array .byte)) (by decide) rfl rfl (g := (mkF m 169 #[.val (.ref a1), .val (.ref a2), .val (.ref a3), .val (.ref a4), .val (.long q5), .second, .val .null, .val (.ref tC)] [.null, (.ref a1)])) rfl rfl (hb hby d1_169)
    have Fw13 := ((((((F_4.keep K6 nin0).other W7 (Or.inr (slot_ne (Or.inr (hw _ (List.mem_of_getElem? (i := 110) rfl))) (Or.inr (hw _ (List.mem_of_getElem? (i := 93) rfl))) (by decide) (t := (.array .byte)) (t' := (.object "com/example/nests/nests/model/Mutation$Kind")) (by decide) (by decide)))).other W8 (Or.inr (slot_ne (Or.inr (hw _ (List.mem_of_getElem? (i := 110) rfl))) (Or.inr (hw _ (List.mem_of_getElem? (i := 95) rfl))) (by decide) (t := (.array .byte)) (t' := (.object "java/lang/String")) (by decide) (by decide)))).ext E9).other W11 (Or.inr (slot_ne (Or.inr (hw _ (List.mem_of_getElem? (i := 110) rfl))) (Or.inr (hw _ (List.mem_of_getElem? (i := 106) rfl))) (by decide) (t := (.array .byte)) (t' := (.array .byte)) (by decide) (by decide)))).other W12 (Or.inr (slot_ne (Or.inr (hw _ (List.mem_of_getElem? (i := 110) rfl))) (Or.inr (hw _ (List.mem_of_getElem? (i := 108) rfl))) (by decide) (t := (.array .byte)) (t' := .long) (by decide) (by decide)))).same W13
    have K13 : Keep h0 h13 [a1] := K12.wr W13 (Or.inl (by simp))
    have N13 := Fr.snoc X13 N12 g_a1
    refine own_stepW st13 ?_
    show own_GoW p e below s _ _ _ (T13.setTop (mkF m 172 #[.val (.ref a1), .val (.ref a2), .val (.ref a3), .val (.ref a4), .val (.long q5), .second, .val .null, .val (.ref tC)] []))
    exact own_retVW X13 hS6 (by rw [e13]; exact (Nat.le_trans (Nat.le_trans (Nat.le_trans (Nat.le_trans (Nat.le_trans (Nat.le_trans (Nat.le_refl T6.heap.size) (Keep.of_wr W7).1) (Keep.of_wr W8).1) E9.1) (Keep.of_wr W11).1) (Keep.of_wr W12).1) (Keep.of_wr W13).1)) hx Bd.notSynchronized Bd.returns (hb hby d1_172) ⟨rfl, N13, by rw [e13]; exact K13, by rw [e13]; exact (((((((E_a1.keep K6).wr W7).wr W8).ext E9).wr W11).wr W12).wr W13), ⟨b9, by rw [e13]; exact ((Fw11.other W12 (Or.inr (slot_ne (Or.inr (hw _ (List.mem_of_getElem? (i := 106) rfl))) (Or.inr (hw _ (List.mem_of_getElem? (i := 108) rfl))) (by decide) (t := (.array .byte)) (t' := .long) (by decide) (by decide)))).other W13 (Or.inr (slot_ne (Or.inr (hw _ (List.mem_of_getElem? (i := 106) rfl))) (Or.inr (hw _ (List.mem_of_getElem? (i := 110) rfl))) (by decide) (t := (.array .byte)) (t' := (.array .byte)) (by decide) (by decide)))), by rw [e13]; exact (((AE9.wr W11).wr W12).wr W13), by rw [e13]; exact (((A9.other W11 (Ne.symm ne_a1_b9)).other W12 (Ne.symm ne_a1_b9)).other W13 (Ne.symm ne_a1_b9)), sz_b9⟩, by rw [e13]; exact Fw13⟩ (by decide) (by decide)
  · refine own_stepW (B := T5.setTop (mkF m 85 #[.val (.ref a1), .val (.ref a2), .val (.ref a3), .val (.ref a4), .val (.long q5), .second, .val .null, .val (.ref tC)] [(.ref a2)])) (fun t k => ?_) ?_
    · show Steps p.tables e below (T5.setTop (mkF m 81 #[.val (.ref a1), .val (.ref a2), .val (.ref a3), .val (.ref a4), .val (.long q5), .second, .val .null, .val (.ref tC)] [(.int (lcmpW q5 (0 : Int64)))])) _
      refine XS.ifNo X5.here hx rfl (hb hby d1_81) rfl ((if0 _ _).trans (feq (fun q => hq ((lw_eq _ _).mp q))).1) ?_
      refine XS.aloadN X5.here hx rfl (hb hby d1_84) rfl rfl ?_
      exact k
    obtain ⟨cq14, kq14, q14a, q14b, q14c⟩ := isOf hZ e5 E_k
    obtain ⟨_, _, ⟨T14, L14, k14, n14⟩, -, X14, ⟨Lc14, hQ14, l14, y14, z14⟩, st14⟩ := X5.virtualBack hx (y := (⟨"com/example/nests/nests/model/Mutation$Kind", "takesTimestamp", "()Z"⟩ : MethodName)) (z := (⟨"com/example/nests/nests/model/Mutation$Kind", "takesTimestamp", "()Z"⟩ : MethodName)) hown (mvT hZ (hw _ (List.mem_of_getElem? (i := 122) rfl))) (mvT hZ (hw _ (List.mem_of_getElem? (i := 123) rfl))) (notFace_of_selects (args := #[]) (mvT hZ (hw _ (List.mem_of_getElem? (i := 125) rfl)))) (mvT hZ (hw _ (List.mem_of_getElem? (i := 125) rfl))) (mvT hZ (hw _ (List.mem_of_getElem? (i := 124) rfl))) (by decide) (backOf (W := 0) (rm18 l Z a0 hw [] a2 ts h0 n0 Z0 Fk_s htn) hZ (hw _ (List.mem_of_getElem? (i := 126) rfl)) (hw _ (List.mem_of_getElem? (i := 2) rfl)) (by decide) (by decide)) q14a q14c (g := (mkF m 85 #[.val (.ref a1), .val (.ref a2), .val (.ref a3), .val (.ref a4), .val (.long q5), .second, .val .null, .val (.ref tC)] [(.ref a2)])) rfl (by rw [hml]; rfl) (Steps.refl _) (argsL := []) (rest := []) (lenOf pd_6 rfl) rfl (by show 2 * 0 + _ ≤ _; exact Nat.le_of_eq rfl) (hb hby d1_85) (fun _ _ => ⟨rfl, e5, (by decide : 0 + 0 ≤ _), (by decide : 0 + 0 ≤ _)⟩)
    dsimp only [Pt.U, Pt.locs, Pt.cells, Pt.slots] at X14 l14 y14 z14 st14 hQ14
    subst l14 y14 z14
    obtain ⟨rfl, N14q, e14⟩ := hQ14
    have N14 := Fr.app N5 N14q
    refine own_viaW st14 ?_
    show own_GoW p e below s _ _ _ (T14.setTop (mkF m 88 #[.val (.ref a1), .val (.ref a2), .val (.ref a3), .val (.ref a4), .val (.long q5), .second, .val .null, .val (.ref tC)] [(.int ts)]))
    refine own_stepW (B := T14.setTop (mkF m 113 #[.val (.ref a1), .val (.ref a2), .val (.ref a3), .val (.ref a4), .val (.long q5), .second, .val .null, .val (.ref tC)] [(.ref a3)])) (fun t k => ?_) ?_
    · show Steps p.tables e below (T14.setTop (mkF m 88 #[.val (.ref a1), .val (.ref a2), .val (.ref a3), .val (.ref a4), .val (.long q5), .second, .val .null, .val (.ref tC)] [(.int ts)])) _
      refine XS.ifYes X14.here hx rfl (pc0 := 88) (pc' := 108) rfl (hb hby d1_88) rfl ((if0 _ _).trans (feq (by rw [hts.resolve_left hq]; decide)).2) (by decide) (by decide) ?_
      refine XS.aloadN X14.here hx rfl (hb hby d1_108) rfl rfl ?_
      refine XS.ifnullNo X14.here hx rfl (hb hby d1_109) rfl ?_
      refine XS.aloadN X14.here hx rfl (hb hby d1_112) rfl rfl ?_
      exact k
    obtain ⟨_, _, ⟨T15, L15, k15, n15⟩, -, X15, hSx15, gx15, ⟨Lc15, hQ15, l15, y15, z15⟩, st15⟩ := callSS X14 hx (y := (⟨"com/example/nests/nests/model/Cell", "checkFamily", "(Ljava/lang/String;)V"⟩ : MethodName)) hown (mvT hZ (hw _ (List.mem_of_getElem? (i := 40) rfl))) (mvT hZ (hw _ (List.mem_of_getElem? (i := 41) rfl))) (mvT hZ (hw _ (List.mem_of_getElem? (i := 42) rfl))) (mvT hZ (hw _ (List.mem_of_getElem? (i := 43) rfl))) (by decide) (backOfS (W := 0) (rm5 l Z a0 hw [] a3 cs vf b k h0 n0 Z0 P_0 P_1 P_2 V_b S_C hcs S_F hvf) hZ (hw _ (List.mem_of_getElem? (i := 43) rfl)) (hw _ (List.mem_of_getElem? (i := 42) rfl)) (by decide) (by decide)) (g := (mkF m 113 #[.val (.ref a1), .val (.ref a2), .val (.ref a3), .val (.ref a4), .val (.long q5), .second, .val .null, .val (.ref tC)] [(.ref a3)])) rfl (by rw [hml]; rfl) (argsL := [(.ref a3)]) (rest := []) (lenOf pd_17 rfl) rfl (by show 2 * 0 + _ ≤ _; exact Nat.le_of_eq rfl) (hb hby d1_113) (fun _ _ => ⟨rfl, e14, (by decide : 0 + 2 ≤ _), (by decide : 0 + 28 ≤ _)⟩)
    dsimp only [Pt.U, Pt.locs, Pt.cells, Pt.slots] at X15 l15 y15 z15 st15 hQ15 hSx15 gx15
    subst l15 y15 z15
    obtain ⟨rfl, N15q, K15⟩ := hQ15
    have N15 := Fr.app N14 N15q
    refine own_viaW st15 ?_
    obtain ⟨X15, hS15, hZ, hown⟩ := rebS hS0 (by rw [e14]; exact hk0) X15 hSx15 gx15 hZ hown
    show own_GoW p e below s _ _ _ (T15.setTop (mkF m 116 #[.val (.ref a1), .val (.ref a2), .val (.ref a3), .val (.ref a4), .val (.long q5), .second, .val .null, .val (.ref tC)] []))
    have KK15 : Keep h0 T15.heap [a1] := KK0.trans K15 all0
    refine own_stepW (B := T15.setTop (mkF m 118 #[.val (.ref a1), .val (.ref a2), .val (.ref a3), .val (.ref a4), .val (.long q5), .second, .val .null, .val (.ref tC)] [(.ref a2), (.ref a1)])) (fun t k => ?_) ?_
    · show Steps p.tables e below (T15.setTop (mkF m 116 #[.val (.ref a1), .val (.ref a2), .val (.ref a3), .val (.ref a4), .val (.long q5), .second, .val .null, .val (.ref tC)] [])) _
      refine XS.aloadN X15.here hx rfl (hb hby d1_116) rfl rfl ?_
      refine XS.aloadN X15.here hx rfl (hb hby d1_117) rfl rfl ?_
      exact k
    obtain ⟨T16, h16, X16, e16, W16, st16⟩ := putF X15 hx hZ hown (host := "") (Or.inl (hw _ (List.mem_of_getElem? (i := 92) rfl))) Via.refl rfl (F_0.keep K15 nin0) (E_a1.keep K15) (Or.inr ⟨(hw _ (List.mem_of_getElem? (i := 93) rfl)), rfl, hnm⟩) (hw _ (List.mem_of_getElem? (i := 13) rfl)) (ty := (.object "com/example/nests/nests/model/Mutation$Kind")) (by decide) rfl rfl (g := (mkF m 118 #[.val (.ref a1), .val (.ref a2), .val (.ref a3), .val (.ref a4), .val (.long q5), .second, .val .null, .val (.ref tC)] [(.ref a2), (.ref a1)])) rfl rfl (hb hby d1_118)
    have Fw16 := (F_0.keep K15 nin0).same W16
    have K16 : Keep h0 h16 [a1] := KK15.wr W16 (Or.inl (by simp))
    have N16 := Fr.snoc X16 N15 g_a1
    refine own_stepW st16 ?_
    show own_GoW p e below s _ _ _ (T16.setTop (mkF m 121 #[.val (.ref a1), .val (.ref a2), .val (.ref a3), .val (.ref a4), .val (.long q5), .second, .val .null, .val (.ref tC)] []))
    refine own_stepW (B := T16.setTop (mkF m 123 #[.val (.ref a1), .val (.ref a2), .val (.ref a3), .val (.ref a4), .val (.long q5), .second, .val .null, .val (.ref tC)] [(.ref a3), (.ref a1)])) (fun t k => ?_) ?_
    · show Steps p.tables e below (T16.setTop (mkF m 121 #[.val (.ref a1), .val (.ref a2), .val (.ref a3), .val (.ref a4), .val (.long q5), .second, .val .null, .val (.ref tC)] [])) _
      refine XS.aloadN X16.here hx rfl (hb hby d1_121) rfl rfl ?_
      refine XS.aloadN X16.here hx rfl (hb hby d1_122) rfl rfl ?_
      exact k
    obtain ⟨T17, h17, X17, e17, W17, st17⟩ := putF X16 hx hZ hown (host := "") (Or.inl (hw _ (List.mem_of_getElem? (i := 94) rfl))) Via.refl e16 ((F_1.keep K15 nin0).other W16 (Or.inr (slot_ne (Or.inr (hw _ (List.mem_of_getElem? (i := 95) rfl))) (Or.inr (hw _ (List.mem_of_getElem? (i := 93) rfl))) (by decide) (t := (.object "java/lang/String")) (t' := (.object "com/example/nests/nests/model/Mutation$Kind")) (by decide) (by decide)))) ((E_a1.keep K15).wr W16) (Or.inr ⟨(hw _ (List.mem_of_getElem? (i := 95) rfl)), rfl, hnm⟩) (hw _ (List.mem_of_getElem? (i := 13) rfl)) (ty := (.object "java/lang/String")) (by decide) rfl rfl (g := (mkF m 123 #[.val (.ref a1), .val (.ref a2), .val (.ref a3), .val (.ref a4), .val (.long q5), .second, .val .null, .val (.ref tC)] [(.ref a3), (.ref a1)])) rfl rfl (hb hby d1_123)
    have Fw17 := ((F_1.keep K15 nin0).other W16 (Or.inr (slot_ne (Or.inr (hw _ (List.mem_of_getElem? (i := 95) rfl))) (Or.inr (hw _ (List.mem_of_getElem? (i := 93) rfl))) (by decide) (t := (.object "java/lang/String")) (t' := (.object "com/example/nests/nests/model/Mutation$Kind")) (by decide) (by decide)))).same W17
    have K17 : Keep h0 h17 [a1] := K16.wr W17 (Or.inl (by simp))
    have N17 := Fr.snoc X17 N16 g_a1
    refine own_stepW st17 ?_
    show own_GoW p e below s _ _ _ (T17.setTop (mkF m 126 #[.val (.ref a1), .val (.ref a2), .val (.ref a3), .val (.ref a4), .val (.long q5), .second, .val .null, .val (.ref tC)] []))
    refine own_stepW (B := T17.setTop (mkF m 136 #[.val (.ref a1), .val (.ref a2), .val (.ref a3), .val (.ref a4), .val (.long q5), .second, .val .null, .val (.ref tC)] [(.ref a4), (.ref a1)])) (fun t k => ?_) ?_
    · show Steps p.tables e below (T17.setTop (mkF m 126 #[.val (.ref a1), .val (.ref a2), .val (.ref a3), .val (.ref a4), .val (.long q5), .second, .val .null, .val (.ref tC)] [])) _
      refine XS.aloadN X17.here hx rfl (hb hby d1_126) rfl rfl ?_
      refine XS.aloadN X17.here hx rfl (hb hby d1_127) rfl rfl ?_
      refine XS.ifnonnullYes X17.here hx rfl (pc0 := 128) (pc' := 135) rfl (hb hby d1_128) rfl (by decide) (by decide) ?_
      refine XS.aloadN X17.here hx rfl (hb hby d1_135) rfl rfl ?_
      exact k
    obtain ⟨T18, h18, X18, e18, E18, A18, AE18, st18⟩ := cloneH X17 hx hZ hown (hw _ (List.mem_of_getElem? (i := 96) rfl)) (hw _ (List.mem_of_getElem? (i := 97) rfl)) (hw _ (List.mem_of_getElem? (i := 101) rfl)) (hw _ (List.mem_of_getElem? (i := 99) rfl)) (hw _ (List.mem_of_getElem? (i := 100) rfl)) (hw _ (List.mem_of_getElem? (i := 102) rfl)) e17 (Arv.arh (((V_q.keep K15 nin0).other W16 (Ne.symm (ne_exa E_a1 E_q (by decide)))).other W17 (Ne.symm (ne_exa E_a1 E_q (by decide))))) (((E_q.keep K15).wr W16).wr W17) (g := (mkF m 136 #[.val (.ref a1), .val (.ref a2), .val (.ref a3), .val (.ref a4), .val (.long q5), .second, .val .null, .val (.ref tC)] [(.ref a4), (.ref a1)])) rfl (by rw [hml]; rfl) rfl (hb hby d1_136) (by decide) (W := 1) (cap := 3) (by show 2 * 0 + _ ≤ _; exact Nat.le_of_eq rfl) (by decide) hzq (by decide) (by decide)
    obtain ⟨b18, g18⟩ : ∃ z, z = h17.size := ⟨_, rfl⟩
    rw [← g18] at A18 AE18 st18
    have g_b18 : n0 ≤ b18 := Nat.le_trans (Nat.le_trans (Nat.le_trans (Nat.le_trans Z0 K15.1) (Keep.of_wr W16).1) (Keep.of_wr W17).1) (Nat.le_of_eq g18.symm)
    have ne_a1_b18 : a1 ≠ b18 := Nat.ne_of_lt (Nat.lt_of_lt_of_le (((E_a1.keep K15).wr W16).wr W17).lt (Nat.le_of_eq g18.symm))
    have ne_a2_b18 : a2 ≠ b18 := Nat.ne_of_lt (Nat.lt_of_lt_of_le (((E_k.keep K15).wr W16).wr W17).lt (Nat.le_of_eq g18.symm))
    have ne_a4_b18 : a4 ≠ b18 := Nat.ne_of_lt (Nat.lt_of_lt_of_le (((V_q.keep K15 nin0).other W16 (Ne.symm (ne_exa E_a1 E_q (by decide)))).other W17 (Ne.symm (ne_exa E_a1 E_q (by decide)))).lt (Nat.le_of_eq g18.symm))
    have sz_b18 : h0.size ≤ b18 := Nat.le_trans K17.1 (Nat.le_of_eq g18.symm)
    have K18 : Keep h0 h18 [a1] := K17.ext E18
    refine own_stepW st18 ?_
    show own_GoW p e below s _ _ _ (T18.setTop (mkF m 139 #[.val (.ref a1), .val (.ref a2), .val (.ref a3), .val (.ref a4), .val (.long q5), .second, .val .null, .val (.ref tC)] [(.ref b18), (.ref a1)]))
    obtain ⟨T19, X19, e19, st19⟩ := castY X18 hx hZ hown (hw _ (List.mem_of_getElem? (i := 103) rfl)) e18 (Ins.self AE18) (g := (mkF m 139 #[.val (.ref a1), .val (.ref a2), .val (.ref a3), .val (.ref a4), .val (.long q5), .second, .val .null, .val (.ref tC)] [(.ref b18), (.ref a1)])) rfl rfl (hb hby d1_139)
    refine own_stepW st19 ?_
    show own_GoW p e below s _ _ _ (T19.setTop (mkF m 142 #[.val (.ref a1), .val (.ref a2), .val (.ref a3), .val (.ref a4), .val (.long q5), .second, .val .null, .val (.ref tC)] [(.ref b18), (.ref a1)]))
    obtain ⟨T20, h20, X20, e20, W20, st20⟩ := putF X19 hx hZ hown (host := "") (Or.inl (hw _ (List.mem_of_getElem? (i := 105) rfl))) Via.refl e19 ((((F_2.keep K15 nin0).other W16 (Or.inr (slot_ne (Or.inr (hw _ (List.mem_of_getElem? (i := 106) rfl))) (Or.inr (hw _ (List.mem_of_getElem? (i := 93) rfl))) (by decide) (t := (.array .byte)) (t' := (.object "com/example/nests/nests/model/Mutation$Kind")) (by decide) (by decide)))).other W17 (Or.inr (slot_ne (Or.inr (hw _ (List.mem_of_getElem? (i := 106) rfl))) (Or.inr (hw _ (List.mem_of_getElem? (i := 95) rfl))) (by decide) (t := (.array .byte)) (t' := (.object "java/lang/String")) (by decide) (by decide)))).ext E18) ((((E_a1.keep K15).wr W16).wr W17).ext E18) (Or.inr ⟨(hw _ (List.mem_of_getElem? (i := 106) rfl)), rfl, hnm⟩) (hw _ (List.mem_of_getElem? (i := 13) rfl)) (ty := (.array .byte)) (by decide) rfl rfl (g := (mkF m 142 #[.val (.ref a1), .val (.ref a2), .val (.ref a3), .val (.ref a4), .val (.long q5), .second, .val .null, .val (.ref tC)] [(.ref b18), (.ref a1)])) rfl rfl (hb hby d1_142)
    have Fw20 := ((((F_2.keep K15 nin0).other W16 (Or.inr (slot_ne (Or.inr (hw _ (List.mem_of_getElem? (i := 106) rfl))) (Or.inr (hw _ (List.mem_of_getElem? (i := 93) rfl))) (by decide) (t := (.array .byte)) (t' := (.object "com/example/nests/nests/model/Mutation$Kind")) (by decide) (by decide)))).other W17 (Or.inr (slot_ne (Or.inr (hw _ (List.mem_of_getElem? (i := 106) rfl))) (Or.inr (hw _ (List.mem_of_getElem? (i := 95) rfl))) (by decide) (t := (.array .byte)) (t' := (.object "java/lang/String")) (by decide) (by decide)))).ext E18).same W20
    have K20 : Keep h0 h20 [a1] := K18.wr W20 (Or.inl (by simp))
    have N20 := Fr.snoc X20 N17 g_a1
    refine own_stepW st20 ?_
    show own_GoW p e below s _ _ _ (T20.setTop (mkF m 145 #[.val (.ref a1), .val (.ref a2), .val (.ref a3), .val (.ref a4), .val (.long q5), .second, .val .null, .val (.ref tC)] []))
    refine own_stepW (B := T20.setTop (mkF m 148 #[.val (.ref a1), .val (.ref a2), .val (.ref a3), .val (.ref a4), .val (.long q5), .second, .val .null, .val (.ref tC)] [(.long q5), (.ref a1)])) (fun t k => ?_) ?_
    · show Steps p.tables e below (T20.setTop (mkF m 145 #[.val (.ref a1), .val (.ref a2), .val (.ref a3), .val (.ref a4), .val (.long q5), .second, .val .null, .val (.ref tC)] [])) _
      refine XS.aloadN X20.here hx rfl (hb hby d1_145) rfl rfl ?_
      refine XS.lload X20.here hx rfl (hb hby d1_146) rfl ?_
      exact k
    obtain ⟨T21, h21, X21, e21, W21, st21⟩ := putF X20 hx hZ hown (host := "") (Or.inl (hw _ (List.mem_of_getElem? (i := 107) rfl))) Via.refl e20 (((((F_3.keep K15 nin0).other W16 (Or.inr (slot_ne (Or.inr (hw _ (List.mem_of_getElem? (i := 108) rfl))) (Or.inr (hw _ (List.mem_of_getElem? (i := 93) rfl))) (by decide) (t := .long) (t' := (.object "com/example/nests/nests/model/Mutation$Kind")) (by decide) (by decide)))).other W17 (Or.inr (slot_ne (Or.inr (hw _ (List.mem_of_getElem? (i := 108) rfl))) (Or.inr (hw _ (List.mem_of_getElem? (i := 95) rfl))) (by decide) (t := .long) (t' := (.object "java/lang/String")) (by decide) (by decide)))).ext E18).other W20 (Or.inr (slot_ne (Or.inr (hw _ (List.mem_of_getElem? (i := 108) rfl))) (Or.inr (hw _ (List.mem_of_getElem? (i := 106) rfl))) (by decide) (t := .long) (t' := (.array .byte)) (by decide) (by decide)))) (((((E_a1.keep K15).wr W16).wr W17).ext E18).wr W20) (Or.inr ⟨(hw _ (List.mem_of_getElem? (i := 108) rfl)), rfl, hnm⟩) (hw _ (List.mem_of_getElem? (i := 13) rfl)) (ty := .long) (by decide) rfl rfl (g := (mkF m 148 #[.val (.ref a1), .val (.ref a2), .val (.ref a3), .val (.ref a4), .val (.long q5), .second, .val .null, .val (.ref tC)] [(.long q5), (.ref a1)])) rfl rfl (hb hby d1_148)
    have Fw21 := (((((F_3.keep K15 nin0).other W16 (Or.inr (slot_ne (Or.inr (hw _ (List.mem_of_getElem? (i := 108) rfl))) (Or.inr (hw _ (List.mem_of_getElem? (i := 93) rfl))) (by decide) (t := .long) (t' := (.object "com/example/nests/nests/model/Mutation$Kind")) (by decide) (by decide)))).other W17 (Or.inr (slot_ne (Or.inr (hw _ (List.mem_of_getElem? (i := 108) rfl))) (Or.inr (hw _ (List.mem_of_getElem? (i := 95) rfl))) (by decide) (t := .long) (t' := (.object "java/lang/String")) (by decide) (by decide)))).ext E18).other W20 (Or.inr (slot_ne (Or.inr (hw _ (List.mem_of_getElem? (i := 108) rfl))) (Or.inr (hw _ (List.mem_of_getElem? (i := 106) rfl))) (by decide) (t := .long) (t' := (.array .byte)) (by decide) (by decide)))).same W21
    have K21 : Keep h0 h21 [a1] := K20.wr W21 (Or.inl (by simp))
    have N21 := Fr.snoc X21 N20 g_a1
    refine own_stepW st21 ?_
    show own_GoW p e below s _ _ _ (T21.setTop (mkF m 151 #[.val (.ref a1), .val (.ref a2), .val (.ref a3), .val (.ref a4), .val (.long q5), .second, .val .null, .val (.ref tC)] []))
    refine own_stepW (B := T21.setTop (mkF m 169 #[.val (.ref a1), .val (.ref a2), .val (.ref a3), .val (.ref a4), .val (.long q5), .second, .val .null, .val (.ref tC)] [.null, (.ref a1)])) (fun t k => ?_) ?_
    · show Steps p.tables e below (T21.setTop (mkF m 151 #[.val (.ref a1), .val (.ref a2), .val (.ref a3), .val (.ref a4), .val (.long q5), .second, .val .null, .val (.ref tC)] [])) _
      refine XS.aloadN X21.here hx rfl (hb hby d1_151) rfl rfl ?_
      refine XS.aload X21.here hx rfl (hb hby d1_152) rfl rfl ?_
      refine XS.ifnonnullNo X21.here hx rfl (hb hby d1_154) rfl ?_
      refine XS.aconstNull X21.here hx rfl (hb hby d1_157) ?_
      refine XS.goto X21.here hx rfl (pc0 := 158) (pc' := 169) rfl (hb hby d1_158) (by decide) (by decide) ?_
      exact k
    obtain ⟨T22, h22, X22, e22, W22, st22⟩ := putF X21 hx hZ hown (host := "") (Or.inl (hw _ (List.mem_of_getElem? (i := 109) rfl))) Via.refl e21 ((((((F_4.keep K15 nin0).other W16 (Or.inr (slot_ne (Or.inr (hw _ (List.mem_of_getElem? (i := 110) rfl))) (Or.inr (hw _ (List.mem_of_getElem? (i := 93) rfl))) (by decide) (t := (.array .byte)) (t' := (.object "com/example/nests/nests/model/Mutation$Kind")) (by decide) (by decide)))).other W17 (Or.inr (slot_ne (Or.inr (hw _ (List.mem_of_getElem? (i := 110) rfl))) (Or.inr (hw _ (List.mem_of_getElem? (i := 95) rfl))) (by decide) (t := (.array .byte)) (t' := (.object "java/lang/String")) (by decide) (by decide)))).ext E18).other W20 (Or.inr (slot_ne (Or.inr (hw _ (List.mem_of_getElem? (i := 110) rfl))) (Or.inr (hw _ (List.mem_of_getElem? (i := 106) rfl))) (by decide) (t := (.array .byte)) (t' := (.array .byte)) (by decide) (by decide)))).other W21 (Or.inr (slot_ne (Or.inr (hw _ (List.mem_of_getElem? (i := 110) rfl))) (Or.inr (hw _ (List.mem_of_getElem? (i := 108) rfl))) (by decide) (t := (.array .byte)) (t' := .long) (by decide) (by decide)))) ((((((E_a1.keep K15).wr W16).wr W17).ext E18).wr W20).wr W21) (Or.inr ⟨(hw _ (List.mem_of_getElem? (i := 110) rfl)), rfl, hnm⟩) (hw _ (List.mem_of_getElem? (i := 13) rfl)) (ty := (.array .byte)) (by decide) rfl rfl (g := (mkF m 169 #[.val (.ref a1), .val (.ref a2), .val (.ref a3), .val (.ref a4), .val (.long q5), .second, .val .null, .val (.ref tC)] [.null, (.ref a1)])) rfl rfl (hb hby d1_169)
    have Fw22 := ((((((F_4.keep K15 nin0).other W16 (Or.inr (slot_ne (Or.inr (hw _ (List.mem_of_getElem? (i := 110) rfl))) (Or.inr (hw _ (List.mem_of_getElem? (i := 93) rfl))) (by decide) (t := (.array .byte)) (t' := (.object "com/example/nests/nests/model/Mutation$Kind")) (by decide) (by decide)))).other W17 (Or.inr (slot_ne (Or.inr (hw _ (List.mem_of_getElem? (i := 110) rfl))) (Or.inr (hw _ (List.mem_of_getElem? (i := 95) rfl))) (by decide) (t := (.array .byte)) (t' := (.object "java/lang/String")) (by decide) (by decide)))).ext E18).other W20 (Or.inr (slot_ne (Or.inr (hw _ (List.mem_of_getElem? (i := 110) rfl))) (Or.inr (hw _ (List.mem_of_getElem? (i := 106) rfl))) (by decide) (t := (.array .byte)) (t' := (.array .byte)) (by decide) (by decide)))).other W21 (Or.inr (slot_ne (Or.inr (hw _ (List.mem_of_getElem? (i := 110) rfl))) (Or.inr (hw _ (List.mem_of_getElem? (i := 108) rfl))) (by decide) (t := (.array .byte)) (t' := .long) (by decide) (by decide)))).same W22
    have K22 : Keep h0 h22 [a1] := K21.wr W22 (Or.inl (by simp))
    have N22 := Fr.snoc X22 N21 g_a1
    refine own_stepW st22 ?_
    show own_GoW p e below s _ _ _ (T22.setTop (mkF m 172 #[.val (.ref a1), .val (.ref a2), .val (.ref a3), .val (.ref a4), .val (.long q5), .second, .val .null, .val (.ref tC)] []))
    exact own_retVW X22 hS15 (by rw [e22]; exact (Nat.le_trans (Nat.le_trans (Nat.le_trans (Nat.le_trans (Nat.le_trans (Nat.le_trans (Nat.le_refl T15.heap.size) (Keep.of_wr W16).1) (Keep.of_wr W17).1) E18.1) (Keep.of_wr W20).1) (Keep.of_wr W21).1) (Keep.of_wr W22).1)) hx Bd.notSynchronized Bd.returns (hb hby d1_172) ⟨rfl, N22, by rw [e22]; exact K22, by rw [e22]; exact (((((((E_a1.keep K15).wr W16).wr W17).ext E18).wr W20).wr W21).wr W22), ⟨b18, by rw [e22]; exact ((Fw20.other W21 (Or.inr (slot_ne (Or.inr (hw _ (List.mem_of_getElem? (i := 106) rfl))) (Or.inr (hw _ (List.mem_of_getElem? (i := 108) rfl))) (by decide) (t := (.array .byte)) (t' := .long) (by decide) (by decide)))).other W22 (Or.inr (slot_ne (Or.inr (hw _ (List.mem_of_getElem? (i := 106) rfl))) (Or.inr (hw _ (List.mem_of_getElem? (i := 110) rfl))) (by decide) (t := (.array .byte)) (t' := (.array .byte)) (by decide) (by decide)))), by rw [e22]; exact (((AE18.wr W20).wr W21).wr W22), by rw [e22]; exact (((A18.other W20 (Ne.symm ne_a1_b18)).other W21 (Ne.symm ne_a1_b18)).other W22 (Ne.symm ne_a1_b18)), sz_b18⟩, by rw [e22]; exact Fw22⟩ (by decide) (by decide)
theorem ef_1fn (m : MethodId) (a1 : Addr) (a2 : Addr) (a3 : Addr) (q5 : Int64) : entryFrame m #[(.ref a1), (.ref a2), (.ref a3), .null, (.long q5), .null] 8 = mkF m 0 #[.val (.ref a1), .val (.ref a2), .val (.ref a3), .val .null, .val (.long q5), .second, .val .null, .unset] [] := by first | (simp [entryFrame, mkF, argsToLocals, Value.category]; done) | rfl
def Q1fn (Z : State) (a1 : Addr) (a2 : Addr) (a3 : Addr) (q5 : Int64) (u0 : Value) (u1 : Value) (u2 : Value) (u3 : Value) (u4 : Value) (tC : Addr) (tF : Addr) (tR : Addr) (ts : Int32) (cs : Int32) (vf : Value) (b : Addr) (k : ClassId) (h0 : Heap) (n0 : Nat) (v : Option Value) (h : Heap) (L : List Loc) : Prop := v = none ∧ Fr n0 L ∧ Keep h0 h [a1] ∧ Exa Z h a1 "com/example/nests/nests/model/Mutation" ∧ Fld Z h a1 "com/example/nests/nests/model/Mutation" "qualifier" "[B" .null ∧ Fld Z h a1 "com/example/nests/nests/model/Mutation" "value" "[B" .null
set_option maxRecDepth 65536 in
set_option maxHeartbeats 40000000 in
theorem rm1fn (l : Launch) (Z : State) (a0 : Array Value) (hw : ∀ d ∈ tables_1, d.before a0 Z = true) (ws : List Jvm.Cond) (a1 : Addr) (a2 : Addr) (a3 : Addr) (q5 : Int64) (u0 : Value) (u1 : Value) (u2 : Value) (u3 : Value) (u4 : Value) (tC : Addr) (tF : Addr) (tR : Addr) (ts : Int32) (cs : Int32) (vf : Value) (b : Addr) (k : ClassId) (h0 : Heap) (n0 : Nat) (Z0 : n0 ≤ h0.size) (E_a1 : Exa Z h0 a1 "com/example/nests/nests/model/Mutation") (F_0 : Fld Z h0 a1 "com/example/nests/nests/model/Mutation" "kind" "Lcom/example/nests/nests/model/Mutation$Kind;" u0) (F_1 : Fld Z h0 a1 "com/example/nests/nests/model/Mutation" "family" "Ljava/lang/String;" u1) (F_2 : Fld Z h0 a1 "com/example/nests/nests/model/Mutation" "qualifier" "[B" u2) (F_3 : Fld Z h0 a1 "com/example/nests/nests/model/Mutation" "timestamp" "J" u3) (F_4 : Fld Z h0 a1 "com/example/nests/nests/model/Mutation" "value" "[B" u4) (g_a1 : n0 ≤ a1) (E_k : Exa Z h0 a2 "com/example/nests/nests/model/Mutation$Kind") (Fk_t : Fld Z h0 a2 "com/example/nests/nests/model/Mutation$Kind" "target" "Lcom/example/nests/nests/model/Mutation$Target;" (.ref tF)) (Fk_v : Fld Z h0 a2 "com/example/nests/nests/model/Mutation$Kind" "takesValue" "Z" (.int (0 : Int32))) (Fk_s : Fld Z h0 a2 "com/example/nests/nests/model/Mutation$Kind" "takesTimestamp" "Z" (.int ts)) (S_R : Sta Z h0 "com/example/nests/nests/model/Mutation$Target" "ROW" "Lcom/example/nests/nests/model/Mutation$Target;" (.ref tR)) (S_L : Sta Z h0 "com/example/nests/nests/model/Mutation$Target" "COLUMN" "Lcom/example/nests/nests/model/Mutation$Target;" (.ref tC)) (nCR : ¬ (tC = tR)) (nFR : ¬ (tF = tR)) (nFC : ¬ (tF = tC)) (hts : q5 = (0 : Int64) ∨ ts = (1 : Int32)) (htn : nar .boolean ts = ts) (P_0 : Exa Z h0 a3 "java/lang/String") (P_1 : Fld Z h0 a3 "java/lang/String" "coder" "B" (.int (0 : Int32))) (P_2 : Fld Z h0 a3 "java/lang/String" "value" "[B" (.ref b)) (V_b : Arv Z h0 b k .byte (1 : Int32) [(.int (102 : Int32))] (.int 0)) (S_C : Sta Z h0 "java/lang/String" "COMPACT_STRINGS" "Z" (.int cs)) (hcs : ¬ (cs = (0 : Int32))) (S_F : Sta Z h0 "jdk/internal/util/Preconditions" "SIOOBE_FORMATTER" "Ljava/util/function/BiFunction;" vf) (hvf : vf.isRef = true) :
    MetFree l (⟨"com/example/nests/nests/model/Mutation", "<init>", "(Lcom/example/nests/nests/model/Mutation$Kind;Ljava/lang/String;[BJ[B)V"⟩ : MethodName) (head1 (Jvm.Cond.code (⟨"com/example/nests/nests/model/Mutation", "<init>", "(Lcom/example/nests/nests/model/Mutation$Kind;Ljava/lang/String;[BJ[B)V"⟩ : MethodName) prog_72_method_1_code 8 none :: ws) ({ frames := 6, cells := 2, slots := 28, locals := 80 } : Room)) (fun a U => a = #[(.ref a1), (.ref a2), (.ref a3), .null, (.long q5), .null] ∧ Z.Warmed39 U.vm ∧ U.heap = h0) (fun _ _ _ _ _ => True) (fun _ U o U' => ∃ v L, o = .returned v ∧ Q1fn Z a1 a2 a3 q5 u0 u1 u2 u3 u4 tC tF tR ts cs vf b k h0 n0 v U'.heap L ∧ ReturnedEndW U o U' L ({ frames := 6, cells := 2, slots := 28, locals := 80 } : Room).cells ({ frames := 6, cells := 2, slots := 28, locals := 80 } : Room).slots) := by
  refine MetFree.of_bodySF (plainFor_of_name pn_19) hisR ?_
  intro p e s m args below meth c s₁ Bd hml0 hP hK
  obtain ⟨rfl, hZ, hh⟩ := hP
  have hx := Bd.exec
  have hby := Bd.bytes
  have hml : c.maxLocals = 8 := hml0
  have hown : s.vm.findClass "com/example/nests/nests/model/Mutation" = some m.cls := findClass_of_methodNamed Bd.named
  have hnm := (name_of_methodNamed Bd.named Bd.method).1
  have X0 : Stand p l e ({ frames := 6, cells := 2, slots := 28, locals := 80 } : Room) (s.setVm s.vm) m #[(.ref a1), (.ref a2), (.ref a3), .null, (.long q5), .null] below meth c s₁ [] 0 0 := Stand.of_body Bd
  have e0 : s₁.heap = h0 := by rw [← hh, Bd.state]; rfl
  have N0 := Fr.nil n0
  have hS0 : s.Since s.vm s.heap.size := (State.WarmedH.refl s).since _
  have hk0 : s.heap.size ≤ h0.size := by rw [hh]; exact Nat.le_refl _
  show own_GoW p e below s (Q1fn Z a1 a2 a3 q5 u0 u1 u2 u3 u4 tC tF tR ts cs vf b k h0 n0) ({ frames := 6, cells := 2, slots := 28, locals := 80 } : Room).cells ({ frames := 6, cells := 2, slots := 28, locals := 80 } : Room).slots _
  refine own_stepW (B := s₁.setTop (mkF m 0 #[.val (.ref a1), .val (.ref a2), .val (.ref a3), .val .null, .val (.long q5), .second, .val .null, .unset] [])) (fun t k => castTop (ef_1fn m a1 a2 a3 q5) k) ?_
  have KK0 : Keep h0 h0 [a1] := Keep.refl h0 _
  refine own_stepW (B := s₁.setTop (mkF m 1 #[.val (.ref a1), .val (.ref a2), .val (.ref a3), .val .null, .val (.long q5), .second, .val .null, .unset] [(.ref a1)])) (fun t k => ?_) ?_
  · show Steps p.tables e below (s₁.setTop (mkF m 0 #[.val (.ref a1), .val (.ref a2), .val (.ref a3), .val .null, .val (.long q5), .second, .val .null, .unset] [])) _
    refine XS.aloadN X0.here hx rfl (hb hby d1_0) rfl rfl ?_
    exact k
  obtain ⟨T1, X1, e1, st1⟩ := initO X0 hx hZ hown (hw _ (List.mem_of_getElem? (i := 18) rfl)) (hw _ (List.mem_of_getElem? (i := 19) rfl)) (hw _ (List.mem_of_getElem? (i := 20) rfl)) e0 (g := (mkF m 1 #[.val (.ref a1), .val (.ref a2), .val (.ref a3), .val .null, .val (.long q5), .second, .val .null, .unset] [(.ref a1)])) rfl (by rw [hml]; rfl) rfl (hb hby d1_1) (by decide) (W := 0) (by show 2 * 0 + _ ≤ _; exact Nat.le_of_eq rfl) (by decide)
  refine own_stepW st1 ?_
  show own_GoW p e below s _ _ _ (T1.setTop (mkF m 4 #[.val (.ref a1), .val (.ref a2), .val (.ref a3), .val .null, .val (.long q5), .second, .val .null, .unset] []))
  refine own_stepW (B := T1.setTop (mkF m 5 #[.val (.ref a1), .val (.ref a2), .val (.ref a3), .val .null, .val (.long q5), .second, .val .null, .unset] [(.ref a2)])) (fun t k => ?_) ?_
  · show Steps p.tables e below (T1.setTop (mkF m 4 #[.val (.ref a1), .val (.ref a2), .val (.ref a3), .val .null, .val (.long q5), .second, .val .null, .unset] [])) _
    refine XS.aloadN X1.here hx rfl (hb hby d1_4) rfl rfl ?_
    exact k
  obtain ⟨cq2, kq2, q2a, q2b, q2c⟩ := isOf hZ e1 E_k
  obtain ⟨_, _, ⟨T2, L2, k2, n2⟩, -, X2, ⟨Lc2, hQ2, l2, y2, z2⟩, st2⟩ := X1.virtualBack hx (y := (⟨"com/example/nests/nests/model/Mutation$Kind", "getTarget", "()Lcom/example/nests/nests/model/Mutation$Target;"⟩ : MethodName)) (z := (⟨"com/example/nests/nests/model/Mutation$Kind", "getTarget", "()Lcom/example/nests/nests/model/Mutation$Target;"⟩ : MethodName)) hown (mvT hZ (hw _ (List.mem_of_getElem? (i := 21) rfl))) (mvT hZ (hw _ (List.mem_of_getElem? (i := 22) rfl))) (notFace_of_selects (args := #[]) (mvT hZ (hw _ (List.mem_of_getElem? (i := 24) rfl)))) (mvT hZ (hw _ (List.mem_of_getElem? (i := 24) rfl))) (mvT hZ (hw _ (List.mem_of_getElem? (i := 23) rfl))) (by decide) (backOf (W := 0) (rm3 l Z a0 hw [] a2 tF h0 n0 Z0 Fk_t) hZ (hw _ (List.mem_of_getElem? (i := 25) rfl)) (hw _ (List.mem_of_getElem? (i := 2) rfl)) (by decide) (by decide)) q2a q2c (g := (mkF m 5 #[.val (.ref a1), .val (.ref a2), .val (.ref a3), .val .null, .val (.long q5), .second, .val .null, .unset] [(.ref a2)])) rfl (by rw [hml]; rfl) (Steps.refl _) (argsL := []) (rest := []) (lenOf pd_16 rfl) rfl (by show 2 * 0 + _ ≤ _; exact Nat.le_of_eq rfl) (hb hby d1_5) (fun _ _ => ⟨rfl, e1, (by decide : 0 + 0 ≤ _), (by decide : 0 + 0 ≤ _)⟩)
  dsimp only [Pt.U, Pt.locs, Pt.cells, Pt.slots] at X2 l2 y2 z2 st2 hQ2
  subst l2 y2 z2
  obtain ⟨rfl, N2q, e2⟩ := hQ2
  have N2 := Fr.app N0 N2q
  refine own_viaW st2 ?_
  show own_GoW p e below s _ _ _ (T2.setTop (mkF m 8 #[.val (.ref a1), .val (.ref a2), .val (.ref a3), .val .null, .val (.long q5), .second, .val .null, .unset] [(.ref tF)]))
  refine own_stepW (B := T2.setTop (mkF m 21 #[.val (.ref a1), .val (.ref a2), .val (.ref a3), .val .null, .val (.long q5), .second, .val .null, .val (.ref tF)] [(.ref tF), (.int (1 : Int32))])) (fun t k => ?_) ?_
  · show Steps p.tables e below (T2.setTop (mkF m 8 #[.val (.ref a1), .val (.ref a2), .val (.ref a3), .val .null, .val (.long q5), .second, .val .null, .unset] [(.ref tF)])) _
    refine XS.astore X2.here hx rfl (hb hby d1_8) rfl rfl (l' := #[.val (.ref a1), .val (.ref a2), .val (.ref a3), .val .null, .val (.long q5), .second, .val .null, .val (.ref tF)]) rfl ?_
    refine XS.aloadN X2.here hx rfl (hb hby d1_10) rfl rfl ?_
    refine XS.ifnullNo X2.here hx rfl (hb hby d1_11) rfl ?_
    refine XS.iconst X2.here hx rfl (hb hby d1_14) ?_
    refine XS.goto X2.here hx rfl (pc0 := 15) (pc' := 19) rfl (hb hby d1_15) (by decide) (by decide) ?_
    refine XS.aload X2.here hx rfl (hb hby d1_19) rfl rfl ?_
    exact k
  obtain ⟨T3, X3, e3, st3⟩ := getS2 X2 hx hZ hown (host := "") (Or.inl (hw _ (List.mem_of_getElem? (i := 30) rfl))) Via.refl e2 S_R (g := (mkF m 21 #[.val (.ref a1), .val (.ref a2), .val (.ref a3), .val .null, .val (.long q5), .second, .val .null, .val (.ref tF)] [(.ref tF), (.int (1 : Int32))])) rfl (hb hby d1_21)
  refine own_stepW st3 ?_
  show own_GoW p e below s _ _ _ (T3.setTop (mkF m 24 #[.val (.ref a1), .val (.ref a2), .val (.ref a3), .val .null, .val (.long q5), .second, .val .null, .val (.ref tF)] [(.ref tR), (.ref tF), (.int (1 : Int32))]))
  refine own_stepW (B := T3.setTop (mkF m 46 #[.val (.ref a1), .val (.ref a2), .val (.ref a3), .val .null, .val (.long q5), .second, .val .null, .val (.ref tF)] [(.ref tF), (.int (0 : Int32))])) (fun t k => ?_) ?_
  · show Steps p.tables e below (T3.setTop (mkF m 24 #[.val (.ref a1), .val (.ref a2), .val (.ref a3), .val .null, .val (.long q5), .second, .val .null, .val (.ref tF)] [(.ref tR), (.ref tF), (.int (1 : Int32))])) _
    refine Jvm.RoadKit.acmp (g := (mkF m 24 #[.val (.ref a1), .val (.ref a2), .val (.ref a3), .val .null, .val (.long q5), .second, .val .null, .val (.ref tF)] [(.ref tR), (.ref tF), (.int (1 : Int32))])) X3 hx rfl rfl rfl (pc0 := 24) (pc' := 27) (same := false) rfl (hb hby d1_24) rfl (decide_eq_false fun q => nFR (Value.ref.inj q)) (by decide) (by decide) ?_
    refine XS.iconst X3.here hx rfl (hb hby d1_27) ?_
    refine XS.goto X3.here hx rfl (pc0 := 28) (pc' := 32) rfl (hb hby d1_28) (by decide) (by decide) ?_
    refine XS.icmpNo X3.here hx rfl (hb hby d1_32) rfl (teq (by decide : ((1 : Int32) = (1 : Int32)))).2 ?_
    refine XS.aloadN X3.here hx rfl (hb hby d1_35) rfl rfl ?_
    refine XS.ifnullYes X3.here hx rfl (pc0 := 36) (pc' := 43) rfl (hb hby d1_36) rfl (by decide) (by decide) ?_
    refine XS.iconst X3.here hx rfl (hb hby d1_43) ?_
    refine XS.aload X3.here hx rfl (hb hby d1_44) rfl rfl ?_
    exact k
  obtain ⟨T4, X4, e4, st4⟩ := getS2 X3 hx hZ hown (host := "") (Or.inl (hw _ (List.mem_of_getElem? (i := 32) rfl))) Via.refl e3 S_L (g := (mkF m 46 #[.val (.ref a1), .val (.ref a2), .val (.ref a3), .val .null, .val (.long q5), .second, .val .null, .val (.ref tF)] [(.ref tF), (.int (0 : Int32))])) rfl (hb hby d1_46)
  refine own_stepW st4 ?_
  show own_GoW p e below s _ _ _ (T4.setTop (mkF m 49 #[.val (.ref a1), .val (.ref a2), .val (.ref a3), .val .null, .val (.long q5), .second, .val .null, .val (.ref tF)] [(.ref tC), (.ref tF), (.int (0 : Int32))]))
  refine own_stepW (B := T4.setTop (mkF m 71 #[.val (.ref a1), .val (.ref a2), .val (.ref a3), .val .null, .val (.long q5), .second, .val .null, .val (.ref tF)] [(.ref a2), (.int (0 : Int32))])) (fun t k => ?_) ?_
  · show Steps p.tables e below (T4.setTop (mkF m 49 #[.val (.ref a1), .val (.ref a2), .val (.ref a3), .val .null, .val (.long q5), .second, .val .null, .val (.ref tF)] [(.ref tC), (.ref tF), (.int (0 : Int32))])) _
    refine Jvm.RoadKit.acmp (g := (mkF m 49 #[.val (.ref a1), .val (.ref a2), .val (.ref a3), .val .null, .val (.long q5), .second, .val .null, .val (.ref tF)] [(.ref tC), (.ref tF), (.int (0 : Int32))])) X4 hx rfl rfl rfl (pc0 := 49) (pc' := 56) (same := false) rfl (hb hby d1_49) rfl (decide_eq_false fun q => nFC (Value.ref.inj q)) (by decide) (by decide) ?_
    refine XS.iconst X4.here hx rfl (hb hby d1_56) ?_
    refine XS.icmpNo X4.here hx rfl (hb hby d1_57) rfl (teq (by decide : ((0 : Int32) = (0 : Int32)))).2 ?_
    refine XS.aload X4.here hx rfl (hb hby d1_60) rfl rfl ?_
    refine XS.ifnullYes X4.here hx rfl (pc0 := 62) (pc' := 69) rfl (hb hby d1_62) rfl (by decide) (by decide) ?_
    refine XS.iconst X4.here hx rfl (hb hby d1_69) ?_
    refine XS.aloadN X4.here hx rfl (hb hby d1_70) rfl rfl ?_
    exact k
  obtain ⟨cq5, kq5, q5a, q5b, q5c⟩ := isOf hZ e4 E_k
  obtain ⟨_, _, ⟨T5, L5, k5, n5⟩, -, X5, ⟨Lc5, hQ5, l5, y5, z5⟩, st5⟩ := X4.virtualBack hx (y := (⟨"com/example/nests/nests/model/Mutation$Kind", "takesValue", "()Z"⟩ : MethodName)) (z := (⟨"com/example/nests/nests/model/Mutation$Kind", "takesValue", "()Z"⟩ : MethodName)) hown (mvT hZ (hw _ (List.mem_of_getElem? (i := 33) rfl))) (mvT hZ (hw _ (List.mem_of_getElem? (i := 34) rfl))) (notFace_of_selects (args := #[]) (mvT hZ (hw _ (List.mem_of_getElem? (i := 36) rfl)))) (mvT hZ (hw _ (List.mem_of_getElem? (i := 36) rfl))) (mvT hZ (hw _ (List.mem_of_getElem? (i := 35) rfl))) (by decide) (backOf (W := 1) (rm4 l Z a0 hw [] a2 (0 : Int32) h0 n0 Z0 Fk_v rfl) hZ (hw _ (List.mem_of_getElem? (i := 37) rfl)) (hw _ (List.mem_of_getElem? (i := 2) rfl)) (by decide) (by decide)) q5a q5c (g := (mkF m 71 #[.val (.ref a1), .val (.ref a2), .val (.ref a3), .val .null, .val (.long q5), .second, .val .null, .val (.ref tF)] [(.ref a2), (.int (0 : Int32))])) rfl (by rw [hml]; rfl) (Steps.refl _) (argsL := []) (rest := [(.int (0 : Int32))]) (lenOf pd_6 rfl) rfl (by show 2 * 0 + _ ≤ _; exact Nat.le_of_eq rfl) (hb hby d1_71) (fun _ _ => ⟨rfl, e4, (by decide : 0 + 0 ≤ _), (by decide : 0 + 0 ≤ _)⟩)
  dsimp only [Pt.U, Pt.locs, Pt.cells, Pt.slots] at X5 l5 y5 z5 st5 hQ5
  subst l5 y5 z5
  obtain ⟨rfl, N5q, e5⟩ := hQ5
  have N5 := Fr.app N2 N5q
  refine own_viaW st5 ?_
  show own_GoW p e below s _ _ _ (T5.setTop (mkF m 74 #[.val (.ref a1), .val (.ref a2), .val (.ref a3), .val .null, .val (.long q5), .second, .val .null, .val (.ref tF)] [(.int (0 : Int32)), (.int (0 : Int32))]))
  refine own_stepW (B := T5.setTop (mkF m 81 #[.val (.ref a1), .val (.ref a2), .val (.ref a3), .val .null, .val (.long q5), .second, .val .null, .val (.ref tF)] [(.int (lcmpW q5 (0 : Int64)))])) (fun t k => ?_) ?_
  · show Steps p.tables e below (T5.setTop (mkF m 74 #[.val (.ref a1), .val (.ref a2), .val (.ref a3), .val .null, .val (.long q5), .second, .val .null, .val (.ref tF)] [(.int (0 : Int32)), (.int (0 : Int32))])) _
    refine XS.icmpNo X5.here hx rfl (hb hby d1_74) rfl (teq (by decide : ((0 : Int32) = (0 : Int32)))).2 ?_
    refine XS.lload X5.here hx rfl (hb hby d1_77) rfl ?_
    refine XS.lconst X5.here hx rfl (hb hby d1_79) ?_
    refine XS.lcmp X5.here hx rfl (hb hby d1_80) rfl ?_
    exact k
  by_cases hq : q5 = (0 : Int64)
  · refine own_stepW (B := T5.setTop (mkF m 113 #[.val (.ref a1), .val (.ref a2), .val (.ref a3), .val .null, .val (.long q5), .second, .val .null, .val (.ref tF)] [(.ref a3)])) (fun t k => ?_) ?_
    · show Steps p.tables e below (T5.setTop (mkF m 81 #[.val (.ref a1), .val (.ref a2), .val (.ref a3), .val .null, .val (.long q5), .second, .val .null, .val (.ref tF)] [(.int (lcmpW q5 (0 : Int64)))])) _
      refine XS.ifYes X5.here hx rfl (pc0 := 81) (pc' := 108) rfl (hb hby d1_81) rfl ((if0 _ _).trans (teq ((lw_eq _ _).mpr hq)).1) (by decide) (by decide) ?_
      refine XS.aloadN X5.here hx rfl (hb hby d1_108) rfl rfl ?_
      refine XS.ifnullNo X5.here hx rfl (hb hby d1_109) rfl ?_
      refine XS.aloadN X5.here hx rfl (hb hby d1_112) rfl rfl ?_
      exact k
    obtain ⟨_, _, ⟨T6, L6, k6, n6⟩, -, X6, hSx6, gx6, ⟨Lc6, hQ6, l6, y6, z6⟩, st6⟩ := callSS X5 hx (y := (⟨"com/example/nests/nests/model/Cell", "checkFamily", "(Ljava/lang/String;)V"⟩ : MethodName)) hown (mvT hZ (hw _ (List.mem_of_getElem? (i := 40) rfl))) (mvT hZ (hw _ (List.mem_of_getElem? (i := 41) rfl))) (mvT hZ (hw _ (List.mem_of_getElem? (i := 42) rfl))) (mvT hZ (hw _ (List.mem_of_getElem? (i := 43) rfl))) (by decide) (backOfS (W := 0) (rm5 l Z a0 hw [] a3 cs vf b k h0 n0 Z0 P_0 P_1 P_2 V_b S_C hcs S_F hvf) hZ (hw _ (List.mem_of_getElem? (i := 43) rfl)) (hw _ (List.mem_of_getElem? (i := 42) rfl)) (by decide) (by decide)) (g := (mkF m 113 #[.val (.ref a1), .val (.ref a2), .val (.ref a3), .val .null, .val (.long q5), .second, .val .null, .val (.ref tF)] [(.ref a3)])) rfl (by rw [hml]; rfl) (argsL := [(.ref a3)]) (rest := []) (lenOf pd_17 rfl) rfl (by show 2 * 0 + _ ≤ _; exact Nat.le_of_eq rfl) (hb hby d1_113) (fun _ _ => ⟨rfl, e5, (by decide : 0 + 2 ≤ _), (by decide : 0 + 28 ≤ _)⟩)
    dsimp only [Pt.U, Pt.locs, Pt.cells, Pt.slots] at X6 l6 y6 z6 st6 hQ6 hSx6 gx6
    subst l6 y6 z6
    obtain ⟨rfl, N6q, K6⟩ := hQ6
    have N6 := Fr.app N5 N6q
    refine own_viaW st6 ?_
    obtain ⟨X6, hS6, hZ, hown⟩ := rebS hS0 (by rw [e5]; exact hk0) X6 hSx6 gx6 hZ hown
    show own_GoW p e below s _ _ _ (T6.setTop (mkF m 116 #[.val (.ref a1), .val (.ref a2), .val (.ref a3), .val .null, .val (.long q5), .second, .val .null, .val (.ref tF)] []))
    have KK6 : Keep h0 T6.heap [a1] := KK0.trans K6 all0
    refine own_stepW (B := T6.setTop (mkF m 118 #[.val (.ref a1), .val (.ref a2), .val (.ref a3), .val .null, .val (.long q5), .second, .val .null, .val (.ref tF)] [(.ref a2), (.ref a1)])) (fun t k => ?_) ?_
    · show Steps p.tables e below (T6.setTop (mkF m 116 #[.val (.ref a1), .val (.ref a2), .val (.ref a3), .val .null, .val (.long q5), .second, .val .null, .val (.ref tF)] [])) _
      refine XS.aloadN X6.here hx rfl (hb hby d1_116) rfl rfl ?_
      refine XS.aloadN X6.here hx rfl (hb hby d1_117) rfl rfl ?_
      exact k
    obtain ⟨T7, h7, X7, e7, W7, st7⟩ := putF X6 hx hZ hown (host := "") (Or.inl (hw _ (List.mem_of_getElem? (i := 92) rfl))) Via.refl rfl (F_0.keep K6 nin0) (E_a1.keep K6) (Or.inr ⟨(hw _ (List.mem_of_getElem? (i := 93) rfl)), rfl, hnm⟩) (hw _ (List.mem_of_getElem? (i := 13) rfl)) (ty := (.object "com/example/nests/nests/model/Mutation$Kind")) (by decide) rfl rfl (g := (mkF m 118 #[.val (.ref a1), .val (.ref a2), .val (.ref a3), .val .null, .val (.long q5), .second, .val .null, .val (.ref tF)] [(.ref a2), (.ref a1)])) rfl rfl (hb hby d1_118)
    have Fw7 := (F_0.keep K6 nin0).same W7
    have K7 : Keep h0 h7 [a1] := KK6.wr W7 (Or.inl (by simp))
    have N7 := Fr.snoc X7 N6 g_a1
    refine own_stepW st7 ?_
    show own_GoW p e below s _ _ _ (T7.setTop (mkF m 121 #[.val (.ref a1), .val (.ref a2), .val (.ref a3), .val .null, .val (.long q5), .second, .val .null, .val (.ref tF)] []))
    refine own_stepW (B := T7.setTop (mkF m 123 #[.val (.ref a1), .val (.ref a2), .val (.ref a3), .val .null, .val (.long q5), .second, .val .null, .val (.ref tF)] [(.ref a3), (.ref a1)])) (fun t k => ?_) ?_
    · show Steps p.tables e below (T7.setTop (mkF m 121 #[.val (.ref a1), .val (.ref a2), .val (.ref a3), .val .null, .val (.long q5), .second, .val .null, .val (.ref tF)] [])) _
      refine XS.aloadN X7.here hx rfl (hb hby d1_121) rfl rfl ?_
      refine XS.aloadN X7.here hx rfl (hb hby d1_122) rfl rfl ?_
      exact k
    obtain ⟨T8, h8, X8, e8, W8, st8⟩ := putF X7 hx hZ hown (host := "") (Or.inl (hw _ (List.mem_of_getElem? (i := 94) rfl))) Via.refl e7 ((F_1.keep K6 nin0).other W7 (Or.inr (slot_ne (Or.inr (hw _ (List.mem_of_getElem? (i := 95) rfl))) (Or.inr (hw _ (List.mem_of_getElem? (i := 93) rfl))) (by decide) (t := (.object "java/lang/String")) (t' := (.object "com/example/nests/nests/model/Mutation$Kind")) (by decide) (by decide)))) ((E_a1.keep K6).wr W7) (Or.inr ⟨(hw _ (List.mem_of_getElem? (i := 95) rfl)), rfl, hnm⟩) (hw _ (List.mem_of_getElem? (i := 13) rfl)) (ty := (.object "java/lang/String")) (by decide) rfl rfl (g := (mkF m 123 #[.val (.ref a1), .val (.ref a2), .val (.ref a3), .val .null, .val (.long q5), .second, .val .null, .val (.ref tF)] [(.ref a3), (.ref a1)])) rfl rfl (hb hby d1_123)
    have Fw8 := ((F_1.keep K6 nin0).other W7 (Or.inr (slot_ne (Or.inr (hw _ (List.mem_of_getElem? (i := 95) rfl))) (Or.inr (hw _ (List.mem_of_getElem? (i := 93) rfl))) (by decide) (t := (.object "java/lang/String")) (t' := (.object "com/example/nests/nests/model/Mutation$Kind")) (by decide) (by decide)))).same W8
    have K8 : Keep h0 h8 [a1] := K7.wr W8 (Or.inl (by simp))
    have N8 := Fr.snoc X8 N7 g_a1
    refine own_stepW st8 ?_
    show own_GoW p e below s _ _ _ (T8.setTop (mkF m 126 #[.val (.ref a1), .val (.ref a2), .val (.ref a3), .val .null, .val (.long q5), .second, .val .null, .val (.ref tF)] []))
    refine own_stepW (B := T8.setTop (mkF m 142 #[.val (.ref a1), .val (.ref a2), .val (.ref a3), .val .null, .val (.long q5), .second, .val .null, .val (.ref tF)] [.null, (.ref a1)])) (fun t k => ?_) ?_
    · show Steps p.tables e below (T8.setTop (mkF m 126 #[.val (.ref a1), .val (.ref a2), .val (.ref a3), .val .null, .val (.long q5), .second, .val .null, .val (.ref tF)] [])) _
      refine XS.aloadN X8.here hx rfl (hb hby d1_126) rfl rfl ?_
      refine XS.aloadN X8.here hx rfl (hb hby d1_127) rfl rfl ?_
      refine XS.ifnonnullNo X8.here hx rfl (hb hby d1_128) rfl ?_
      refine XS.aconstNull X8.here hx rfl (hb hby d1_131) ?_
      refine XS.goto X8.here hx rfl (pc0 := 132) (pc' := 142) rfl (hb hby d1_132) (by decide) (by decide) ?_
      exact k
    obtain ⟨T9, h9, X9, e9, W9, st9⟩ := putF X8 hx hZ hown (host := "") (Or.inl (hw _ (List.mem_of_getElem? (i := 105) rfl))) Via.refl e8 (((F_2.keep K6 nin0).other W7 (Or.inr (slot_ne (Or.inr (hw _ (List.mem_of_getElem? (i := 106) rfl))) (Or.inr (hw _ (List.mem_of_getElem? (i := 93) rfl))) (by decide) (t := (.array .byte)) (t' := (.object "com/example/nests/nests/model/Mutation$Kind")) (by decide) (by decide)))).other W8 (Or.inr (slot_ne (Or.inr (hw _ (List.mem_of_getElem? (i := 106) rfl))) (Or.inr (hw _ (List.mem_of_getElem? (i := 95) rfl))) (by decide) (t := (.array .byte)) (t' := (.object "java/lang/String")) (by decide) (by decide)))) (((E_a1.keep K6).wr W7).wr W8) (Or.inr ⟨(hw _ (List.mem_of_getElem? (i := 106) rfl)), rfl, hnm⟩) (hw _ (List.mem_of_getElem? (i := 13) rfl)) (ty := (.array .byte)) (by decide) rfl rfl (g := (mkF m 142 #[.val (.ref a1), .val (.ref a2), .val (.ref a3), .val .null, .val (.long q5), .second, .val .null, .val (.ref tF)] [.null, (.ref a1)])) rfl rfl (hb hby d1_142)
    have Fw9 := (((F_2.keep K6 nin0).other W7 (Or.inr (slot_ne (Or.inr (hw _ (List.mem_of_getElem? (i := 106) rfl))) (Or.inr (hw _ (List.mem_of_getElem? (i := 93) rfl))) (by decide) (t := (.array .byte)) (t' := (.object "com/example/nests/nests/model/Mutation$Kind")) (by decide) (by decide)))).other W8 (Or.inr (slot_ne (Or.inr (hw _ (List.mem_of_getElem? (i := 106) rfl))) (Or.inr (hw _ (List.mem_of_getElem? (i := 95) rfl))) (by decide) (t := (.array .byte)) (t' := (.object "java/lang/String")) (by decide) (by decide)))).same W9
    have K9 : Keep h0 h9 [a1] := K8.wr W9 (Or.inl (by simp))
    have N9 := Fr.snoc X9 N8 g_a1
    refine own_stepW st9 ?_
    show own_GoW p e below s _ _ _ (T9.setTop (mkF m 145 #[.val (.ref a1), .val (.ref a2), .val (.ref a3), .val .null, .val (.long q5), .second, .val .null, .val (.ref tF)] []))
    refine own_stepW (B := T9.setTop (mkF m 148 #[.val (.ref a1), .val (.ref a2), .val (.ref a3), .val .null, .val (.long q5), .second, .val .null, .val (.ref tF)] [(.long q5), (.ref a1)])) (fun t k => ?_) ?_
    · show Steps p.tables e below (T9.setTop (mkF m 145 #[.val (.ref a1), .val (.ref a2), .val (.ref a3), .val .null, .val (.long q5), .second, .val .null, .val (.ref tF)] [])) _
      refine XS.aloadN X9.here hx rfl (hb hby d1_145) rfl rfl ?_
      refine XS.lload X9.here hx rfl (hb hby d1_146) rfl ?_
      exact k
    obtain ⟨T10, h10, X10, e10, W10, st10⟩ := putF X9 hx hZ hown (host := "") (Or.inl (hw _ (List.mem_of_getElem? (i := 107) rfl))) Via.refl e9 ((((F_3.keep K6 nin0).other W7 (Or.inr (slot_ne (Or.inr (hw _ (List.mem_of_getElem? (i := 108) rfl))) (Or.inr (hw _ (List.mem_of_getElem? (i := 93) rfl))) (by decide) (t := .long) (t' := (.object "com/example/nests/nests/model/Mutation$Kind")) (by decide) (by decide)))).other W8 (Or.inr (slot_ne (Or.inr (hw _ (List.mem_of_getElem? (i := 108) rfl))) (Or.inr (hw _ (List.mem_of_getElem? (i := 95) rfl))) (by decide) (t := .long) (t' := (.object "java/lang/String")) (by decide) (by decide)))).other W9 (Or.inr (slot_ne (Or.inr (hw _ (List.mem_of_getElem? (i := 108) rfl))) (Or.inr (hw _ (List.mem_of_getElem? (i := 106) rfl))) (by decide) (t := .long) (t' := (.array .byte)) (by decide) (by decide)))) ((((E_a1.keep K6).wr W7).wr W8).wr W9) (Or.inr ⟨(hw _ (List.mem_of_getElem? (i := 108) rfl)), rfl, hnm⟩) (hw _ (List.mem_of_getElem? (i := 13) rfl)) (ty := .long) (by decide) rfl rfl (g := (mkF m 148 #[.val (.ref a1), .val (.ref a2), .val (.ref a3), .val .null, .val (.long q5), .second, .val .null, .val (.ref tF)] [(.long q5), (.ref a1)])) rfl rfl (hb hby d1_148)
    have Fw10 := ((((F_3.keep K6 nin0).other W7 (Or.inr (slot_ne (Or.inr (hw _ (List.mem_of_getElem? (i := 108) rfl))) (Or.inr (hw _ (List.mem_of_getElem? (i := 93) rfl))) (by decide) (t := .long) (t' := (.object "com/example/nests/nests/model/Mutation$Kind")) (by decide) (by decide)))).other W8 (Or.inr (slot_ne (Or.inr (hw _ (List.mem_of_getElem? (i := 108) rfl))) (Or.inr (hw _ (List.mem_of_getElem? (i := 95) rfl))) (by decide) (t := .long) (t' := (.object "java/lang/String")) (by decide) (by decide)))).other W9 (Or.inr (slot_ne (Or.inr (hw _ (List.mem_of_getElem? (i := 108) rfl))) (Or.inr (hw _ (List.mem_of_getElem? (i := 106) rfl))) (by decide) (t := .long) (t' := (.array .byte)) (by decide) (by decide)))).same W10
    have K10 : Keep h0 h10 [a1] := K9.wr W10 (Or.inl (by simp))
    have N10 := Fr.snoc X10 N9 g_a1
    refine own_stepW st10 ?_
    show own_GoW p e below s _ _ _ (T10.setTop (mkF m 151 #[.val (.ref a1), .val (.ref a2), .val (.ref a3), .val .null, .val (.long q5), .second, .val .null, .val (.ref tF)] []))
    refine own_stepW (B := T10.setTop (mkF m 169 #[.val (.ref a1), .val (.ref a2), .val (.ref a3), .val .null, .val (.long q5), .second, .val .null, .val (.ref tF)] [.null, (.ref a1)])) (fun t k => ?_) ?_
    · show Steps p.tables e below (T10.setTop (mkF m 151 #[.val (.ref a1), .val (.ref a2), .val (.ref a3), .val .null, .val (.long q5), .second, .val .null, .val (.ref tF)] [])) _
      refine XS.aloadN X10.here hx rfl (hb hby d1_151) rfl rfl ?_
      refine XS.aload X10.here hx rfl (hb hby d1_152) rfl rfl ?_
      refine XS.ifnonnullNo X10.here hx rfl (hb hby d1_154) rfl ?_
      refine XS.aconstNull X10.here hx rfl (hb hby d1_157) ?_
      refine XS.goto X10.here hx rfl (pc0 := 158) (pc' := 169) rfl (hb hby d1_158) (by decide) (by decide) ?_
      exact k
    obtain ⟨T11, h11, X11, e11, W11, st11⟩ := putF X10 hx hZ hown (host := "") (Or.inl (hw _ (List.mem_of_getElem? (i := 109) rfl))) Via.refl e10 (((((F_4.keep K6 nin0).other W7 (Or.inr (slot_ne (Or.inr (hw _ (List.mem_of_getElem? (i := 110) rfl))) (Or.inr (hw _ (List.mem_of_getElem? (i := 93) rfl))) (by decide) (t := (.array .byte)) (t' := (.object "com/example/nests/nests/model/Mutation$Kind")) (by decide) (by decide)))).other W8 (Or.inr (slot_ne (Or.inr (hw _ (List.mem_of_getElem? (i := 110) rfl))) (Or.inr (hw _ (List.mem_of_getElem? (i := 95) rfl))) (by decide) (t := (.array .byte)) (t' := (.object "java/lang/String")) (by decide) (by decide)))).other W9 (Or.inr (slot_ne (Or.inr (hw _ (List.mem_of_getElem? (i := 110) rfl))) (Or.inr (hw _ (List.mem_of_getElem? (i := 106) rfl))) (by decide) (t := (.array .byte)) (t' := (.array .byte)) (by decide) (by decide)))).other W10 (Or.inr (slot_ne (Or.inr (hw _ (List.mem_of_getElem? (i := 110) rfl))) (Or.inr (hw _ (List.mem_of_getElem? (i := 108) rfl))) (by decide) (t := (.array .byte)) (t' := .long) (by decide) (by decide)))) (((((E_a1.keep K6).wr W7).wr W8).wr W9).wr W10) (Or.inr ⟨(hw _ (List.mem_of_getElem? (i := 110) rfl)), rfl, hnm⟩) (hw _ (List.mem_of_getElem? (i := 13) rfl)) (ty := (.array .byte)) (by decide) rfl rfl (g := (mkF m 169 #[.val (.ref a1), .val (.ref a2), .val (.ref a3), .val .null, .val (.long q5), .second, .val .null, .val (.ref tF)] [.null, (.ref a1)])) rfl rfl (hb hby d1_169)
    have Fw11 := (((((F_4.keep K6 nin0).other W7 (Or.inr (slot_ne (Or.inr (hw _ (List.mem_of_getElem? (i := 110) rfl))) (Or.inr (hw _ (List.mem_of_getElem? (i := 93) rfl))) (by decide) (t := (.array .byte)) (t' := (.object "com/example/nests/nests/model/Mutation$Kind")) (by decide) (by decide)))).other W8 (Or.inr (slot_ne (Or.inr (hw _ (List.mem_of_getElem? (i := 110) rfl))) (Or.inr (hw _ (List.mem_of_getElem? (i := 95) rfl))) (by decide) (t := (.array .byte)) (t' := (.object "java/lang/String")) (by decide) (by decide)))).other W9 (Or.inr (slot_ne (Or.inr (hw _ (List.mem_of_getElem? (i := 110) rfl))) (Or.inr (hw _ (List.mem_of_getElem? (i := 106) rfl))) (by decide) (t := (.array .byte)) (t' := (.array .byte)) (by decide) (by decide)))).other W10 (Or.inr (slot_ne (Or.inr (hw _ (List.mem_of_getElem? (i := 110) rfl))) (Or.inr (hw _ (List.mem_of_getElem? (i := 108) rfl))) (by decide) (t := (.array .byte)) (t' := .long) (by decide) (by decide)))).same W11
    have K11 : Keep h0 h11 [a1] := K10.wr W11 (Or.inl (by simp))
    have N11 := Fr.snoc X11 N10 g_a1
    refine own_stepW st11 ?_
    show own_GoW p e below s _ _ _ (T11.setTop (mkF m 172 #[.val (.ref a1), .val (.ref a2), .val (.ref a3), .val .null, .val (.long q5), .second, .val .null, .val (.ref tF)] []))
    exact own_retVW X11 hS6 (by rw [e11]; exact (Nat.le_trans (Nat.le_trans (Nat.le_trans (Nat.le_trans (Nat.le_trans (Nat.le_refl T6.heap.size) (Keep.of_wr W7).1) (Keep.of_wr W8).1) (Keep.of_wr W9).1) (Keep.of_wr W10).1) (Keep.of_wr W11).1)) hx Bd.notSynchronized Bd.returns (hb hby d1_172) ⟨rfl, N11, by rw [e11]; exact K11, by rw [e11]; exact ((((((E_a1.keep K6).wr W7).wr W8).wr W9).wr W10).wr W11), by rw [e11]; exact ((Fw9.other W10 (Or.inr (slot_ne (Or.inr (hw _ (List.mem_of_getElem? (i := 106) rfl))) (Or.inr (hw _ (List.mem_of_getElem? (i := 108) rfl))) (by decide) (t := (.array .byte)) (t' := .long) (by decide) (by decide)))).other W11 (Or.inr (slot_ne (Or.inr (hw _ (List.mem_of_getElem? (i := 106) rfl))) (Or.inr (hw _ (List.mem_of_getElem? (i := 110) rfl))) (by decide) (t := (.array .byte)) (t' := (.array .byte)) (by decide) (by decide)))), by rw [e11]; exact Fw11⟩ (by decide) (by decide)
  · refine own_stepW (B := T5.setTop (mkF m 85 #[.val (.ref a1), .val (.ref a2), .val (.ref a3), .val .null, .val (.long q5), .second, .val .null, .val (.ref tF)] [(.ref a2)])) (fun t k => ?_) ?_
    · show Steps p.tables e below (T5.setTop (mkF m 81 #[.val (.ref a1), .val (.ref a2), .val (.ref a3), .val .null, .val (.long q5), .second, .val .null, .val (.ref tF)] [(.int (lcmpW q5 (0 : Int64)))])) _
      refine XS.ifNo X5.here hx rfl (hb hby d1_81) rfl ((if0 _ _).trans (feq (fun q => hq ((lw_eq _ _).mp q))).1) ?_
      refine XS.aloadN X5.here hx rfl (hb hby d1_84) rfl rfl ?_
      exact k
    obtain ⟨cq12, kq12, q12a, q12b, q12c⟩ := isOf hZ e5 E_k
    obtain ⟨_, _, ⟨T12, L12, k12, n12⟩, -, X12, ⟨Lc12, hQ12, l12, y12, z12⟩, st12⟩ := X5.virtualBack hx (y := (⟨"com/example/nests/nests/model/Mutation$Kind", "takesTimestamp", "()Z"⟩ : MethodName)) (z := (⟨"com/example/nests/nests/model/Mutation$Kind", "takesTimestamp", "()Z"⟩ : MethodName)) hown (mvT hZ (hw _ (List.mem_of_getElem? (i := 122) rfl))) (mvT hZ (hw _ (List.mem_of_getElem? (i := 123) rfl))) (notFace_of_selects (args := #[]) (mvT hZ (hw _ (List.mem_of_getElem? (i := 125) rfl)))) (mvT hZ (hw _ (List.mem_of_getElem? (i := 125) rfl))) (mvT hZ (hw _ (List.mem_of_getElem? (i := 124) rfl))) (by decide) (backOf (W := 0) (rm18 l Z a0 hw [] a2 ts h0 n0 Z0 Fk_s htn) hZ (hw _ (List.mem_of_getElem? (i := 126) rfl)) (hw _ (List.mem_of_getElem? (i := 2) rfl)) (by decide) (by decide)) q12a q12c (g := (mkF m 85 #[.val (.ref a1), .val (.ref a2), .val (.ref a3), .val .null, .val (.long q5), .second, .val .null, .val (.ref tF)] [(.ref a2)])) rfl (by rw [hml]; rfl) (Steps.refl _) (argsL := []) (rest := []) (lenOf pd_6 rfl) rfl (by show 2 * 0 + _ ≤ _; exact Nat.le_of_eq rfl) (hb hby d1_85) (fun _ _ => ⟨rfl, e5, (by decide : 0 + 0 ≤ _), (by decide : 0 + 0 ≤ _)⟩)
    dsimp only [Pt.U, Pt.locs, Pt.cells, Pt.slots] at X12 l12 y12 z12 st12 hQ12
    subst l12 y12 z12
    obtain ⟨rfl, N12q, e12⟩ := hQ12
    have N12 := Fr.app N5 N12q
    refine own_viaW st12 ?_
    show own_GoW p e below s _ _ _ (T12.setTop (mkF m 88 #[.val (.ref a1), .val (.ref a2), .val (.ref a3), .val .null, .val (.long q5), .second, .val .null, .val (.ref tF)] [(.int ts)]))
    refine own_stepW (B := T12.setTop (mkF m 113 #[.val (.ref a1), .val (.ref a2), .val (.ref a3), .val .null, .val (.long q5), .second, .val .null, .val (.ref tF)] [(.ref a3)])) (fun t k => ?_) ?_
    · show Steps p.tables e below (T12.setTop (mkF m 88 #[.val (.ref a1), .val (.ref a2), .val (.ref a3), .val .null, .val (.long q5), .second, .val .null, .val (.ref tF)] [(.int ts)])) _
      refine XS.ifYes X12.here hx rfl (pc0 := 88) (pc' := 108) rfl (hb hby d1_88) rfl ((if0 _ _).trans (feq (by rw [hts.resolve_left hq]; decide)).2) (by decide) (by decide) ?_
      refine XS.aloadN X12.here hx rfl (hb hby d1_108) rfl rfl ?_
      refine XS.ifnullNo X12.here hx rfl (hb hby d1_109) rfl ?_
      refine XS.aloadN X12.here hx rfl (hb hby d1_112) rfl rfl ?_
      exact k
    obtain ⟨_, _, ⟨T13, L13, k13, n13⟩, -, X13, hSx13, gx13, ⟨Lc13, hQ13, l13, y13, z13⟩, st13⟩ := callSS X12 hx (y := (⟨"com/example/nests/nests/model/Cell", "checkFamily", "(Ljava/lang/String;)V"⟩ : MethodName)) hown (mvT hZ (hw _ (List.mem_of_getElem? (i := 40) rfl))) (mvT hZ (hw _ (List.mem_of_getElem? (i := 41) rfl))) (mvT hZ (hw _ (List.mem_of_getElem? (i := 42) rfl))) (mvT hZ (hw _ (List.mem_of_getElem? (i := 43) rfl))) (by decide) (backOfS (W := 0) (rm5 l Z a0 hw [] a3 cs vf b k h0 n0 Z0 P_0 P_1 P_2 V_b S_C hcs S_F hvf) hZ (hw _ (List.mem_of_getElem? (i := 43) rfl)) (hw _ (List.mem_of_getElem? (i := 42) rfl)) (by decide) (by decide)) (g := (mkF m 113 #[.val (.ref a1), .val (.ref a2), .val (.ref a3), .val .null, .val (.long q5), .second, .val .null, .val (.ref tF)] [(.ref a3)])) rfl (by rw [hml]; rfl) (argsL := [(.ref a3)]) (rest := []) (lenOf pd_17 rfl) rfl (by show 2 * 0 + _ ≤ _; exact Nat.le_of_eq rfl) (hb hby d1_113) (fun _ _ => ⟨rfl, e12, (by decide : 0 + 2 ≤ _), (by decide : 0 + 28 ≤ _)⟩)
    dsimp only [Pt.U, Pt.locs, Pt.cells, Pt.slots] at X13 l13 y13 z13 st13 hQ13 hSx13 gx13
    subst l13 y13 z13
    obtain ⟨rfl, N13q, K13⟩ := hQ13
    have N13 := Fr.app N12 N13q
    refine own_viaW st13 ?_
    obtain ⟨X13, hS13, hZ, hown⟩ := rebS hS0 (by rw [e12]; exact hk0) X13 hSx13 gx13 hZ hown
    show own_GoW p e below s _ _ _ (T13.setTop (mkF m 116 #[.val (.ref a1), .val (.ref a2), .val (.ref a3), .val .null, .val (.long q5), .second, .val .null, .val (.ref tF)] []))
    have KK13 : Keep h0 T13.heap [a1] := KK0.trans K13 all0
    refine own_stepW (B := T13.setTop (mkF m 118 #[.val (.ref a1), .val (.ref a2), .val (.ref a3), .val .null, .val (.long q5), .second, .val .null, .val (.ref tF)] [(.ref a2), (.ref a1)])) (fun t k => ?_) ?_
    · show Steps p.tables e below (T13.setTop (mkF m 116 #[.val (.ref a1), .val (.ref a2), .val (.ref a3), .val .null, .val (.long q5), .second, .val .null, .val (.ref tF)] [])) _
      refine XS.aloadN X13.here hx rfl (hb hby d1_116) rfl rfl ?_
      refine XS.aloadN X13.here hx rfl (hb hby d1_117) rfl rfl ?_
      exact k
    obtain ⟨T14, h14, X14, e14, W14, st14⟩ := putF X13 hx hZ hown (host := "") (Or.inl (hw _ (List.mem_of_getElem? (i := 92) rfl))) Via.refl rfl (F_0.keep K13 nin0) (E_a1.keep K13) (Or.inr ⟨(hw _ (List.mem_of_getElem? (i := 93) rfl)), rfl, hnm⟩) (hw _ (List.mem_of_getElem? (i := 13) rfl)) (ty := (.object "com/example/nests/nests/model/Mutation$Kind")) (by decide) rfl rfl (g := (mkF m 118 #[.val (.ref a1), .val (.ref a2), .val (.ref a3), .val .null, .val (.long q5), .second, .val .null, .val (.ref tF)] [(.ref a2), (.ref a1)])) rfl rfl (hb hby d1_118)
    have Fw14 := (F_0.keep K13 nin0).same W14
    have K14 : Keep h0 h14 [a1] := KK13.wr W14 (Or.inl (by simp))
    have N14 := Fr.snoc X14 N13 g_a1
    refine own_stepW st14 ?_
    show own_GoW p e below s _ _ _ (T14.setTop (mkF m 121 #[.val (.ref a1), .val (.ref a2), .val (.ref a3), .val .null, .val (.long q5), .second, .val .null, .val (.ref tF)] []))
    refine own_stepW (B := T14.setTop (mkF m 123 #[.val (.ref a1), .val (.ref a2), .val (.ref a3), .val .null, .val (.long q5), .second, .val .null, .val (.ref tF)] [(.ref a3), (.ref a1)])) (fun t k => ?_) ?_
    · show Steps p.tables e below (T14.setTop (mkF m 121 #[.val (.ref a1), .val (.ref a2), .val (.ref a3), .val .null, .val (.long q5), .second, .val .null, .val (.ref tF)] [])) _
      refine XS.aloadN X14.here hx rfl (hb hby d1_121) rfl rfl ?_
      refine XS.aloadN X14.here hx rfl (hb hby d1_122) rfl rfl ?_
      exact k
    obtain ⟨T15, h15, X15, e15, W15, st15⟩ := putF X14 hx hZ hown (host := "") (Or.inl (hw _ (List.mem_of_getElem? (i := 94) rfl))) Via.refl e14 ((F_1.keep K13 nin0).other W14 (Or.inr (slot_ne (Or.inr (hw _ (List.mem_of_getElem? (i := 95) rfl))) (Or.inr (hw _ (List.mem_of_getElem? (i := 93) rfl))) (by decide) (t := (.object "java/lang/String")) (t' := (.object "com/example/nests/nests/model/Mutation$Kind")) (by decide) (by decide)))) ((E_a1.keep K13).wr W14) (Or.inr ⟨(hw _ (List.mem_of_getElem? (i := 95) rfl)), rfl, hnm⟩) (hw _ (List.mem_of_getElem? (i := 13) rfl)) (ty := (.object "java/lang/String")) (by decide) rfl rfl (g := (mkF m 123 #[.val (.ref a1), .val (.ref a2), .val (.ref a3), .val .null, .val (.long q5), .second, .val .null, .val (.ref tF)] [(.ref a3), (.ref a1)])) rfl rfl (hb hby d1_123)
    have Fw15 := ((F_1.keep K13 nin0).other W14 (Or.inr (slot_ne (Or.inr (hw _ (List.mem_of_getElem? (i := 95) rfl))) (Or.inr (hw _ (List.mem_of_getElem? (i := 93) rfl))) (by decide) (t := (.object "java/lang/String")) (t' := (.object "com/example/nests/nests/model/Mutation$Kind")) (by decide) (by decide)))).same W15
    have K15 : Keep h0 h15 [a1] := K14.wr W15 (Or.inl (by simp))
    have N15 := Fr.snoc X15 N14 g_a1
    refine own_stepW st15 ?_
    show own_GoW p e below s _ _ _ (T15.setTop (mkF m 126 #[.val (.ref a1), .val (.ref a2), .val (.ref a3), .val .null, .val (.long q5), .second, .val .null, .val (.ref tF)] []))
    refine own_stepW (B := T15.setTop (mkF m 142 #[.val (.ref a1), .val (.ref a2), .val (.ref a3), .val .null, .val (.long q5), .second, .val .null, .val (.ref tF)] [.null, (.ref a1)])) (fun t k => ?_) ?_
    · show Steps p.tables e below (T15.setTop (mkF m 126 #[.val (.ref a1), .val (.ref a2), .val (.ref a3), .val .null, .val (.long q5), .second, .val .null, .val (.ref tF)] [])) _
      refine XS.aloadN X15.here hx rfl (hb hby d1_126) rfl rfl ?_
      refine XS.aloadN X15.here hx rfl (hb hby d1_127) rfl rfl ?_
      refine XS.ifnonnullNo X15.here hx rfl (hb hby d1_128) rfl ?_
      refine XS.aconstNull X15.here hx rfl (hb hby d1_131) ?_
      refine XS.goto X15.here hx rfl (pc0 := 132) (pc' := 142) rfl (hb hby d1_132) (by decide) (by decide) ?_
      exact k
    obtain ⟨T16, h16, X16, e16, W16, st16⟩ := putF X15 hx hZ hown (host := "") (Or.inl (hw _ (List.mem_of_getElem? (i := 105) rfl))) Via.refl e15 (((F_2.keep K13 nin0).other W14 (Or.inr (slot_ne (Or.inr (hw _ (List.mem_of_getElem? (i := 106) rfl))) (Or.inr (hw _ (List.mem_of_getElem? (i := 93) rfl))) (by decide) (t := (.array .byte)) (t' := (.object "com/example/nests/nests/model/Mutation$Kind")) (by decide) (by decide)))).other W15 (Or.inr (slot_ne (Or.inr (hw _ (List.mem_of_getElem? (i := 106) rfl))) (Or.inr (hw _ (List.mem_of_getElem? (i := 95) rfl))) (by decide) (t := (.array .byte)) (t' := (.object "java/lang/String")) (by decide) (by decide)))) (((E_a1.keep K13).wr W14).wr W15) (Or.inr ⟨(hw _ (List.mem_of_getElem? (i := 106) rfl)), rfl, hnm⟩) (hw _ (List.mem_of_getElem? (i := 13) rfl)) (ty := (.array .byte)) (by decide) rfl rfl (g := (mkF m 142 #[.val (.ref a1), .val (.ref a2), .val (.ref a3), .val .null, .val (.long q5), .second, .val .null, .val (.ref tF)] [.null, (.ref a1)])) rfl rfl (hb hby d1_142)
    have Fw16 := (((F_2.keep K13 nin0).other W14 (Or.inr (slot_ne (Or.inr (hw _ (List.mem_of_getElem? (i := 106) rfl))) (Or.inr (hw _ (List.mem_of_getElem? (i := 93) rfl))) (by decide) (t := (.array .byte)) (t' := (.object "com/example/nests/nests/model/Mutation$Kind")) (by decide) (by decide)))).other W15 (Or.inr (slot_ne (Or.inr (hw _ (List.mem_of_getElem? (i := 106) rfl))) (Or.inr (hw _ (List.mem_of_getElem? (i := 95) rfl))) (by decide) (t := (.array .byte)) (t' := (.object "java/lang/String")) (by decide) (by decide)))).same W16
    have K16 : Keep h0 h16 [a1] := K15.wr W16 (Or.inl (by simp))
    have N16 := Fr.snoc X16 N15 g_a1
    refine own_stepW st16 ?_
    show own_GoW p e below s _ _ _ (T16.setTop (mkF m 145 #[.val (.ref a1), .val (.ref a2), .val (.ref a3), .val .null, .val (.long q5), .second, .val .null, .val (.ref tF)] []))
    refine own_stepW (B := T16.setTop (mkF m 148 #[.val (.ref a1), .val (.ref a2), .val (.ref a3), .val .null, .val (.long q5), .second, .val .null, .val (.ref tF)] [(.long q5), (.ref a1)])) (fun t k => ?_) ?_
    · show Steps p.tables e below (T16.setTop (mkF m 145 #[.val (.ref a1), .val (.ref a2), .val (.ref a3), .val .null, .val (.long q5), .second, .val .null, .val (.ref tF)] [])) _
      refine XS.aloadN X16.here hx rfl (hb hby d1_145) rfl rfl ?_
      refine XS.lload X16.here hx rfl (hb hby d1_146) rfl ?_
      exact k
    obtain ⟨T17, h17, X17, e17, W17, st17⟩ := putF X16 hx hZ hown (host := "") (Or.inl (hw _ (List.mem_of_getElem? (i := 107) rfl))) Via.refl e16 ((((F_3.keep K13 nin0).other W14 (Or.inr (slot_ne (Or.inr (hw _ (List.mem_of_getElem? (i := 108) rfl))) (Or.inr (hw _ (List.mem_of_getElem? (i := 93) rfl))) (by decide) (t := .long) (t' := (.object "com/example/nests/nests/model/Mutation$Kind")) (by decide) (by decide)))).other W15 (Or.inr (slot_ne (Or.inr (hw _ (List.mem_of_getElem? (i := 108) rfl))) (Or.inr (hw _ (List.mem_of_getElem? (i := 95) rfl))) (by decide) (t := .long) (t' := (.object "java/lang/String")) (by decide) (by decide)))).other W16 (Or.inr (slot_ne (Or.inr (hw _ (List.mem_of_getElem? (i := 108) rfl))) (Or.inr (hw _ (List.mem_of_getElem? (i := 106) rfl))) (by decide) (t := .long) (t' := (.array .byte)) (by decide) (by decide)))) ((((E_a1.keep K13).wr W14).wr W15).wr W16) (Or.inr ⟨(hw _ (List.mem_of_getElem? (i := 108) rfl)), rfl, hnm⟩) (hw _ (List.mem_of_getElem? (i := 13) rfl)) (ty := .long) (by decide) rfl rfl (g := (mkF m 148 #[.val (.ref a1), .val (.ref a2), .val (.ref a3), .val .null, .val (.long q5), .second, .val .null, .val (.ref tF)] [(.long q5), (.ref a1)])) rfl rfl (hb hby d1_148)
    have Fw17 := ((((F_3.keep K13 nin0).other W14 (Or.inr (slot_ne (Or.inr (hw _ (List.mem_of_getElem? (i := 108) rfl))) (Or.inr (hw _ (List.mem_of_getElem? (i := 93) rfl))) (by decide) (t := .long) (t' := (.object "com/example/nests/nests/model/Mutation$Kind")) (by decide) (by decide)))).other W15 (Or.inr (slot_ne (Or.inr (hw _ (List.mem_of_getElem? (i := 108) rfl))) (Or.inr (hw _ (List.mem_of_getElem? (i := 95) rfl))) (by decide) (t := .long) (t' := (.object "java/lang/String")) (by decide) (by decide)))).other W16 (Or.inr (slot_ne (Or.inr (hw _ (List.mem_of_getElem? (i := 108) rfl))) (Or.inr (hw _ (List.mem_of_getElem? (i := 106) rfl))) (by decide) (t := .long) (t' := (.array .byte)) (by decide) (by decide)))).same W17
    have K17 : Keep h0 h17 [a1] := K16.wr W17 (Or.inl (by simp))
    have N17 := Fr.snoc X17 N16 g_a1
    refine own_stepW st17 ?_
    show own_GoW p e below s _ _ _ (T17.setTop (mkF m 151 #[.val (.ref a1), .val (.ref a2), .val (.ref a3), .val .null, .val (.long q5), .second, .val .null, .val (.ref tF)] []))
    refine own_stepW (B := T17.setTop (mkF m 169 #[.val (.ref a1), .val (.ref a2), .val (.ref a3), .val .null, .val (.long q5), .second, .val .null, .val (.ref tF)] [.null, (.ref a1)])) (fun t k => ?_) ?_
    · show Steps p.tables e below (T17.setTop (mkF m 151 #[.val (.ref a1), .val (.ref a2), .val (.ref a3), .val .null, .val (.long q5), .second, .val .null, .val (.ref tF)] [])) _
      refine XS.aloadN X17.here hx rfl (hb hby d1_151) rfl rfl ?_
      refine XS.aload X17.here hx rfl (hb hby d1_152) rfl rfl ?_
      refine XS.ifnonnullNo X17.here hx rfl (hb hby d1_154) rfl ?_
      refine XS.aconstNull X17.here hx rfl (hb hby d1_157) ?_
      refine XS.goto X17.here hx rfl (pc0 := 158) (pc' := 169) rfl (hb hby d1_158) (by decide) (by decide) ?_
      exact k
    obtain ⟨T18, h18, X18, e18, W18, st18⟩ := putF X17 hx hZ hown (host := "") (Or.inl (hw _ (List.mem_of_getElem? (i := 109) rfl))) Via.refl e17 (((((F_4.keep K13 nin0).other W14 (Or.inr (slot_ne (Or.inr (hw _ (List.mem_of_getElem? (i := 110) rfl))) (Or.inr (hw _ (List.mem_of_getElem? (i := 93) rfl))) (by decide) (t := (.array .byte)) (t' := (.object "com/example/nests/nests/model/Mutation$Kind")) (by decide) (by decide)))).other W15 (Or.inr (slot_ne (Or.inr (hw _ (List.mem_of_getElem? (i := 110) rfl))) (Or.inr (hw _ (List.mem_of_getElem? (i := 95) rfl))) (by decide) (t := (.array .byte)) (t' := (.object "java/lang/String")) (by decide) (by decide)))).other W16 (Or.inr (slot_ne (Or.inr (hw _ (List.mem_of_getElem? (i := 110) rfl))) (Or.inr (hw _ (List.mem_of_getElem? (i := 106) rfl))) (by decide) (t := (.array .byte)) (t' := (.array .byte)) (by decide) (by decide)))).other W17 (Or.inr (slot_ne (Or.inr (hw _ (List.mem_of_getElem? (i := 110) rfl))) (Or.inr (hw _ (List.mem_of_getElem? (i := 108) rfl))) (by decide) (t := (.array .byte)) (t' := .long) (by decide) (by decide)))) (((((E_a1.keep K13).wr W14).wr W15).wr W16).wr W17) (Or.inr ⟨(hw _ (List.mem_of_getElem? (i := 110) rfl)), rfl, hnm⟩) (hw _ (List.mem_of_getElem? (i := 13) rfl)) (ty := (.array .byte)) (by decide) rfl rfl (g := (mkF m 169 #[.val (.ref a1), .val (.ref a2), .val (.ref a3), .val .null, .val (.long q5), .second, .val .null, .val (.ref tF)] [.null, (.ref a1)])) rfl rfl (hb hby d1_169)
    have Fw18 := (((((F_4.keep K13 nin0).other W14 (Or.inr (slot_ne (Or.inr (hw _ (List.mem_of_getElem? (i := 110) rfl))) (Or.inr (hw _ (List.mem_of_getElem? (i := 93) rfl))) (by decide) (t := (.array .byte)) (t' := (.object "com/example/nests/nests/model/Mutation$Kind")) (by decide) (by decide)))).other W15 (Or.inr (slot_ne (Or.inr (hw _ (List.mem_of_getElem? (i := 110) rfl))) (Or.inr (hw _ (List.mem_of_getElem? (i := 95) rfl))) (by decide) (t := (.array .byte)) (t' := (.object "java/lang/String")) (by decide) (by decide)))).other W16 (Or.inr (slot_ne (Or.inr (hw _ (List.mem_of_getElem? (i := 110) rfl))) (Or.inr (hw _ (List.mem_of_getElem? (i := 106) rfl))) (by decide) (t := (.array .byte)) (t' := (.array .byte)) (by decide) (by decide)))).other W17 (Or.inr (slot_ne (Or.inr (hw _ (List.mem_of_getElem? (i := 110) rfl))) (Or.inr (hw _ (List.mem_of_getElem? (i := 108) rfl))) (by decide) (t := (.array .byte)) (t' := .long) (by decide) (by decide)))).same W18
    have K18 : Keep h0 h18 [a1] := K17.wr W18 (Or.inl (by simp))
    have N18 := Fr.snoc X18 N17 g_a1
    refine own_stepW st18 ?_
    show own_GoW p e below s _ _ _ (T18.setTop (mkF m 172 #[.val (.ref a1), .val (.ref a2), .val (.ref a3), .val .null, .val (.long q5), .second, .val .null, .val (.ref tF)] []))
    exact own_retVW X18 hS13 (by rw [e18]; exact (Nat.le_trans (Nat.le_trans (Nat.le_trans (Nat.le_trans (Nat.le_trans (Nat.le_refl T13.heap.size) (Keep.of_wr W14).1) (Keep.of_wr W15).1) (Keep.of_wr W16).1) (Keep.of_wr W17).1) (Keep.of_wr W18).1)) hx Bd.notSynchronized Bd.returns (hb hby d1_172) ⟨rfl, N18, by rw [e18]; exact K18, by rw [e18]; exact ((((((E_a1.keep K13).wr W14).wr W15).wr W16).wr W17).wr W18), by rw [e18]; exact ((Fw16.other W17 (Or.inr (slot_ne (Or.inr (hw _ (List.mem_of_getElem? (i := 106) rfl))) (Or.inr (hw _ (List.mem_of_getElem? (i := 108) rfl))) (by decide) (t := (.array .byte)) (t' := .long) (by decide) (by decide)))).other W18 (Or.inr (slot_ne (Or.inr (hw _ (List.mem_of_getElem? (i := 106) rfl))) (Or.inr (hw _ (List.mem_of_getElem? (i := 110) rfl))) (by decide) (t := (.array .byte)) (t' := (.array .byte)) (by decide) (by decide)))), by rw [e18]; exact Fw18⟩ (by decide) (by decide)
theorem ef_1rn (m : MethodId) (a1 : Addr) (a2 : Addr) (q5 : Int64) : entryFrame m #[(.ref a1), (.ref a2), .null, .null, (.long q5), .null] 8 = mkF m 0 #[.val (.ref a1), .val (.ref a2), .val .null, .val .null, .val (.long q5), .second, .val .null, .unset] [] := by first | (simp [entryFrame, mkF, argsToLocals, Value.category]; done) | rfl
def Q1rn (Z : State) (a1 : Addr) (a2 : Addr) (q5 : Int64) (u0 : Value) (u1 : Value) (u2 : Value) (u3 : Value) (u4 : Value) (tC : Addr) (tF : Addr) (tR : Addr) (ts : Int32) (h0 : Heap) (n0 : Nat) (v : Option Value) (h : Heap) (L : List Loc) : Prop := v = none ∧ Fr n0 L ∧ Keep h0 h [a1] ∧ Exa Z h a1 "com/example/nests/nests/model/Mutation" ∧ Fld Z h a1 "com/example/nests/nests/model/Mutation" "qualifier" "[B" .null ∧ Fld Z h a1 "com/example/nests/nests/model/Mutation" "value" "[B" .null
set_option maxRecDepth 65536 in
set_option maxHeartbeats 40000000 in
theorem rm1rn (l : Launch) (Z : State) (a0 : Array Value) (hw : ∀ d ∈ tables_1, d.before a0 Z = true) (ws : List Jvm.Cond) (a1 : Addr) (a2 : Addr) (q5 : Int64) (u0 : Value) (u1 : Value) (u2 : Value) (u3 : Value) (u4 : Value) (tC : Addr) (tF : Addr) (tR : Addr) (ts : Int32) (h0 : Heap) (n0 : Nat) (Z0 : n0 ≤ h0.size) (E_a1 : Exa Z h0 a1 "com/example/nests/nests/model/Mutation") (F_0 : Fld Z h0 a1 "com/example/nests/nests/model/Mutation" "kind" "Lcom/example/nests/nests/model/Mutation$Kind;" u0) (F_1 : Fld Z h0 a1 "com/example/nests/nests/model/Mutation" "family" "Ljava/lang/String;" u1) (F_2 : Fld Z h0 a1 "com/example/nests/nests/model/Mutation" "qualifier" "[B" u2) (F_3 : Fld Z h0 a1 "com/example/nests/nests/model/Mutation" "timestamp" "J" u3) (F_4 : Fld Z h0 a1 "com/example/nests/nests/model/Mutation" "value" "[B" u4) (g_a1 : n0 ≤ a1) (E_k : Exa Z h0 a2 "com/example/nests/nests/model/Mutation$Kind") (Fk_t : Fld Z h0 a2 "com/example/nests/nests/model/Mutation$Kind" "target" "Lcom/example/nests/nests/model/Mutation$Target;" (.ref tR)) (Fk_v : Fld Z h0 a2 "com/example/nests/nests/model/Mutation$Kind" "takesValue" "Z" (.int (0 : Int32))) (Fk_s : Fld Z h0 a2 "com/example/nests/nests/model/Mutation$Kind" "takesTimestamp" "Z" (.int ts)) (S_R : Sta Z h0 "com/example/nests/nests/model/Mutation$Target" "ROW" "Lcom/example/nests/nests/model/Mutation$Target;" (.ref tR)) (S_L : Sta Z h0 "com/example/nests/nests/model/Mutation$Target" "COLUMN" "Lcom/example/nests/nests/model/Mutation$Target;" (.ref tC)) (nCR : ¬ (tC = tR)) (nFR : ¬ (tF = tR)) (nFC : ¬ (tF = tC)) (hts : q5 = (0 : Int64) ∨ ts = (1 : Int32)) (htn : nar .boolean ts = ts) :
    MetFree l (⟨"com/example/nests/nests/model/Mutation", "<init>", "(Lcom/example/nests/nests/model/Mutation$Kind;Ljava/lang/String;[BJ[B)V"⟩ : MethodName) (head1 (Jvm.Cond.code (⟨"com/example/nests/nests/model/Mutation", "<init>", "(Lcom/example/nests/nests/model/Mutation$Kind;Ljava/lang/String;[BJ[B)V"⟩ : MethodName) prog_72_method_1_code 8 none :: ws) ({ frames := 1, cells := 0, slots := 0, locals := 13 } : Room)) (fun a U => a = #[(.ref a1), (.ref a2), .null, .null, (.long q5), .null] ∧ Z.Warmed39 U.vm ∧ U.heap = h0) (fun _ _ _ _ _ => True) (fun _ U o U' => ∃ v L, o = .returned v ∧ Q1rn Z a1 a2 q5 u0 u1 u2 u3 u4 tC tF tR ts h0 n0 v U'.heap L ∧ FrameEnd U o U' L ({ frames := 1, cells := 0, slots := 0, locals := 13 } : Room).cells ({ frames := 1, cells := 0, slots := 0, locals := 13 } : Room).slots) := by
  refine MetFree.of_bodySF (plainFor_of_name pn_19) hisR ?_
  intro p e s m args below meth c s₁ Bd hml0 hP hK
  obtain ⟨rfl, hZ, hh⟩ := hP
  have hx := Bd.exec
  have hby := Bd.bytes
  have hml : c.maxLocals = 8 := hml0
  have hown : s.vm.findClass "com/example/nests/nests/model/Mutation" = some m.cls := findClass_of_methodNamed Bd.named
  have hnm := (name_of_methodNamed Bd.named Bd.method).1
  have X0 : Stand p l e ({ frames := 1, cells := 0, slots := 0, locals := 13 } : Room) s m #[(.ref a1), (.ref a2), .null, .null, (.long q5), .null] below meth c s₁ [] 0 0 := Stand.of_body Bd
  have e0 : s₁.heap = h0 := by rw [← hh, Bd.state]; rfl
  have N0 := Fr.nil n0
  skip
  show own_Go p e below s (Q1rn Z a1 a2 q5 u0 u1 u2 u3 u4 tC tF tR ts h0 n0) ({ frames := 1, cells := 0, slots := 0, locals := 13 } : Room).cells ({ frames := 1, cells := 0, slots := 0, locals := 13 } : Room).slots _
  refine own_step (B := s₁.setTop (mkF m 0 #[.val (.ref a1), .val (.ref a2), .val .null, .val .null, .val (.long q5), .second, .val .null, .unset] [])) (fun t k => castTop (ef_1rn m a1 a2 q5) k) ?_
  have KK0 : Keep h0 h0 [a1] := Keep.refl h0 _
  refine own_step (B := s₁.setTop (mkF m 1 #[.val (.ref a1), .val (.ref a2), .val .null, .val .null, .val (.long q5), .second, .val .null, .unset] [(.ref a1)])) (fun t k => ?_) ?_
  · show Steps p.tables e below (s₁.setTop (mkF m 0 #[.val (.ref a1), .val (.ref a2), .val .null, .val .null, .val (.long q5), .second, .val .null, .unset] [])) _
    refine XS.aloadN X0.here hx rfl (hb hby d1_0) rfl rfl ?_
    exact k
  obtain ⟨T1, X1, e1, st1⟩ := initO X0 hx hZ hown (hw _ (List.mem_of_getElem? (i := 18) rfl)) (hw _ (List.mem_of_getElem? (i := 19) rfl)) (hw _ (List.mem_of_getElem? (i := 20) rfl)) e0 (g := (mkF m 1 #[.val (.ref a1), .val (.ref a2), .val .null, .val .null, .val (.long q5), .second, .val .null, .unset] [(.ref a1)])) rfl (by rw [hml]; rfl) rfl (hb hby d1_1) (by decide) (W := 0) (by show 2 * 0 + _ ≤ _; exact Nat.le_of_eq rfl) (by decide)
  refine own_step st1 ?_
  show own_Go p e below s _ _ _ (T1.setTop (mkF m 4 #[.val (.ref a1), .val (.ref a2), .val .null, .val .null, .val (.long q5), .second, .val .null, .unset] []))
  refine own_step (B := T1.setTop (mkF m 5 #[.val (.ref a1), .val (.ref a2), .val .null, .val .null, .val (.long q5), .second, .val .null, .unset] [(.ref a2)])) (fun t k => ?_) ?_
  · show Steps p.tables e below (T1.setTop (mkF m 4 #[.val (.ref a1), .val (.ref a2), .val .null, .val .null, .val (.long q5), .second, .val .null, .unset] [])) _
    refine XS.aloadN X1.here hx rfl (hb hby d1_4) rfl rfl ?_
    exact k
  obtain ⟨cq2, kq2, q2a, q2b, q2c⟩ := isOf hZ e1 E_k
  obtain ⟨_, _, ⟨T2, L2, k2, n2⟩, -, X2, ⟨Lc2, hQ2, l2, y2, z2⟩, st2⟩ := X1.virtualBack hx (y := (⟨"com/example/nests/nests/model/Mutation$Kind", "getTarget", "()Lcom/example/nests/nests/model/Mutation$Target;"⟩ : MethodName)) (z := (⟨"com/example/nests/nests/model/Mutation$Kind", "getTarget", "()Lcom/example/nests/nests/model/Mutation$Target;"⟩ : MethodName)) hown (mvT hZ (hw _ (List.mem_of_getElem? (i := 21) rfl))) (mvT hZ (hw _ (List.mem_of_getElem? (i := 22) rfl))) (notFace_of_selects (args := #[]) (mvT hZ (hw _ (List.mem_of_getElem? (i := 24) rfl)))) (mvT hZ (hw _ (List.mem_of_getElem? (i := 24) rfl))) (mvT hZ (hw _ (List.mem_of_getElem? (i := 23) rfl))) (by decide) (backOf (W := 0) (rm3 l Z a0 hw [] a2 tR h0 n0 Z0 Fk_t) hZ (hw _ (List.mem_of_getElem? (i := 25) rfl)) (hw _ (List.mem_of_getElem? (i := 2) rfl)) (by decide) (by decide)) q2a q2c (g := (mkF m 5 #[.val (.ref a1), .val (.ref a2), .val .null, .val .null, .val (.long q5), .second, .val .null, .unset] [(.ref a2)])) rfl (by rw [hml]; rfl) (Steps.refl _) (argsL := []) (rest := []) (lenOf pd_16 rfl) rfl (by show 2 * 0 + _ ≤ _; exact Nat.le_of_eq rfl) (hb hby d1_5) (fun _ _ => ⟨rfl, e1, (by decide : 0 + 0 ≤ _), (by decide : 0 + 0 ≤ _)⟩)
  dsimp only [Pt.U, Pt.locs, Pt.cells, Pt.slots] at X2 l2 y2 z2 st2 hQ2
  subst l2 y2 z2
  obtain ⟨rfl, N2q, e2⟩ := hQ2
  have N2 := Fr.app N0 N2q
  refine own_via st2 ?_
  show own_Go p e below s _ _ _ (T2.setTop (mkF m 8 #[.val (.ref a1), .val (.ref a2), .val .null, .val .null, .val (.long q5), .second, .val .null, .unset] [(.ref tR)]))
  refine own_step (B := T2.setTop (mkF m 21 #[.val (.ref a1), .val (.ref a2), .val .null, .val .null, .val (.long q5), .second, .val .null, .val (.ref tR)] [(.ref tR), (.int (0 : Int32))])) (fun t k => ?_) ?_
  · show Steps p.tables e below (T2.setTop (mkF m 8 #[.val (.ref a1), .val (.ref a2), .val .null, .val .null, .val (.long q5), .second, .val .null, .unset] [(.ref tR)])) _
    refine XS.astore X2.here hx rfl (hb hby d1_8) rfl rfl (l' := #[.val (.ref a1), .val (.ref a2), .val .null, .val .null, .val (.long q5), .second, .val .null, .val (.ref tR)]) rfl ?_
    refine XS.aloadN X2.here hx rfl (hb hby d1_10) rfl rfl ?_
    refine XS.ifnullYes X2.here hx rfl (pc0 := 11) (pc' := 18) rfl (hb hby d1_11) rfl (by decide) (by decide) ?_
    refine XS.iconst X2.here hx rfl (hb hby d1_18) ?_
    refine XS.aload X2.here hx rfl (hb hby d1_19) rfl rfl ?_
    exact k
  obtain ⟨T3, X3, e3, st3⟩ := getS2 X2 hx hZ hown (host := "") (Or.inl (hw _ (List.mem_of_getElem? (i := 30) rfl))) Via.refl e2 S_R (g := (mkF m 21 #[.val (.ref a1), .val (.ref a2), .val .null, .val .null, .val (.long q5), .second, .val .null, .val (.ref tR)] [(.ref tR), (.int (0 : Int32))])) rfl (hb hby d1_21)
  refine own_step st3 ?_
  show own_Go p e below s _ _ _ (T3.setTop (mkF m 24 #[.val (.ref a1), .val (.ref a2), .val .null, .val .null, .val (.long q5), .second, .val .null, .val (.ref tR)] [(.ref tR), (.ref tR), (.int (0 : Int32))]))
  refine own_step (B := T3.setTop (mkF m 46 #[.val (.ref a1), .val (.ref a2), .val .null, .val .null, .val (.long q5), .second, .val .null, .val (.ref tR)] [(.ref tR), (.int (0 : Int32))])) (fun t k => ?_) ?_
  · show Steps p.tables e below (T3.setTop (mkF m 24 #[.val (.ref a1), .val (.ref a2), .val .null, .val .null, .val (.long q5), .second, .val .null, .val (.ref tR)] [(.ref tR), (.ref tR), (.int (0 : Int32))])) _
    refine Jvm.RoadKit.acmp (g := (mkF m 24 #[.val (.ref a1), .val (.ref a2), .val .null, .val .null, .val (.long q5), .second, .val .null, .val (.ref tR)] [(.ref tR), (.ref tR), (.int (0 : Int32))])) X3 hx rfl rfl rfl (pc0 := 24) (pc' := 31) (same := true) rfl (hb hby d1_24) rfl (decide_eq_true rfl) (by decide) (by decide) ?_
    refine XS.iconst X3.here hx rfl (hb hby d1_31) ?_
    refine XS.icmpNo X3.here hx rfl (hb hby d1_32) rfl (teq (by decide : ((0 : Int32) = (0 : Int32)))).2 ?_
    refine XS.aloadN X3.here hx rfl (hb hby d1_35) rfl rfl ?_
    refine XS.ifnullYes X3.here hx rfl (pc0 := 36) (pc' := 43) rfl (hb hby d1_36) rfl (by decide) (by decide) ?_
    refine XS.iconst X3.here hx rfl (hb hby d1_43) ?_
    refine XS.aload X3.here hx rfl (hb hby d1_44) rfl rfl ?_
    exact k
  obtain ⟨T4, X4, e4, st4⟩ := getS2 X3 hx hZ hown (host := "") (Or.inl (hw _ (List.mem_of_getElem? (i := 32) rfl))) Via.refl e3 S_L (g := (mkF m 46 #[.val (.ref a1), .val (.ref a2), .val .null, .val .null, .val (.long q5), .second, .val .null, .val (.ref tR)] [(.ref tR), (.int (0 : Int32))])) rfl (hb hby d1_46)
  refine own_step st4 ?_
  show own_Go p e below s _ _ _ (T4.setTop (mkF m 49 #[.val (.ref a1), .val (.ref a2), .val .null, .val .null, .val (.long q5), .second, .val .null, .val (.ref tR)] [(.ref tC), (.ref tR), (.int (0 : Int32))]))
  refine own_step (B := T4.setTop (mkF m 71 #[.val (.ref a1), .val (.ref a2), .val .null, .val .null, .val (.long q5), .second, .val .null, .val (.ref tR)] [(.ref a2), (.int (0 : Int32))])) (fun t k => ?_) ?_
  · show Steps p.tables e below (T4.setTop (mkF m 49 #[.val (.ref a1), .val (.ref a2), .val .null, .val .null, .val (.long q5), .second, .val .null, .val (.ref tR)] [(.ref tC), (.ref tR), (.int (0 : Int32))])) _
    refine Jvm.RoadKit.acmp (g := (mkF m 49 #[.val (.ref a1), .val (.ref a2), .val .null, .val .null, .val (.long q5), .second, .val .null, .val (.ref tR)] [(.ref tC), (.ref tR), (.int (0 : Int32))])) X4 hx rfl rfl rfl (pc0 := 49) (pc' := 56) (same := false) rfl (hb hby d1_49) rfl (decide_eq_false fun q => (fun q => nCR (Eq.symm q)) (Value.ref.inj q)) (by decide) (by decide) ?_
    refine XS.iconst X4.here hx rfl (hb hby d1_56) ?_
    refine XS.icmpNo X4.here hx rfl (hb hby d1_57) rfl (teq (by decide : ((0 : Int32) = (0 : Int32)))).2 ?_
    refine XS.aload X4.here hx rfl (hb hby d1_60) rfl rfl ?_
    refine XS.ifnullYes X4.here hx rfl (pc0 := 62) (pc' := 69) rfl (hb hby d1_62) rfl (by decide) (by decide) ?_
    refine XS.iconst X4.here hx rfl (hb hby d1_69) ?_
    refine XS.aloadN X4.here hx rfl (hb hby d1_70) rfl rfl ?_
    exact k
  obtain ⟨cq5, kq5, q5a, q5b, q5c⟩ := isOf hZ e4 E_k
  obtain ⟨_, _, ⟨T5, L5, k5, n5⟩, -, X5, ⟨Lc5, hQ5, l5, y5, z5⟩, st5⟩ := X4.virtualBack hx (y := (⟨"com/example/nests/nests/model/Mutation$Kind", "takesValue", "()Z"⟩ : MethodName)) (z := (⟨"com/example/nests/nests/model/Mutation$Kind", "takesValue", "()Z"⟩ : MethodName)) hown (mvT hZ (hw _ (List.mem_of_getElem? (i := 33) rfl))) (mvT hZ (hw _ (List.mem_of_getElem? (i := 34) rfl))) (notFace_of_selects (args := #[]) (mvT hZ (hw _ (List.mem_of_getElem? (i := 36) rfl)))) (mvT hZ (hw _ (List.mem_of_getElem? (i := 36) rfl))) (mvT hZ (hw _ (List.mem_of_getElem? (i := 35) rfl))) (by decide) (backOf (W := 1) (rm4 l Z a0 hw [] a2 (0 : Int32) h0 n0 Z0 Fk_v rfl) hZ (hw _ (List.mem_of_getElem? (i := 37) rfl)) (hw _ (List.mem_of_getElem? (i := 2) rfl)) (by decide) (by decide)) q5a q5c (g := (mkF m 71 #[.val (.ref a1), .val (.ref a2), .val .null, .val .null, .val (.long q5), .second, .val .null, .val (.ref tR)] [(.ref a2), (.int (0 : Int32))])) rfl (by rw [hml]; rfl) (Steps.refl _) (argsL := []) (rest := [(.int (0 : Int32))]) (lenOf pd_6 rfl) rfl (by show 2 * 0 + _ ≤ _; exact Nat.le_of_eq rfl) (hb hby d1_71) (fun _ _ => ⟨rfl, e4, (by decide : 0 + 0 ≤ _), (by decide : 0 + 0 ≤ _)⟩)
  dsimp only [Pt.U, Pt.locs, Pt.cells, Pt.slots] at X5 l5 y5 z5 st5 hQ5
  subst l5 y5 z5
  obtain ⟨rfl, N5q, e5⟩ := hQ5
  have N5 := Fr.app N2 N5q
  refine own_via st5 ?_
  show own_Go p e below s _ _ _ (T5.setTop (mkF m 74 #[.val (.ref a1), .val (.ref a2), .val .null, .val .null, .val (.long q5), .second, .val .null, .val (.ref tR)] [(.int (0 : Int32)), (.int (0 : Int32))]))
  refine own_step (B := T5.setTop (mkF m 81 #[.val (.ref a1), .val (.ref a2), .val .null, .val .null, .val (.long q5), .second, .val .null, .val (.ref tR)] [(.int (lcmpW q5 (0 : Int64)))])) (fun t k => ?_) ?_
  · show Steps p.tables e below (T5.setTop (mkF m 74 #[.val (.ref a1), .val (.ref a2), .val .null, .val .null, .val (.long q5), .second, .val .null, .val (.ref tR)] [(.int (0 : Int32)), (.int (0 : Int32))])) _
    refine XS.icmpNo X5.here hx rfl (hb hby d1_74) rfl (teq (by decide : ((0 : Int32) = (0 : Int32)))).2 ?_
    refine XS.lload X5.here hx rfl (hb hby d1_77) rfl ?_
    refine XS.lconst X5.here hx rfl (hb hby d1_79) ?_
    refine XS.lcmp X5.here hx rfl (hb hby d1_80) rfl ?_
    exact k
  by_cases hq : q5 = (0 : Int64)
  · refine own_step (B := T5.setTop (mkF m 118 #[.val (.ref a1), .val (.ref a2), .val .null, .val .null, .val (.long q5), .second, .val .null, .val (.ref tR)] [(.ref a2), (.ref a1)])) (fun t k => ?_) ?_
    · show Steps p.tables e below (T5.setTop (mkF m 81 #[.val (.ref a1), .val (.ref a2), .val .null, .val .null, .val (.long q5), .second, .val .null, .val (.ref tR)] [(.int (lcmpW q5 (0 : Int64)))])) _
      refine XS.ifYes X5.here hx rfl (pc0 := 81) (pc' := 108) rfl (hb hby d1_81) rfl ((if0 _ _).trans (teq ((lw_eq _ _).mpr hq)).1) (by decide) (by decide) ?_
      refine XS.aloadN X5.here hx rfl (hb hby d1_108) rfl rfl ?_
      refine XS.ifnullYes X5.here hx rfl (pc0 := 109) (pc' := 116) rfl (hb hby d1_109) rfl (by decide) (by decide) ?_
      refine XS.aloadN X5.here hx rfl (hb hby d1_116) rfl rfl ?_
      refine XS.aloadN X5.here hx rfl (hb hby d1_117) rfl rfl ?_
      exact k
    obtain ⟨T6, h6, X6, e6, W6, st6⟩ := putF X5 hx hZ hown (host := "") (Or.inl (hw _ (List.mem_of_getElem? (i := 92) rfl))) Via.refl e5 F_0 E_a1 (Or.inr ⟨(hw _ (List.mem_of_getElem? (i := 93) rfl)), rfl, hnm⟩) (hw _ (List.mem_of_getElem? (i := 13) rfl)) (ty := (.object "com/example/nests/nests/model/Mutation$Kind")) (by decide) rfl rfl (g := (mkF m 118 #[.val (.ref a1), .val (.ref a2), .val .null, .val .null, .val (.long q5), .second, .val .null, .val (.ref tR)] [(.ref a2), (.ref a1)])) rfl rfl (hb hby d1_118)
    have Fw6 := F_0.same W6
    have K6 : Keep h0 h6 [a1] := KK0.wr W6 (Or.inl (by simp))
    have N6 := Fr.snoc X6 N5 g_a1
    refine own_step st6 ?_
    show own_Go p e below s _ _ _ (T6.setTop (mkF m 121 #[.val (.ref a1), .val (.ref a2), .val .null, .val .null, .val (.long q5), .second, .val .null, .val (.ref tR)] []))
    refine own_step (B := T6.setTop (mkF m 123 #[.val (.ref a1), .val (.ref a2), .val .null, .val .null, .val (.long q5), .second, .val .null, .val (.ref tR)] [.null, (.ref a1)])) (fun t k => ?_) ?_
    · show Steps p.tables e below (T6.setTop (mkF m 121 #[.val (.ref a1), .val (.ref a2), .val .null, .val .null, .val (.long q5), .second, .val .null, .val (.ref tR)] [])) _
      refine XS.aloadN X6.here hx rfl (hb hby d1_121) rfl rfl ?_
      refine XS.aloadN X6.here hx rfl (hb hby d1_122) rfl rfl ?_
      exact k
    obtain ⟨T7, h7, X7, e7, W7, st7⟩ := putF X6 hx hZ hown (host := "") (Or.inl (hw _ (List.mem_of_getElem? (i := 94) rfl))) Via.refl e6 (F_1.other W6 (Or.inr (slot_ne (Or.inr (hw _ (List.mem_of_getElem? (i := 95) rfl))) (Or.inr (hw _ (List.mem_of_getElem? (i := 93) rfl))) (by decide) (t := (.object "java/lang/String")) (t' := (.object "com/example/nests/nests/model/Mutation$Kind")) (by decide) (by decide)))) (E_a1.wr W6) (Or.inr ⟨(hw _ (List.mem_of_getElem? (i := 95) rfl)), rfl, hnm⟩) (hw _ (List.mem_of_getElem? (i := 13) rfl)) (ty := (.object "java/lang/String")) (by decide) rfl rfl (g := (mkF m 123 #[.val (.ref a1), .val (.ref a2), .val .null, .val .null, .val (.long q5), .second, .val .null, .val (.ref tR)] [.null, (.ref a1)])) rfl rfl (hb hby d1_123)
    have Fw7 := (F_1.other W6 (Or.inr (slot_ne (Or.inr (hw _ (List.mem_of_getElem? (i := 95) rfl))) (Or.inr (hw _ (List.mem_of_getElem? (i := 93) rfl))) (by decide) (t := (.object "java/lang/String")) (t' := (.object "com/example/nests/nests/model/Mutation$Kind")) (by decide) (by decide)))).same W7
    have K7 : Keep h0 h7 [a1] := K6.wr W7 (Or.inl (by simp))
    have N7 := Fr.snoc X7 N6 g_a1
    refine own_step st7 ?_
    show own_Go p e below s _ _ _ (T7.setTop (mkF m 126 #[.val (.ref a1), .val (.ref a2), .val .null, .val .null, .val (.long q5), .second, .val .null, .val (.ref tR)] []))
    refine own_step (B := T7.setTop (mkF m 142 #[.val (.ref a1), .val (.ref a2), .val .null, .val .null, .val (.long q5), .second, .val .null, .val (.ref tR)] [.null, (.ref a1)])) (fun t k => ?_) ?_
    · show Steps p.tables e below (T7.setTop (mkF m 126 #[.val (.ref a1), .val (.ref a2), .val .null, .val .null, .val (.long q5), .second, .val .null, .val (.ref tR)] [])) _
      refine XS.aloadN X7.here hx rfl (hb hby d1_126) rfl rfl ?_
      refine XS.aloadN X7.here hx rfl (hb hby d1_127) rfl rfl ?_
      refine XS.ifnonnullNo X7.here hx rfl (hb hby d1_128) rfl ?_
      refine XS.aconstNull X7.here hx rfl (hb hby d1_131) ?_
      refine XS.goto X7.here hx rfl (pc0 := 132) (pc' := 142) rfl (hb hby d1_132) (by decide) (by decide) ?_
      exact k
    obtain ⟨T8, h8, X8, e8, W8, st8⟩ := putF X7 hx hZ hown (host := "") (Or.inl (hw _ (List.mem_of_getElem? (i := 105) rfl))) Via.refl e7 ((F_2.other W6 (Or.inr (slot_ne (Or.inr (hw _ (List.mem_of_getElem? (i := 106) rfl))) (Or.inr (hw _ (List.mem_of_getElem? (i := 93) rfl))) (by decide) (t := (.array .byte)) (t' := (.object "com/example/nests/nests/model/Mutation$Kind")) (by decide) (by decide)))).other W7 (Or.inr (slot_ne (Or.inr (hw _ (List.mem_of_getElem? (i := 106) rfl))) (Or.inr (hw _ (List.mem_of_getElem? (i := 95) rfl))) (by decide) (t := (.array .byte)) (t' := (.object "java/lang/String")) (by decide) (by decide)))) ((E_a1.wr W6).wr W7) (Or.inr ⟨(hw _ (List.mem_of_getElem? (i := 106) rfl)), rfl, hnm⟩) (hw _ (List.mem_of_getElem? (i := 13) rfl)) (ty := (.array .byte)) (by decide) rfl rfl (g := (mkF m 142 #[.val (.ref a1), .val (.ref a2), .val .null, .val .null, .val (.long q5), .second, .val .null, .val (.ref tR)] [.null, (.ref a1)])) rfl rfl (hb hby d1_142)
    have Fw8 := ((F_2.other W6 (Or.inr (slot_ne (Or.inr (hw _ (List.mem_of_getElem? (i := 106) rfl))) (Or.inr (hw _ (List.mem_of_getElem? (i := 93) rfl))) (by decide) (t := (.array .byte)) (t' := (.object "com/example/nests/nests/model/Mutation$Kind")) (by decide) (by decide)))).other W7 (Or.inr (slot_ne (Or.inr (hw _ (List.mem_of_getElem? (i := 106) rfl))) (Or.inr (hw _ (List.mem_of_getElem? (i := 95) rfl))) (by decide) (t := (.array .byte)) (t' := (.object "java/lang/String")) (by decide) (by decide)))).same W8
    have K8 : Keep h0 h8 [a1] := K7.wr W8 (Or.inl (by simp))
    have N8 := Fr.snoc X8 N7 g_a1
    refine own_step st8 ?_
    show own_Go p e below s _ _ _ (T8.setTop (mkF m 145 #[.val (.ref a1), .val (.ref a2), .val .null, .val .null, .val (.long q5), .second, .val .null, .val (.ref tR)] []))
    refine own_step (B := T8.setTop (mkF m 148 #[.val (.ref a1), .val (.ref a2), .val .null, .val .null, .val (.long q5), .second, .val .null, .val (.ref tR)] [(.long q5), (.ref a1)])) (fun t k => ?_) ?_
    · show Steps p.tables e below (T8.setTop (mkF m 145 #[.val (.ref a1), .val (.ref a2), .val .null, .val .null, .val (.long q5), .second, .val .null, .val (.ref tR)] [])) _
      refine XS.aloadN X8.here hx rfl (hb hby d1_145) rfl rfl ?_
      refine XS.lload X8.here hx rfl (hb hby d1_146) rfl ?_
      exact k
    obtain ⟨T9, h9, X9, e9, W9, st9⟩ := putF X8 hx hZ hown (host := "") (Or.inl (hw _ (List.mem_of_getElem? (i := 107) rfl))) Via.refl e8 (((F_3.other W6 (Or.inr (slot_ne (Or.inr (hw _ (List.mem_of_getElem? (i := 108) rfl))) (Or.inr (hw _ (List.mem_of_getElem? (i := 93) rfl))) (by decide) (t := .long) (t' := (.object "com/example/nests/nests/model/Mutation$Kind")) (by decide) (by decide)))).other W7 (Or.inr (slot_ne (Or.inr (hw _ (List.mem_of_getElem? (i := 108) rfl))) (Or.inr (hw _ (List.mem_of_getElem? (i := 95) rfl))) (by decide) (t := .long) (t' := (.object "java/lang/String")) (by decide) (by decide)))).other W8 (Or.inr (slot_ne (Or.inr (hw _ (List.mem_of_getElem? (i := 108) rfl))) (Or.inr (hw _ (List.mem_of_getElem? (i := 106) rfl))) (by decide) (t := .long) (t' := (.array .byte)) (by decide) (by decide)))) (((E_a1.wr W6).wr W7).wr W8) (Or.inr ⟨(hw _ (List.mem_of_getElem? (i := 108) rfl)), rfl, hnm⟩) (hw _ (List.mem_of_getElem? (i := 13) rfl)) (ty := .long) (by decide) rfl rfl (g := (mkF m 148 #[.val (.ref a1), .val (.ref a2), .val .null, .val .null, .val (.long q5), .second, .val .null, .val (.ref tR)] [(.long q5), (.ref a1)])) rfl rfl (hb hby d1_148)
    have Fw9 := (((F_3.other W6 (Or.inr (slot_ne (Or.inr (hw _ (List.mem_of_getElem? (i := 108) rfl))) (Or.inr (hw _ (List.mem_of_getElem? (i := 93) rfl))) (by decide) (t := .long) (t' := (.object "com/example/nests/nests/model/Mutation$Kind")) (by decide) (by decide)))).other W7 (Or.inr (slot_ne (Or.inr (hw _ (List.mem_of_getElem? (i := 108) rfl))) (Or.inr (hw _ (List.mem_of_getElem? (i := 95) rfl))) (by decide) (t := .long) (t' := (.object "java/lang/String")) (by decide) (by decide)))).other W8 (Or.inr (slot_ne (Or.inr (hw _ (List.mem_of_getElem? (i := 108) rfl))) (Or.inr (hw _ (List.mem_of_getElem? (i := 106) rfl))) (by decide) (t := .long) (t' := (.array .byte)) (by decide) (by decide)))).same W9
    have K9 : Keep h0 h9 [a1] := K8.wr W9 (Or.inl (by simp))
    have N9 := Fr.snoc X9 N8 g_a1
    refine own_step st9 ?_
    show own_Go p e below s _ _ _ (T9.setTop (mkF m 151 #[.val (.ref a1), .val (.ref a2), .val .null, .val .null, .val (.long q5), .second, .val .null, .val (.ref tR)] []))
    refine own_step (B := T9.setTop (mkF m 169 #[.val (.ref a1), .val (.ref a2), .val .null, .val .null, .val (.long q5), .second, .val .null, .val (.ref tR)] [.null, (.ref a1)])) (fun t k => ?_) ?_
    · show Steps p.tables e below (T9.setTop (mkF m 151 #[.val (.ref a1), .val (.ref a2), .val .null, .val .null, .val (.long q5), .second, .val .null, .val (.ref tR)] [])) _
      refine XS.aloadN X9.here hx rfl (hb hby d1_151) rfl rfl ?_
      refine XS.aload X9.here hx rfl (hb hby d1_152) rfl rfl ?_
      refine XS.ifnonnullNo X9.here hx rfl (hb hby d1_154) rfl ?_
      refine XS.aconstNull X9.here hx rfl (hb hby d1_157) ?_
      refine XS.goto X9.here hx rfl (pc0 := 158) (pc' := 169) rfl (hb hby d1_158) (by decide) (by decide) ?_
      exact k
    obtain ⟨T10, h10, X10, e10, W10, st10⟩ := putF X9 hx hZ hown (host := "") (Or.inl (hw _ (List.mem_of_getElem? (i := 109) rfl))) Via.refl e9 ((((F_4.other W6 (Or.inr (slot_ne (Or.inr (hw _ (List.mem_of_getElem? (i := 110) rfl))) (Or.inr (hw _ (List.mem_of_getElem? (i := 93) rfl))) (by decide) (t := (.array .byte)) (t' := (.object "com/example/nests/nests/model/Mutation$Kind")) (by decide) (by decide)))).other W7 (Or.inr (slot_ne (Or.inr (hw _ (List.mem_of_getElem? (i := 110) rfl))) (Or.inr (hw _ (List.mem_of_getElem? (i := 95) rfl))) (by decide) (t := (.array .byte)) (t' := (.object "java/lang/String")) (by decide) (by decide)))).other W8 (Or.inr (slot_ne (Or.inr (hw _ (List.mem_of_getElem? (i := 110) rfl))) (Or.inr (hw _ (List.mem_of_getElem? (i := 106) rfl))) (by decide) (t := (.array .byte)) (t' := (.array .byte)) (by decide) (by decide)))).other W9 (Or.inr (slot_ne (Or.inr (hw _ (List.mem_of_getElem? (i := 110) rfl))) (Or.inr (hw _ (List.mem_of_getElem? (i := 108) rfl))) (by decide) (t := (.array .byte)) (t' := .long) (by decide) (by decide)))) ((((E_a1.wr W6).wr W7).wr W8).wr W9) (Or.inr ⟨(hw _ (List.mem_of_getElem? (i := 110) rfl)), rfl, hnm⟩) (hw _ (List.mem_of_getElem? (i := 13) rfl)) (ty := (.array .byte)) (by decide) rfl rfl (g := (mkF m 169 #[.val (.ref a1), .val (.ref a2), .val .null, .val .null, .val (.long q5), .second, .val .null, .val (.ref tR)] [.null, (.ref a1)])) rfl rfl (hb hby d1_169)
    have Fw10 := ((((F_4.other W6 (Or.inr (slot_ne (Or.inr (hw _ (List.mem_of_getElem? (i := 110) rfl))) (Or.inr (hw _ (List.mem_of_getElem? (i := 93) rfl))) (by decide) (t := (.array .byte)) (t' := (.object "com/example/nests/nests/model/Mutation$Kind")) (by decide) (by decide)))).other W7 (Or.inr (slot_ne (Or.inr (hw _ (List.mem_of_getElem? (i := 110) rfl))) (Or.inr (hw _ (List.mem_of_getElem? (i := 95) rfl))) (by decide) (t := (.array .byte)) (t' := (.object "java/lang/String")) (by decide) (by decide)))).other W8 (Or.inr (slot_ne (Or.inr (hw _ (List.mem_of_getElem? (i := 110) rfl))) (Or.inr (hw _ (List.mem_of_getElem? (i := 106) rfl))) (by decide) (t := (.array .byte)) (t' := (.array .byte)) (by decide) (by decide)))).other W9 (Or.inr (slot_ne (Or.inr (hw _ (List.mem_of_getElem? (i := 110) rfl))) (Or.inr (hw _ (List.mem_of_getElem? (i := 108) rfl))) (by decide) (t := (.array .byte)) (t' := .long) (by decide) (by decide)))).same W10
    have K10 : Keep h0 h10 [a1] := K9.wr W10 (Or.inl (by simp))
    have N10 := Fr.snoc X10 N9 g_a1
    refine own_step st10 ?_
    show own_Go p e below s _ _ _ (T10.setTop (mkF m 172 #[.val (.ref a1), .val (.ref a2), .val .null, .val .null, .val (.long q5), .second, .val .null, .val (.ref tR)] []))
    exact own_retV X10 hx Bd.notSynchronized Bd.returns (hb hby d1_172) ⟨rfl, N10, by rw [e10]; exact K10, by rw [e10]; exact (((((E_a1.wr W6).wr W7).wr W8).wr W9).wr W10), by rw [e10]; exact ((Fw8.other W9 (Or.inr (slot_ne (Or.inr (hw _ (List.mem_of_getElem? (i := 106) rfl))) (Or.inr (hw _ (List.mem_of_getElem? (i := 108) rfl))) (by decide) (t := (.array .byte)) (t' := .long) (by decide) (by decide)))).other W10 (Or.inr (slot_ne (Or.inr (hw _ (List.mem_of_getElem? (i := 106) rfl))) (Or.inr (hw _ (List.mem_of_getElem? (i := 110) rfl))) (by decide) (t := (.array .byte)) (t' := (.array .byte)) (by decide) (by decide)))), by rw [e10]; exact Fw10⟩ (by decide) (by decide)
  · refine own_step (B := T5.setTop (mkF m 85 #[.val (.ref a1), .val (.ref a2), .val .null, .val .null, .val (.long q5), .second, .val .null, .val (.ref tR)] [(.ref a2)])) (fun t k => ?_) ?_
    · show Steps p.tables e below (T5.setTop (mkF m 81 #[.val (.ref a1), .val (.ref a2), .val .null, .val .null, .val (.long q5), .second, .val .null, .val (.ref tR)] [(.int (lcmpW q5 (0 : Int64)))])) _
      refine XS.ifNo X5.here hx rfl (hb hby d1_81) rfl ((if0 _ _).trans (feq (fun q => hq ((lw_eq _ _).mp q))).1) ?_
      refine XS.aloadN X5.here hx rfl (hb hby d1_84) rfl rfl ?_
      exact k
    obtain ⟨cq11, kq11, q11a, q11b, q11c⟩ := isOf hZ e5 E_k
    obtain ⟨_, _, ⟨T11, L11, k11, n11⟩, -, X11, ⟨Lc11, hQ11, l11, y11, z11⟩, st11⟩ := X5.virtualBack hx (y := (⟨"com/example/nests/nests/model/Mutation$Kind", "takesTimestamp", "()Z"⟩ : MethodName)) (z := (⟨"com/example/nests/nests/model/Mutation$Kind", "takesTimestamp", "()Z"⟩ : MethodName)) hown (mvT hZ (hw _ (List.mem_of_getElem? (i := 122) rfl))) (mvT hZ (hw _ (List.mem_of_getElem? (i := 123) rfl))) (notFace_of_selects (args := #[]) (mvT hZ (hw _ (List.mem_of_getElem? (i := 125) rfl)))) (mvT hZ (hw _ (List.mem_of_getElem? (i := 125) rfl))) (mvT hZ (hw _ (List.mem_of_getElem? (i := 124) rfl))) (by decide) (backOf (W := 0) (rm18 l Z a0 hw [] a2 ts h0 n0 Z0 Fk_s htn) hZ (hw _ (List.mem_of_getElem? (i := 126) rfl)) (hw _ (List.mem_of_getElem? (i := 2) rfl)) (by decide) (by decide)) q11a q11c (g := (mkF m 85 #[.val (.ref a1), .val (.ref a2), .val .null, .val .null, .val (.long q5), .second, .val .null, .val (.ref tR)] [(.ref a2)])) rfl (by rw [hml]; rfl) (Steps.refl _) (argsL := []) (rest := []) (lenOf pd_6 rfl) rfl (by show 2 * 0 + _ ≤ _; exact Nat.le_of_eq rfl) (hb hby d1_85) (fun _ _ => ⟨rfl, e5, (by decide : 0 + 0 ≤ _), (by decide : 0 + 0 ≤ _)⟩)
    dsimp only [Pt.U, Pt.locs, Pt.cells, Pt.slots] at X11 l11 y11 z11 st11 hQ11
    subst l11 y11 z11
    obtain ⟨rfl, N11q, e11⟩ := hQ11
    have N11 := Fr.app N5 N11q
    refine own_via st11 ?_
    show own_Go p e below s _ _ _ (T11.setTop (mkF m 88 #[.val (.ref a1), .val (.ref a2), .val .null, .val .null, .val (.long q5), .second, .val .null, .val (.ref tR)] [(.int ts)]))
    refine own_step (B := T11.setTop (mkF m 118 #[.val (.ref a1), .val (.ref a2), .val .null, .val .null, .val (.long q5), .second, .val .null, .val (.ref tR)] [(.ref a2), (.ref a1)])) (fun t k => ?_) ?_
    · show Steps p.tables e below (T11.setTop (mkF m 88 #[.val (.ref a1), .val (.ref a2), .val .null, .val .null, .val (.long q5), .second, .val .null, .val (.ref tR)] [(.int ts)])) _
      refine XS.ifYes X11.here hx rfl (pc0 := 88) (pc' := 108) rfl (hb hby d1_88) rfl ((if0 _ _).trans (feq (by rw [hts.resolve_left hq]; decide)).2) (by decide) (by decide) ?_
      refine XS.aloadN X11.here hx rfl (hb hby d1_108) rfl rfl ?_
      refine XS.ifnullYes X11.here hx rfl (pc0 := 109) (pc' := 116) rfl (hb hby d1_109) rfl (by decide) (by decide) ?_
      refine XS.aloadN X11.here hx rfl (hb hby d1_116) rfl rfl ?_
      refine XS.aloadN X11.here hx rfl (hb hby d1_117) rfl rfl ?_
      exact k
    obtain ⟨T12, h12, X12, e12, W12, st12⟩ := putF X11 hx hZ hown (host := "") (Or.inl (hw _ (List.mem_of_getElem? (i := 92) rfl))) Via.refl e11 F_0 E_a1 (Or.inr ⟨(hw _ (List.mem_of_getElem? (i := 93) rfl)), rfl, hnm⟩) (hw _ (List.mem_of_getElem? (i := 13) rfl)) (ty := (.object "com/example/nests/nests/model/Mutation$Kind")) (by decide) rfl rfl (g := (mkF m 118 #[.val (.ref a1), .val (.ref a2), .val .null, .val .null, .val (.long q5), .second, .val .null, .val (.ref tR)] [(.ref a2), (.ref a1)])) rfl rfl (hb hby d1_118)
    have Fw12 := F_0.same W12
    have K12 : Keep h0 h12 [a1] := KK0.wr W12 (Or.inl (by simp))
    have N12 := Fr.snoc X12 N11 g_a1
    refine own_step st12 ?_
    show own_Go p e below s _ _ _ (T12.setTop (mkF m 121 #[.val (.ref a1), .val (.ref a2), .val .null, .val .null, .val (.long q5), .second, .val .null, .val (.ref tR)] []))
    refine own_step (B := T12.setTop (mkF m 123 #[.val (.ref a1), .val (.ref a2), .val .null, .val .null, .val (.long q5), .second, .val .null, .val (.ref tR)] [.null, (.ref a1)])) (fun t k => ?_) ?_
    · show Steps p.tables e below (T12.setTop (mkF m 121 #[.val (.ref a1), .val (.ref a2), .val .null, .val .null, .val (.long q5), .second, .val .null, .val (.ref tR)] [])) _
      refine XS.aloadN X12.here hx rfl (hb hby d1_121) rfl rfl ?_
      refine XS.aloadN X12.here hx rfl (hb hby d1_122) rfl rfl ?_
      exact k
    obtain ⟨T13, h13, X13, e13, W13, st13⟩ := putF X12 hx hZ hown (host := "") (Or.inl (hw _ (List.mem_of_getElem? (i := 94) rfl))) Via.refl e12 (F_1.other W12 (Or.inr (slot_ne (Or.inr (hw _ (List.mem_of_getElem? (i := 95) rfl))) (Or.inr (hw _ (List.mem_of_getElem? (i := 93) rfl))) (by decide) (t := (.object "java/lang/String")) (t' := (.object "com/example/nests/nests/model/Mutation$Kind")) (by decide) (by decide)))) (E_a1.wr W12) (Or.inr ⟨(hw _ (List.mem_of_getElem? (i := 95) rfl)), rfl, hnm⟩) (hw _ (List.mem_of_getElem? (i := 13) rfl)) (ty := (.object "java/lang/String")) (by decide) rfl rfl (g := (mkF m 123 #[.val (.ref a1), .val (.ref a2), .val .null, .val .null, .val (.long q5), .second, .val .null, .val (.ref tR)] [.null, (.ref a1)])) rfl rfl (hb hby d1_123)
    have Fw13 := (F_1.other W12 (Or.inr (slot_ne (Or.inr (hw _ (List.mem_of_getElem? (i := 95) rfl))) (Or.inr (hw _ (List.mem_of_getElem? (i := 93) rfl))) (by decide) (t := (.object "java/lang/String")) (t' := (.object "com/example/nests/nests/model/Mutation$Kind")) (by decide) (by decide)))).same W13
    have K13 : Keep h0 h13 [a1] := K12.wr W13 (Or.inl (by simp))
    have N13 := Fr.snoc X13 N12 g_a1
    refine own_step st13 ?_
    show own_Go p e below s _ _ _ (T13.setTop (mkF m 126 #[.val (.ref a1), .val (.ref a2), .val .null, .val .null, .val (.long q5), .second, .val .null, .val (.ref tR)] []))
    refine own_step (B := T13.setTop (mkF m 142 #[.val (.ref a1), .val (.ref a2), .val .null, .val .null, .val (.long q5), .second, .val .null, .val (.ref tR)] [.null, (.ref a1)])) (fun t k => ?_) ?_
    · show Steps p.tables e below (T13.setTop (mkF m 126 #[.val (.ref a1), .val (.ref a2), .val .null, .val .null, .val (.long q5), .second, .val .null, .val (.ref tR)] [])) _
      refine XS.aloadN X13.here hx rfl (hb hby d1_126) rfl rfl ?_
      refine XS.aloadN X13.here hx rfl (hb hby d1_127) rfl rfl ?_
      refine XS.ifnonnullNo X13.here hx rfl (hb hby d1_128) rfl ?_
      refine XS.aconstNull X13.here hx rfl (hb hby d1_131) ?_
      refine XS.goto X13.here hx rfl (pc0 := 132) (pc' := 142) rfl (hb hby d1_132) (by decide) (by decide) ?_
      exact k
    obtain ⟨T14, h14, X14, e14, W14, st14⟩ := putF X13 hx hZ hown (host := "") (Or.inl (hw _ (List.mem_of_getElem? (i := 105) rfl))) Via.refl e13 ((F_2.other W12 (Or.inr (slot_ne (Or.inr (hw _ (List.mem_of_getElem? (i := 106) rfl))) (Or.inr (hw _ (List.mem_of_getElem? (i := 93) rfl))) (by decide) (t := (.array .byte)) (t' := (.object "com/example/nests/nests/model/Mutation$Kind")) (by decide) (by decide)))).other W13 (Or.inr (slot_ne (Or.inr (hw _ (List.mem_of_getElem? (i := 106) rfl))) (Or.inr (hw _ (List.mem_of_getElem? (i := 95) rfl))) (by decide) (t := (.array .byte)) (t' := (.object "java/lang/String")) (by decide) (by decide)))) ((E_a1.wr W12).wr W13) (Or.inr ⟨(hw _ (List.mem_of_getElem? (i := 106) rfl)), rfl, hnm⟩) (hw _ (List.mem_of_getElem? (i := 13) rfl)) (ty := (.array .byte)) (by decide) rfl rfl (g := (mkF m 142 #[.val (.ref a1), .val (.ref a2), .val .null, .val .null, .val (.long q5), .second, .val .null, .val (.ref tR)] [.null, (.ref a1)])) rfl rfl (hb hby d1_142)
    have Fw14 := ((F_2.other W12 (Or.inr (slot_ne (Or.inr (hw _ (List.mem_of_getElem? (i := 106) rfl))) (Or.inr (hw _ (List.mem_of_getElem? (i := 93) rfl))) (by decide) (t := (.array .byte)) (t' := (.object "com/example/nests/nests/model/Mutation$Kind")) (by decide) (by decide)))).other W13 (Or.inr (slot_ne (Or.inr (hw _ (List.mem_of_getElem? (i := 106) rfl))) (Or.inr (hw _ (List.mem_of_getElem? (i := 95) rfl))) (by decide) (t := (.array .byte)) (t' := (.object "java/lang/String")) (by decide) (by decide)))).same W14
    have K14 : Keep h0 h14 [a1] := K13.wr W14 (Or.inl (by simp))
    have N14 := Fr.snoc X14 N13 g_a1
    refine own_step st14 ?_
    show own_Go p e below s _ _ _ (T14.setTop (mkF m 145 #[.val (.ref a1), .val (.ref a2), .val .null, .val .null, .val (.long q5), .second, .val .null, .val (.ref tR)] []))
    refine own_step (B := T14.setTop (mkF m 148 #[.val (.ref a1), .val (.ref a2), .val .null, .val .null, .val (.long q5), .second, .val .null, .val (.ref tR)] [(.long q5), (.ref a1)])) (fun t k => ?_) ?_
    · show Steps p.tables e below (T14.setTop (mkF m 145 #[.val (.ref a1), .val (.ref a2), .val .null, .val .null, .val (.long q5), .second, .val .null, .val (.ref tR)] [])) _
      refine XS.aloadN X14.here hx rfl (hb hby d1_145) rfl rfl ?_
      refine XS.lload X14.here hx rfl (hb hby d1_146) rfl ?_
      exact k
    obtain ⟨T15, h15, X15, e15, W15, st15⟩ := putF X14 hx hZ hown (host := "") (Or.inl (hw _ (List.mem_of_getElem? (i := 107) rfl))) Via.refl e14 (((F_3.other W12 (Or.inr (slot_ne (Or.inr (hw _ (List.mem_of_getElem? (i := 108) rfl))) (Or.inr (hw _ (List.mem_of_getElem? (i := 93) rfl))) (by decide) (t := .long) (t' := (.object "com/example/nests/nests/model/Mutation$Kind")) (by decide) (by decide)))).other W13 (Or.inr (slot_ne (Or.inr (hw _ (List.mem_of_getElem? (i := 108) rfl))) (Or.inr (hw _ (List.mem_of_getElem? (i := 95) rfl))) (by decide) (t := .long) (t' := (.object "java/lang/String")) (by decide) (by decide)))).other W14 (Or.inr (slot_ne (Or.inr (hw _ (List.mem_of_getElem? (i := 108) rfl))) (Or.inr (hw _ (List.mem_of_getElem? (i := 106) rfl))) (by decide) (t := .long) (t' := (.array .byte)) (by decide) (by decide)))) (((E_a1.wr W12).wr W13).wr W14) (Or.inr ⟨(hw _ (List.mem_of_getElem? (i := 108) rfl)), rfl, hnm⟩) (hw _ (List.mem_of_getElem? (i := 13) rfl)) (ty := .long) (by decide) rfl rfl (g := (mkF m 148 #[.val (.ref a1), .val (.ref a2), .val .null, .val .null, .val (.long q5), .second, .val .null, .val (.ref tR)] [(.long q5), (.ref a1)])) rfl rfl (hb hby d1_148)
    have Fw15 := (((F_3.other W12 (Or.inr (slot_ne (Or.inr (hw _ (List.mem_of_getElem? (i := 108) rfl))) (Or.inr (hw _ (List.mem_of_getElem? (i := 93) rfl))) (by decide) (t := .long) (t' := (.object "com/example/nests/nests/model/Mutation$Kind")) (by decide) (by decide)))).other W13 (Or.inr (slot_ne (Or.inr (hw _ (List.mem_of_getElem? (i := 108) rfl))) (Or.inr (hw _ (List.mem_of_getElem? (i := 95) rfl))) (by decide) (t := .long) (t' := (.object "java/lang/String")) (by decide) (by decide)))).other W14 (Or.inr (slot_ne (Or.inr (hw _ (List.mem_of_getElem? (i := 108) rfl))) (Or.inr (hw _ (List.mem_of_getElem? (i := 106) rfl))) (by decide) (t := .long) (t' := (.array .byte)) (by decide) (by decide)))).same W15
    have K15 : Keep h0 h15 [a1] := K14.wr W15 (Or.inl (by simp))
    have N15 := Fr.snoc X15 N14 g_a1
    refine own_step st15 ?_
    show own_Go p e below s _ _ _ (T15.setTop (mkF m 151 #[.val (.ref a1), .val (.ref a2), .val .null, .val .null, .val (.long q5), .second, .val .null, .val (.ref tR)] []))
    refine own_step (B := T15.setTop (mkF m 169 #[.val (.ref a1), .val (.ref a2), .val .null, .val .null, .val (.long q5), .second, .val .null, .val (.ref tR)] [.null, (.ref a1)])) (fun t k => ?_) ?_
    · show Steps p.tables e below (T15.setTop (mkF m 151 #[.val (.ref a1), .val (.ref a2), .val .null, .val .null, .val (.long q5), .second, .val .null, .val (.ref tR)] [])) _
      refine XS.aloadN X15.here hx rfl (hb hby d1_151) rfl rfl ?_
      refine XS.aload X15.here hx rfl (hb hby d1_152) rfl rfl ?_
      refine XS.ifnonnullNo X15.here hx rfl (hb hby d1_154) rfl ?_
      refine XS.aconstNull X15.here hx rfl (hb hby d1_157) ?_
      refine XS.goto X15.here hx rfl (pc0 := 158) (pc' := 169) rfl (hb hby d1_158) (by decide) (by decide) ?_
      exact k
    obtain ⟨T16, h16, X16, e16, W16, st16⟩ := putF X15 hx hZ hown (host := "") (Or.inl (hw _ (List.mem_of_getElem? (i := 109) rfl))) Via.refl e15 ((((F_4.other W12 (Or.inr (slot_ne (Or.inr (hw _ (List.mem_of_getElem? (i := 110) rfl))) (Or.inr (hw _ (List.mem_of_getElem? (i := 93) rfl))) (by decide) (t := (.array .byte)) (t' := (.object "com/example/nests/nests/model/Mutation$Kind")) (by decide) (by decide)))).other W13 (Or.inr (slot_ne (Or.inr (hw _ (List.mem_of_getElem? (i := 110) rfl))) (Or.inr (hw _ (List.mem_of_getElem? (i := 95) rfl))) (by decide) (t := (.array .byte)) (t' := (.object "java/lang/String")) (by decide) (by decide)))).other W14 (Or.inr (slot_ne (Or.inr (hw _ (List.mem_of_getElem? (i := 110) rfl))) (Or.inr (hw _ (List.mem_of_getElem? (i := 106) rfl))) (by decide) (t := (.array .byte)) (t' := (.array .byte)) (by decide) (by decide)))).other W15 (Or.inr (slot_ne (Or.inr (hw _ (List.mem_of_getElem? (i := 110) rfl))) (Or.inr (hw _ (List.mem_of_getElem? (i := 108) rfl))) (by decide) (t := (.array .byte)) (t' := .long) (by decide) (by decide)))) ((((E_a1.wr W12).wr W13).wr W14).wr W15) (Or.inr ⟨(hw _ (List.mem_of_getElem? (i := 110) rfl)), rfl, hnm⟩) (hw _ (List.mem_of_getElem? (i := 13) rfl)) (ty := (.array .byte)) (by decide) rfl rfl (g := (mkF m 169 #[.val (.ref a1), .val (.ref a2), .val .null, .val .null, .val (.long q5), .second, .val .null, .val (.ref tR)] [.null, (.ref a1)])) rfl rfl (hb hby d1_169)
    have Fw16 := ((((F_4.other W12 (Or.inr (slot_ne (Or.inr (hw _ (List.mem_of_getElem? (i := 110) rfl))) (Or.inr (hw _ (List.mem_of_getElem? (i := 93) rfl))) (by decide) (t := (.array .byte)) (t' := (.object "com/example/nests/nests/model/Mutation$Kind")) (by decide) (by decide)))).other W13 (Or.inr (slot_ne (Or.inr (hw _ (List.mem_of_getElem? (i := 110) rfl))) (Or.inr (hw _ (List.mem_of_getElem? (i := 95) rfl))) (by decide) (t := (.array .byte)) (t' := (.object "java/lang/String")) (by decide) (by decide)))).other W14 (Or.inr (slot_ne (Or.inr (hw _ (List.mem_of_getElem? (i := 110) rfl))) (Or.inr (hw _ (List.mem_of_getElem? (i := 106) rfl))) (by decide) (t := (.array .byte)) (t' := (.array .byte)) (by decide) (by decide)))).other W15 (Or.inr (slot_ne (Or.inr (hw _ (List.mem_of_getElem? (i := 110) rfl))) (Or.inr (hw _ (List.mem_of_getElem? (i := 108) rfl))) (by decide) (t := (.array .byte)) (t' := .long) (by decide) (by decide)))).same W16
    have K16 : Keep h0 h16 [a1] := K15.wr W16 (Or.inl (by simp))
    have N16 := Fr.snoc X16 N15 g_a1
    refine own_step st16 ?_
    show own_Go p e below s _ _ _ (T16.setTop (mkF m 172 #[.val (.ref a1), .val (.ref a2), .val .null, .val .null, .val (.long q5), .second, .val .null, .val (.ref tR)] []))
    exact own_retV X16 hx Bd.notSynchronized Bd.returns (hb hby d1_172) ⟨rfl, N16, by rw [e16]; exact K16, by rw [e16]; exact (((((E_a1.wr W12).wr W13).wr W14).wr W15).wr W16), by rw [e16]; exact ((Fw14.other W15 (Or.inr (slot_ne (Or.inr (hw _ (List.mem_of_getElem? (i := 106) rfl))) (Or.inr (hw _ (List.mem_of_getElem? (i := 108) rfl))) (by decide) (t := (.array .byte)) (t' := .long) (by decide) (by decide)))).other W16 (Or.inr (slot_ne (Or.inr (hw _ (List.mem_of_getElem? (i := 106) rfl))) (Or.inr (hw _ (List.mem_of_getElem? (i := 110) rfl))) (by decide) (t := (.array .byte)) (t' := (.array .byte)) (by decide) (by decide)))), by rw [e16]; exact Fw16⟩ (by decide) (by decide)
theorem d16_0 : decode prog_72_method_6_code 0 = .ok (.aload_n 0, 1) := by decide +kernel
theorem d16_1 : decode prog_72_method_6_code 1 = .ok (.getfield 72, 3) := by decide +kernel
theorem d16_4 : decode prog_72_method_6_code 4 = .ok (.ifnonnull 7, 3) := by decide +kernel
theorem d16_7 : decode prog_72_method_6_code 7 = .ok (.aconst_null, 1) := by decide +kernel
theorem d16_8 : decode prog_72_method_6_code 8 = .ok (.goto 13, 3) := by decide +kernel
theorem d16_11 : decode prog_72_method_6_code 11 = .ok (.aload_n 0, 1) := by decide +kernel
theorem d16_12 : decode prog_72_method_6_code 12 = .ok (.getfield 72, 3) := by decide +kernel
theorem d16_15 : decode prog_72_method_6_code 15 = .ok (.invokevirtual 59, 3) := by decide +kernel
theorem d16_18 : decode prog_72_method_6_code 18 = .ok (.checkcast 60, 3) := by decide +kernel
theorem d16_21 : decode prog_72_method_6_code 21 = .ok (.areturn, 1) := by decide +kernel
theorem ef_16n (m : MethodId) (a1 : Addr) : entryFrame m #[(.ref a1)] 1 = mkF m 0 #[.val (.ref a1)] [] := by first | (simp [entryFrame, mkF, argsToLocals, Value.category]; done) | rfl
def Q16n (Z : State) (a1 : Addr)  (h0 : Heap) (n0 : Nat) (v : Option Value) (h : Heap) (L : List Loc) : Prop := v = some .null ∧ Fr n0 L ∧ h = h0
set_option maxRecDepth 65536 in
set_option maxHeartbeats 40000000 in
theorem rm16n (l : Launch) (Z : State) (a0 : Array Value) (hw : ∀ d ∈ tables_1, d.before a0 Z = true) (ws : List Jvm.Cond) (a1 : Addr)  (h0 : Heap) (n0 : Nat) (Z0 : n0 ≤ h0.size) (F : Fld Z h0 a1 "com/example/nests/nests/model/Mutation" "value" "[B" .null) :
    MetFree l (⟨"com/example/nests/nests/model/Mutation", "getValue", "()[B"⟩ : MethodName) (head1 (Jvm.Cond.code (⟨"com/example/nests/nests/model/Mutation", "getValue", "()[B"⟩ : MethodName) prog_72_method_6_code 1 (some (.array .byte)) :: ws) ({ frames := 0, cells := 0, slots := 0, locals := 0 } : Room)) (fun a U => a = #[(.ref a1)] ∧ Z.Warmed39 U.vm ∧ U.heap = h0) (fun _ _ _ _ _ => True) (fun _ U o U' => ∃ v L, o = .returned v ∧ Q16n Z a1  h0 n0 v U'.heap L ∧ FrameEnd U o U' L ({ frames := 0, cells := 0, slots := 0, locals := 0 } : Room).cells ({ frames := 0, cells := 0, slots := 0, locals := 0 } : Room).slots) := by
  refine MetFree.of_bodySF (plainFor_of_name pn_19) hisR ?_
  intro p e s m args below meth c s₁ Bd hml0 hP hK
  obtain ⟨rfl, hZ, hh⟩ := hP
  have hx := Bd.exec
  have hby := Bd.bytes
  have hml : c.maxLocals = 1 := hml0
  have hown : s.vm.findClass "com/example/nests/nests/model/Mutation" = some m.cls := findClass_of_methodNamed Bd.named
  have hnm := (name_of_methodNamed Bd.named Bd.method).1
  have X0 : Stand p l e ({ frames := 0, cells := 0, slots := 0, locals := 0 } : Room) s m #[(.ref a1)] below meth c s₁ [] 0 0 := Stand.of_body Bd
  have e0 : s₁.heap = h0 := by rw [← hh, Bd.state]; rfl
  have N0 := Fr.nil n0
  skip
  show own_Go p e below s (Q16n Z a1  h0 n0) ({ frames := 0, cells := 0, slots := 0, locals := 0 } : Room).cells ({ frames := 0, cells := 0, slots := 0, locals := 0 } : Room).slots _
  refine own_step (B := s₁.setTop (mkF m 0 #[.val (.ref a1)] [])) (fun t k => castTop (ef_16n m a1) k) ?_
  refine own_step (B := s₁.setTop (mkF m 1 #[.val (.ref a1)] [(.ref a1)])) (fun t k => ?_) ?_
  · show Steps p.tables e below (s₁.setTop (mkF m 0 #[.val (.ref a1)] [])) _
    refine XS.aloadN X0.here hx rfl (hb hby d16_0) rfl rfl ?_
    exact k
  obtain ⟨T1, X1, e1, st1⟩ := getF X0 hx hZ hown (host := "") (Or.inl (hw _ (List.mem_of_getElem? (i := 109) rfl))) Via.refl e0 F (g := (mkF m 1 #[.val (.ref a1)] [(.ref a1)])) rfl rfl (hb hby d16_1)
  refine own_step st1 ?_
  show own_Go p e below s _ _ _ (T1.setTop (mkF m 4 #[.val (.ref a1)] [.null]))
  refine own_step (B := T1.setTop (mkF m 21 #[.val (.ref a1)] [.null])) (fun t k => ?_) ?_
  · show Steps p.tables e below (T1.setTop (mkF m 4 #[.val (.ref a1)] [.null])) _
    refine XS.ifnonnullNo X1.here hx rfl (hb hby d16_4) rfl ?_
    refine XS.aconstNull X1.here hx rfl (hb hby d16_7) ?_
    refine XS.goto X1.here hx rfl (pc0 := 8) (pc' := 21) rfl (hb hby d16_8) (by decide) (by decide) ?_
    exact k
  exact own_retR X1 hx Bd.notSynchronized Bd.returns rfl rfl (hb hby d16_21) ⟨rfl, N0, e1⟩ (by decide) (by decide)
theorem ef_16 (m : MethodId) (a1 : Addr) : entryFrame m #[(.ref a1)] 1 = mkF m 0 #[.val (.ref a1)] [] := by first | (simp [entryFrame, mkF, argsToLocals, Value.category]; done) | rfl
def Q16 (Z : State) (a1 : Addr) (r0 : Addr) (k : ClassId) (z : Int32) (vs : List Value) (h0 : Heap) (n0 : Nat) (v : Option Value) (h : Heap) (L : List Loc) : Prop := ∃ r, v = some (.ref r) ∧ Fr n0 L ∧ Keep h0 h [] ∧ h0.size ≤ r ∧ Exa Z h r "[B" ∧ Arv Z h r k .byte z vs (.int (0 : Int32))
set_option maxRecDepth 65536 in
set_option maxHeartbeats 40000000 in
theorem rm16 (l : Launch) (Z : State) (a0 : Array Value) (hw : ∀ d ∈ tables_1, d.before a0 Z = true) (ws : List Jvm.Cond) (a1 : Addr) (r0 : Addr) (k : ClassId) (z : Int32) (vs : List Value) (h0 : Heap) (n0 : Nat) (Z0 : n0 ≤ h0.size) (F : Fld Z h0 a1 "com/example/nests/nests/model/Mutation" "value" "[B" (.ref r0)) (V_r : Arv Z h0 r0 k .byte z vs (.int (0 : Int32))) (E_r : Exa Z h0 r0 "[B") (hz : z.toNatClampNeg ≤ 3) :
    MetFree l (⟨"com/example/nests/nests/model/Mutation", "getValue", "()[B"⟩ : MethodName) (head1 (Jvm.Cond.code (⟨"com/example/nests/nests/model/Mutation", "getValue", "()[B"⟩ : MethodName) prog_72_method_6_code 1 (some (.array .byte)) :: ws) ({ frames := 1, cells := 1, slots := 3, locals := 14 } : Room)) (fun a U => a = #[(.ref a1)] ∧ Z.Warmed39 U.vm ∧ U.heap = h0) (fun _ _ _ _ _ => True) (fun _ U o U' => ∃ v L, o = .returned v ∧ Q16 Z a1 r0 k z vs h0 n0 v U'.heap L ∧ FrameEnd U o U' L ({ frames := 1, cells := 1, slots := 3, locals := 14 } : Room).cells ({ frames := 1, cells := 1, slots := 3, locals := 14 } : Room).slots) := by
  refine MetFree.of_bodySF (plainFor_of_name pn_19) hisR ?_
  intro p e s m args below meth c s₁ Bd hml0 hP hK
  obtain ⟨rfl, hZ, hh⟩ := hP
  have hx := Bd.exec
  have hby := Bd.bytes
  have hml : c.maxLocals = 1 := hml0
  have hown : s.vm.findClass "com/example/nests/nests/model/Mutation" = some m.cls := findClass_of_methodNamed Bd.named
  have hnm := (name_of_methodNamed Bd.named Bd.method).1
  have X0 : Stand p l e ({ frames := 1, cells := 1, slots := 3, locals := 14 } : Room) s m #[(.ref a1)] below meth c s₁ [] 0 0 := Stand.of_body Bd
  have e0 : s₁.heap = h0 := by rw [← hh, Bd.state]; rfl
  have N0 := Fr.nil n0
  skip
  show own_Go p e below s (Q16 Z a1 r0 k z vs h0 n0) ({ frames := 1, cells := 1, slots := 3, locals := 14 } : Room).cells ({ frames := 1, cells := 1, slots := 3, locals := 14 } : Room).slots _
  refine own_step (B := s₁.setTop (mkF m 0 #[.val (.ref a1)] [])) (fun t k => castTop (ef_16 m a1) k) ?_
  have KK0 : Keep h0 h0 [] := Keep.refl h0 _
  refine own_step (B := s₁.setTop (mkF m 1 #[.val (.ref a1)] [(.ref a1)])) (fun t k => ?_) ?_
  · show Steps p.tables e below (s₁.setTop (mkF m 0 #[.val (.ref a1)] [])) _
    refine XS.aloadN X0.here hx rfl (hb hby d16_0) rfl rfl ?_
    exact k
  obtain ⟨T1, X1, e1, st1⟩ := getF X0 hx hZ hown (host := "") (Or.inl (hw _ (List.mem_of_getElem? (i := 109) rfl))) Via.refl e0 F (g := (mkF m 1 #[.val (.ref a1)] [(.ref a1)])) rfl rfl (hb hby d16_1)
  refine own_step st1 ?_
  show own_Go p e below s _ _ _ (T1.setTop (mkF m 4 #[.val (.ref a1)] [(.ref r0)]))
  refine own_step (B := T1.setTop (mkF m 12 #[.val (.ref a1)] [(.ref a1)])) (fun t k => ?_) ?_
  · show Steps p.tables e below (T1.setTop (mkF m 4 #[.val (.ref a1)] [(.ref r0)])) _
    refine XS.ifnonnullYes X1.here hx rfl (pc0 := 4) (pc' := 11) rfl (hb hby d16_4) rfl (by decide) (by decide) ?_
    refine XS.aloadN X1.here hx rfl (hb hby d16_11) rfl rfl ?_
    exact k
  obtain ⟨T2, X2, e2, st2⟩ := getF X1 hx hZ hown (host := "") (Or.inl (hw _ (List.mem_of_getElem? (i := 109) rfl))) Via.refl e1 F (g := (mkF m 12 #[.val (.ref a1)] [(.ref a1)])) rfl rfl (hb hby d16_12)
  refine own_step st2 ?_
  show own_Go p e below s _ _ _ (T2.setTop (mkF m 15 #[.val (.ref a1)] [(.ref r0)]))
  obtain ⟨T3, h3, X3, e3, E3, A3, AE3, st3⟩ := cloneH X2 hx hZ hown (hw _ (List.mem_of_getElem? (i := 96) rfl)) (hw _ (List.mem_of_getElem? (i := 97) rfl)) (hw _ (List.mem_of_getElem? (i := 101) rfl)) (hw _ (List.mem_of_getElem? (i := 99) rfl)) (hw _ (List.mem_of_getElem? (i := 100) rfl)) (hw _ (List.mem_of_getElem? (i := 102) rfl)) e2 (Arv.arh V_r) E_r (g := (mkF m 15 #[.val (.ref a1)] [(.ref r0)])) rfl (by rw [hml]; rfl) rfl (hb hby d16_15) (by decide) (W := 0) (cap := 3) (by show 2 * 0 + _ ≤ _; exact Nat.le_of_eq rfl) (by decide) hz (by decide) (by decide)
  obtain ⟨b3, g3⟩ : ∃ z, z = h0.size := ⟨_, rfl⟩
  rw [← g3] at A3 AE3 st3
  have g_b3 : n0 ≤ b3 := Nat.le_trans Z0 (Nat.le_of_eq g3.symm)
  have ne_a1_b3 : a1 ≠ b3 := Nat.ne_of_lt (Nat.lt_of_lt_of_le F.lt (Nat.le_of_eq g3.symm))
  have ne_r0_b3 : r0 ≠ b3 := Nat.ne_of_lt (Nat.lt_of_lt_of_le V_r.lt (Nat.le_of_eq g3.symm))
  have sz_b3 : h0.size ≤ b3 := Nat.le_trans KK0.1 (Nat.le_of_eq g3.symm)
  have K3 : Keep h0 h3 [] := KK0.ext E3
  refine own_step st3 ?_
  show own_Go p e below s _ _ _ (T3.setTop (mkF m 18 #[.val (.ref a1)] [(.ref b3)]))
  obtain ⟨T4, X4, e4, st4⟩ := castY X3 hx hZ hown (hw _ (List.mem_of_getElem? (i := 103) rfl)) e3 (Ins.self AE3) (g := (mkF m 18 #[.val (.ref a1)] [(.ref b3)])) rfl rfl (hb hby d16_18)
  refine own_step st4 ?_
  show own_Go p e below s _ _ _ (T4.setTop (mkF m 21 #[.val (.ref a1)] [(.ref b3)]))
  exact own_retR X4 hx Bd.notSynchronized Bd.returns rfl rfl (hb hby d16_21) ⟨b3, rfl, N0, by rw [e4]; exact K3, sz_b3, by rw [e4]; exact AE3, by rw [e4]; exact A3⟩ (by decide) (by decide)
theorem d17_0 : decode method_2_code 0 = .ok (.aload_n 0, 1) := by decide +kernel
theorem d17_1 : decode method_2_code 1 = .ok (.ifnull 50, 3) := by decide +kernel
theorem d17_4 : decode method_2_code 4 = .ok (.aload_n 0, 1) := by decide +kernel
theorem d17_5 : decode method_2_code 5 = .ok (.arraylength, 1) := by decide +kernel
theorem d17_6 : decode method_2_code 6 = .ok (.iload_n 1, 1) := by decide +kernel
theorem d17_7 : decode method_2_code 7 = .ok (.if_icmp .ne 44, 3) := by decide +kernel
theorem d17_10 : decode method_2_code 10 = .ok (.iload_n 1, 1) := by decide +kernel
theorem d17_11 : decode method_2_code 11 = .ok (.iconst 1, 1) := by decide +kernel
theorem d17_12 : decode method_2_code 12 = .ok (.if_icmp .lt 10, 3) := by decide +kernel
theorem d17_15 : decode method_2_code 15 = .ok (.aload_n 0, 1) := by decide +kernel
theorem d17_16 : decode method_2_code 16 = .ok (.iconst 0, 1) := by decide +kernel
theorem d17_17 : decode method_2_code 17 = .ok (.baload, 1) := by decide +kernel
theorem d17_18 : decode method_2_code 18 = .ok (.iload_n 2, 1) := by decide +kernel
theorem d17_19 : decode method_2_code 19 = .ok (.if_icmp .ne 32, 3) := by decide +kernel
theorem d17_22 : decode method_2_code 22 = .ok (.iload_n 1, 1) := by decide +kernel
theorem d17_23 : decode method_2_code 23 = .ok (.iconst 2, 1) := by decide +kernel
theorem d17_24 : decode method_2_code 24 = .ok (.if_icmp .lt 10, 3) := by decide +kernel
theorem d17_27 : decode method_2_code 27 = .ok (.aload_n 0, 1) := by decide +kernel
theorem d17_28 : decode method_2_code 28 = .ok (.iconst 1, 1) := by decide +kernel
theorem d17_29 : decode method_2_code 29 = .ok (.baload, 1) := by decide +kernel
theorem d17_30 : decode method_2_code 30 = .ok (.iload_n 3, 1) := by decide +kernel
theorem d17_31 : decode method_2_code 31 = .ok (.if_icmp .ne 20, 3) := by decide +kernel
theorem d17_34 : decode method_2_code 34 = .ok (.iload_n 1, 1) := by decide +kernel
theorem d17_35 : decode method_2_code 35 = .ok (.iconst 3, 1) := by decide +kernel
theorem d17_36 : decode method_2_code 36 = .ok (.if_icmp .lt 11, 3) := by decide +kernel
theorem d17_39 : decode method_2_code 39 = .ok (.aload_n 0, 1) := by decide +kernel
theorem d17_40 : decode method_2_code 40 = .ok (.iconst 2, 1) := by decide +kernel
theorem d17_41 : decode method_2_code 41 = .ok (.baload, 1) := by decide +kernel
theorem d17_42 : decode method_2_code 42 = .ok (.iload 4, 2) := by decide +kernel
theorem d17_44 : decode method_2_code 44 = .ok (.if_icmp .ne 7, 3) := by decide +kernel
theorem d17_47 : decode method_2_code 47 = .ok (.iconst 1, 1) := by decide +kernel
theorem d17_48 : decode method_2_code 48 = .ok (.goto 4, 3) := by decide +kernel
theorem d17_51 : decode method_2_code 51 = .ok (.iconst 0, 1) := by decide +kernel
theorem d17_52 : decode method_2_code 52 = .ok (.ireturn, 1) := by decide +kernel
theorem pn_20 : plainName "com/example/nests/nests/model/MutationGetValuePinLaw" = true := by first | (simp [plainName, overriddenIn]; done) | decide +kernel
theorem ef_17 (m : MethodId) (a1 : Addr) (p2 : Int32) (p3 : Int32) (p4 : Int32) (p5 : Int32) : entryFrame m #[(.ref a1), (.int p2), (.int p3), (.int p4), (.int p5)] 5 = mkF m 0 #[.val (.ref a1), .val (.int p2), .val (.int p3), .val (.int p4), .val (.int p5)] [] := by first | (simp [entryFrame, mkF, argsToLocals, Value.category]; done) | rfl
def Q17 (Z : State) (a1 : Addr) (p2 : Int32) (p3 : Int32) (p4 : Int32) (p5 : Int32) (cl : Cell) (h0 : Heap) (n0 : Nat) (v : Option Value) (h : Heap) (L : List Loc) : Prop := v = some (.int (1 : Int32)) ∧ Fr n0 L ∧ h = h0
set_option maxRecDepth 65536 in
set_option maxHeartbeats 40000000 in
theorem rm17 (l : Launch) (Z : State) (a0 : Array Value) (hw : ∀ d ∈ tables_1, d.before a0 Z = true) (ws : List Jvm.Cond) (a1 : Addr) (p2 : Int32) (p3 : Int32) (p4 : Int32) (p5 : Int32) (cl : Cell) (h0 : Heap) (n0 : Nat) (Z0 : n0 ≤ h0.size) (Ar : Arr Z h0 a1 cl .byte) (hlen : cl.slots.size.toInt32 = p2) (v0 : ¬ (p2 < (1 : Int32)) → ¬ ((0 : Int32) < 0 ∨ cl.slots.size ≤ ((0 : Int32)).toNatClampNeg) ∧ cl.slots[((0 : Int32)).toNatClampNeg]? = some (.int p3)) (v1 : ¬ (p2 < (2 : Int32)) → ¬ ((1 : Int32) < 0 ∨ cl.slots.size ≤ ((1 : Int32)).toNatClampNeg) ∧ cl.slots[((1 : Int32)).toNatClampNeg]? = some (.int p4)) (v2 : ¬ (p2 < (3 : Int32)) → ¬ ((2 : Int32) < 0 ∨ cl.slots.size ≤ ((2 : Int32)).toNatClampNeg) ∧ cl.slots[((2 : Int32)).toNatClampNeg]? = some (.int p5)) :
    MetFree l (⟨"com/example/nests/nests/model/MutationGetValuePinLaw", "same", "([BIBBB)Z"⟩ : MethodName) (head1 (Jvm.Cond.code (⟨"com/example/nests/nests/model/MutationGetValuePinLaw", "same", "([BIBBB)Z"⟩ : MethodName) method_2_code 5 (some .boolean) :: ws) ({ frames := 0, cells := 0, slots := 0, locals := 0 } : Room)) (fun a U => a = #[(.ref a1), (.int p2), (.int p3), (.int p4), (.int p5)] ∧ Z.Warmed39 U.vm ∧ U.heap = h0) (fun _ _ _ _ _ => True) (fun _ U o U' => ∃ v L, o = .returned v ∧ Q17 Z a1 p2 p3 p4 p5 cl h0 n0 v U'.heap L ∧ FrameEnd U o U' L ({ frames := 0, cells := 0, slots := 0, locals := 0 } : Room).cells ({ frames := 0, cells := 0, slots := 0, locals := 0 } : Room).slots) := by
  refine MetFree.of_bodySF (plainFor_of_name pn_20) hisR ?_
  intro p e s m args below meth c s₁ Bd hml0 hP hK
  obtain ⟨rfl, hZ, hh⟩ := hP
  have hx := Bd.exec
  have hby := Bd.bytes
  have hml : c.maxLocals = 5 := hml0
  have hown : s.vm.findClass "com/example/nests/nests/model/MutationGetValuePinLaw" = some m.cls := findClass_of_methodNamed Bd.named
  have hnm := (name_of_methodNamed Bd.named Bd.method).1
  have X0 : Stand p l e ({ frames := 0, cells := 0, slots := 0, locals := 0 } : Room) s m #[(.ref a1), (.int p2), (.int p3), (.int p4), (.int p5)] below meth c s₁ [] 0 0 := Stand.of_body Bd
  have e0 : s₁.heap = h0 := by rw [← hh, Bd.state]; rfl
  have N0 := Fr.nil n0
  skip
  show own_Go p e below s (Q17 Z a1 p2 p3 p4 p5 cl h0 n0) ({ frames := 0, cells := 0, slots := 0, locals := 0 } : Room).cells ({ frames := 0, cells := 0, slots := 0, locals := 0 } : Room).slots _
  refine own_step (B := s₁.setTop (mkF m 0 #[.val (.ref a1), .val (.int p2), .val (.int p3), .val (.int p4), .val (.int p5)] [])) (fun t k => castTop (ef_17 m a1 p2 p3 p4 p5) k) ?_
  refine own_step (B := s₁.setTop (mkF m 12 #[.val (.ref a1), .val (.int p2), .val (.int p3), .val (.int p4), .val (.int p5)] [(.int (1 : Int32)), (.int p2)])) (fun t k => ?_) ?_
  · show Steps p.tables e below (s₁.setTop (mkF m 0 #[.val (.ref a1), .val (.int p2), .val (.int p3), .val (.int p4), .val (.int p5)] [])) _
    refine XS.aloadN X0.here hx rfl (hb hby d17_0) rfl rfl ?_
    refine XS.ifnullNo X0.here hx rfl (hb hby d17_1) rfl ?_
    refine XS.aloadN X0.here hx rfl (hb hby d17_4) rfl rfl ?_
    refine X0.arraylength hx (by rw [e0]; exact Ar.1) (State.isArrayOf_alike hZ.alike Ar.2.1) (g := (mkF m 5 #[.val (.ref a1), .val (.int p2), .val (.int p3), .val (.int p4), .val (.int p5)] [(.ref a1)])) rfl rfl (hb hby d17_5) _ ?_
    rw [hlen]
    refine XS.iloadN X0.here hx rfl (hb hby d17_6) rfl ?_
    refine XS.icmpNo X0.here hx rfl (hb hby d17_7) rfl (teq (rfl : p2 = p2)).2 ?_
    refine XS.iloadN X0.here hx rfl (hb hby d17_10) rfl ?_
    refine XS.iconst X0.here hx rfl (hb hby d17_11) ?_
    exact k
  by_cases hc12 : p2 < (1 : Int32)
  · refine own_step (B := s₁.setTop (mkF m 24 #[.val (.ref a1), .val (.int p2), .val (.int p3), .val (.int p4), .val (.int p5)] [(.int (2 : Int32)), (.int p2)])) (fun t k => ?_) ?_
    · show Steps p.tables e below (s₁.setTop (mkF m 12 #[.val (.ref a1), .val (.int p2), .val (.int p3), .val (.int p4), .val (.int p5)] [(.int (1 : Int32)), (.int p2)])) _
      refine XS.icmpYes X0.here hx rfl (pc0 := 12) (pc' := 22) rfl (hb hby d17_12) rfl (tlt hc12).1 (by decide) (by decide) ?_
      refine XS.iloadN X0.here hx rfl (hb hby d17_22) rfl ?_
      refine XS.iconst X0.here hx rfl (hb hby d17_23) ?_
      exact k
    by_cases hc24 : p2 < (2 : Int32)
    · refine own_step (B := s₁.setTop (mkF m 36 #[.val (.ref a1), .val (.int p2), .val (.int p3), .val (.int p4), .val (.int p5)] [(.int (3 : Int32)), (.int p2)])) (fun t k => ?_) ?_
      · show Steps p.tables e below (s₁.setTop (mkF m 24 #[.val (.ref a1), .val (.int p2), .val (.int p3), .val (.int p4), .val (.int p5)] [(.int (2 : Int32)), (.int p2)])) _
        refine XS.icmpYes X0.here hx rfl (pc0 := 24) (pc' := 34) rfl (hb hby d17_24) rfl (tlt hc24).1 (by decide) (by decide) ?_
        refine XS.iloadN X0.here hx rfl (hb hby d17_34) rfl ?_
        refine XS.iconst X0.here hx rfl (hb hby d17_35) ?_
        exact k
      by_cases hc36 : p2 < (3 : Int32)
      · refine own_step (B := s₁.setTop (mkF m 52 #[.val (.ref a1), .val (.int p2), .val (.int p3), .val (.int p4), .val (.int p5)] [(.int (1 : Int32))])) (fun t k => ?_) ?_
        · show Steps p.tables e below (s₁.setTop (mkF m 36 #[.val (.ref a1), .val (.int p2), .val (.int p3), .val (.int p4), .val (.int p5)] [(.int (3 : Int32)), (.int p2)])) _
          refine XS.icmpYes X0.here hx rfl (pc0 := 36) (pc' := 47) rfl (hb hby d17_36) rfl (tlt hc36).1 (by decide) (by decide) ?_
          refine XS.iconst X0.here hx rfl (hb hby d17_47) ?_
          refine XS.goto X0.here hx rfl (pc0 := 48) (pc' := 52) rfl (hb hby d17_48) (by decide) (by decide) ?_
          exact k
        exact own_retN X0 hx Bd.notSynchronized (t := .boolean) Bd.returns (by simp) (hb hby d17_52) ⟨rfl, N0, e0⟩ (by decide) (by decide)
      · refine own_step (B := s₁.setTop (mkF m 52 #[.val (.ref a1), .val (.int p2), .val (.int p3), .val (.int p4), .val (.int p5)] [(.int (1 : Int32))])) (fun t k => ?_) ?_
        · show Steps p.tables e below (s₁.setTop (mkF m 36 #[.val (.ref a1), .val (.int p2), .val (.int p3), .val (.int p4), .val (.int p5)] [(.int (3 : Int32)), (.int p2)])) _
          refine XS.icmpNo X0.here hx rfl (hb hby d17_36) rfl (flt hc36).1 ?_
          refine XS.aloadN X0.here hx rfl (hb hby d17_39) rfl rfl ?_
          refine XS.iconst X0.here hx rfl (hb hby d17_40) ?_
          refine X0.baloadBytes hx (j := (2 : Int32)) (v := (.int p5)) (by rw [e0]; exact Ar.1) (State.isArrayOf_alike hZ.alike Ar.2.1) Ar.2.2 (v2 hc36).1 (v2 hc36).2 (g := (mkF m 41 #[.val (.ref a1), .val (.int p2), .val (.int p3), .val (.int p4), .val (.int p5)] [(.int (2 : Int32)), (.ref a1)])) rfl rfl (hb hby d17_41) _ ?_
          refine XS.iload X0.here hx rfl (hb hby d17_42) rfl ?_
          refine XS.icmpNo X0.here hx rfl (hb hby d17_44) rfl (teq (rfl : p5 = p5)).2 ?_
          refine XS.iconst X0.here hx rfl (hb hby d17_47) ?_
          refine XS.goto X0.here hx rfl (pc0 := 48) (pc' := 52) rfl (hb hby d17_48) (by decide) (by decide) ?_
          exact k
        exact own_retN X0 hx Bd.notSynchronized (t := .boolean) Bd.returns (by simp) (hb hby d17_52) ⟨rfl, N0, e0⟩ (by decide) (by decide)
    · refine own_step (B := s₁.setTop (mkF m 36 #[.val (.ref a1), .val (.int p2), .val (.int p3), .val (.int p4), .val (.int p5)] [(.int (3 : Int32)), (.int p2)])) (fun t k => ?_) ?_
      · show Steps p.tables e below (s₁.setTop (mkF m 24 #[.val (.ref a1), .val (.int p2), .val (.int p3), .val (.int p4), .val (.int p5)] [(.int (2 : Int32)), (.int p2)])) _
        refine XS.icmpNo X0.here hx rfl (hb hby d17_24) rfl (flt hc24).1 ?_
        refine XS.aloadN X0.here hx rfl (hb hby d17_27) rfl rfl ?_
        refine XS.iconst X0.here hx rfl (hb hby d17_28) ?_
        refine X0.baloadBytes hx (j := (1 : Int32)) (v := (.int p4)) (by rw [e0]; exact Ar.1) (State.isArrayOf_alike hZ.alike Ar.2.1) Ar.2.2 (v1 hc24).1 (v1 hc24).2 (g := (mkF m 29 #[.val (.ref a1), .val (.int p2), .val (.int p3), .val (.int p4), .val (.int p5)] [(.int (1 : Int32)), (.ref a1)])) rfl rfl (hb hby d17_29) _ ?_
        refine XS.iloadN X0.here hx rfl (hb hby d17_30) rfl ?_
        refine XS.icmpNo X0.here hx rfl (hb hby d17_31) rfl (teq (rfl : p4 = p4)).2 ?_
        refine XS.iloadN X0.here hx rfl (hb hby d17_34) rfl ?_
        refine XS.iconst X0.here hx rfl (hb hby d17_35) ?_
        exact k
      by_cases hc36 : p2 < (3 : Int32)
      · refine own_step (B := s₁.setTop (mkF m 52 #[.val (.ref a1), .val (.int p2), .val (.int p3), .val (.int p4), .val (.int p5)] [(.int (1 : Int32))])) (fun t k => ?_) ?_
        · show Steps p.tables e below (s₁.setTop (mkF m 36 #[.val (.ref a1), .val (.int p2), .val (.int p3), .val (.int p4), .val (.int p5)] [(.int (3 : Int32)), (.int p2)])) _
          refine XS.icmpYes X0.here hx rfl (pc0 := 36) (pc' := 47) rfl (hb hby d17_36) rfl (tlt hc36).1 (by decide) (by decide) ?_
          refine XS.iconst X0.here hx rfl (hb hby d17_47) ?_
          refine XS.goto X0.here hx rfl (pc0 := 48) (pc' := 52) rfl (hb hby d17_48) (by decide) (by decide) ?_
          exact k
        exact own_retN X0 hx Bd.notSynchronized (t := .boolean) Bd.returns (by simp) (hb hby d17_52) ⟨rfl, N0, e0⟩ (by decide) (by decide)
      · refine own_step (B := s₁.setTop (mkF m 52 #[.val (.ref a1), .val (.int p2), .val (.int p3), .val (.int p4), .val (.int p5)] [(.int (1 : Int32))])) (fun t k => ?_) ?_
        · show Steps p.tables e below (s₁.setTop (mkF m 36 #[.val (.ref a1), .val (.int p2), .val (.int p3), .val (.int p4), .val (.int p5)] [(.int (3 : Int32)), (.int p2)])) _
          refine XS.icmpNo X0.here hx rfl (hb hby d17_36) rfl (flt hc36).1 ?_
          refine XS.aloadN X0.here hx rfl (hb hby d17_39) rfl rfl ?_
          refine XS.iconst X0.here hx rfl (hb hby d17_40) ?_
          refine X0.baloadBytes hx (j := (2 : Int32)) (v := (.int p5)) (by rw [e0]; exact Ar.1) (State.isArrayOf_alike hZ.alike Ar.2.1) Ar.2.2 (v2 hc36).1 (v2 hc36).2 (g := (mkF m 41 #[.val (.ref a1), .val (.int p2), .val (.int p3), .val (.int p4), .val (.int p5)] [(.int (2 : Int32)), (.ref a1)])) rfl rfl (hb hby d17_41) _ ?_
          refine XS.iload X0.here hx rfl (hb hby d17_42) rfl ?_
          refine XS.icmpNo X0.here hx rfl (hb hby d17_44) rfl (teq (rfl : p5 = p5)).2 ?_
          refine XS.iconst X0.here hx rfl (hb hby d17_47) ?_
          refine XS.goto X0.here hx rfl (pc0 := 48) (pc' := 52) rfl (hb hby d17_48) (by decide) (by decide) ?_
          exact k
        exact own_retN X0 hx Bd.notSynchronized (t := .boolean) Bd.returns (by simp) (hb hby d17_52) ⟨rfl, N0, e0⟩ (by decide) (by decide)
  · refine own_step (B := s₁.setTop (mkF m 24 #[.val (.ref a1), .val (.int p2), .val (.int p3), .val (.int p4), .val (.int p5)] [(.int (2 : Int32)), (.int p2)])) (fun t k => ?_) ?_
    · show Steps p.tables e below (s₁.setTop (mkF m 12 #[.val (.ref a1), .val (.int p2), .val (.int p3), .val (.int p4), .val (.int p5)] [(.int (1 : Int32)), (.int p2)])) _
      refine XS.icmpNo X0.here hx rfl (hb hby d17_12) rfl (flt hc12).1 ?_
      refine XS.aloadN X0.here hx rfl (hb hby d17_15) rfl rfl ?_
      refine XS.iconst X0.here hx rfl (hb hby d17_16) ?_
      refine X0.baloadBytes hx (j := (0 : Int32)) (v := (.int p3)) (by rw [e0]; exact Ar.1) (State.isArrayOf_alike hZ.alike Ar.2.1) Ar.2.2 (v0 hc12).1 (v0 hc12).2 (g := (mkF m 17 #[.val (.ref a1), .val (.int p2), .val (.int p3), .val (.int p4), .val (.int p5)] [(.int (0 : Int32)), (.ref a1)])) rfl rfl (hb hby d17_17) _ ?_
      refine XS.iloadN X0.here hx rfl (hb hby d17_18) rfl ?_
      refine XS.icmpNo X0.here hx rfl (hb hby d17_19) rfl (teq (rfl : p3 = p3)).2 ?_
      refine XS.iloadN X0.here hx rfl (hb hby d17_22) rfl ?_
      refine XS.iconst X0.here hx rfl (hb hby d17_23) ?_
      exact k
    by_cases hc24 : p2 < (2 : Int32)
    · refine own_step (B := s₁.setTop (mkF m 36 #[.val (.ref a1), .val (.int p2), .val (.int p3), .val (.int p4), .val (.int p5)] [(.int (3 : Int32)), (.int p2)])) (fun t k => ?_) ?_
      · show Steps p.tables e below (s₁.setTop (mkF m 24 #[.val (.ref a1), .val (.int p2), .val (.int p3), .val (.int p4), .val (.int p5)] [(.int (2 : Int32)), (.int p2)])) _
        refine XS.icmpYes X0.here hx rfl (pc0 := 24) (pc' := 34) rfl (hb hby d17_24) rfl (tlt hc24).1 (by decide) (by decide) ?_
        refine XS.iloadN X0.here hx rfl (hb hby d17_34) rfl ?_
        refine XS.iconst X0.here hx rfl (hb hby d17_35) ?_
        exact k
      by_cases hc36 : p2 < (3 : Int32)
      · refine own_step (B := s₁.setTop (mkF m 52 #[.val (.ref a1), .val (.int p2), .val (.int p3), .val (.int p4), .val (.int p5)] [(.int (1 : Int32))])) (fun t k => ?_) ?_
        · show Steps p.tables e below (s₁.setTop (mkF m 36 #[.val (.ref a1), .val (.int p2), .val (.int p3), .val (.int p4), .val (.int p5)] [(.int (3 : Int32)), (.int p2)])) _
          refine XS.icmpYes X0.here hx rfl (pc0 := 36) (pc' := 47) rfl (hb hby d17_36) rfl (tlt hc36).1 (by decide) (by decide) ?_
          refine XS.iconst X0.here hx rfl (hb hby d17_47) ?_
          refine XS.goto X0.here hx rfl (pc0 := 48) (pc' := 52) rfl (hb hby d17_48) (by decide) (by decide) ?_
          exact k
        exact own_retN X0 hx Bd.notSynchronized (t := .boolean) Bd.returns (by simp) (hb hby d17_52) ⟨rfl, N0, e0⟩ (by decide) (by decide)
      · refine own_step (B := s₁.setTop (mkF m 52 #[.val (.ref a1), .val (.int p2), .val (.int p3), .val (.int p4), .val (.int p5)] [(.int (1 : Int32))])) (fun t k => ?_) ?_
        · show Steps p.tables e below (s₁.setTop (mkF m 36 #[.val (.ref a1), .val (.int p2), .val (.int p3), .val (.int p4), .val (.int p5)] [(.int (3 : Int32)), (.int p2)])) _
          refine XS.icmpNo X0.here hx rfl (hb hby d17_36) rfl (flt hc36).1 ?_
          refine XS.aloadN X0.here hx rfl (hb hby d17_39) rfl rfl ?_
          refine XS.iconst X0.here hx rfl (hb hby d17_40) ?_
          refine X0.baloadBytes hx (j := (2 : Int32)) (v := (.int p5)) (by rw [e0]; exact Ar.1) (State.isArrayOf_alike hZ.alike Ar.2.1) Ar.2.2 (v2 hc36).1 (v2 hc36).2 (g := (mkF m 41 #[.val (.ref a1), .val (.int p2), .val (.int p3), .val (.int p4), .val (.int p5)] [(.int (2 : Int32)), (.ref a1)])) rfl rfl (hb hby d17_41) _ ?_
          refine XS.iload X0.here hx rfl (hb hby d17_42) rfl ?_
          refine XS.icmpNo X0.here hx rfl (hb hby d17_44) rfl (teq (rfl : p5 = p5)).2 ?_
          refine XS.iconst X0.here hx rfl (hb hby d17_47) ?_
          refine XS.goto X0.here hx rfl (pc0 := 48) (pc' := 52) rfl (hb hby d17_48) (by decide) (by decide) ?_
          exact k
        exact own_retN X0 hx Bd.notSynchronized (t := .boolean) Bd.returns (by simp) (hb hby d17_52) ⟨rfl, N0, e0⟩ (by decide) (by decide)
    · refine own_step (B := s₁.setTop (mkF m 36 #[.val (.ref a1), .val (.int p2), .val (.int p3), .val (.int p4), .val (.int p5)] [(.int (3 : Int32)), (.int p2)])) (fun t k => ?_) ?_
      · show Steps p.tables e below (s₁.setTop (mkF m 24 #[.val (.ref a1), .val (.int p2), .val (.int p3), .val (.int p4), .val (.int p5)] [(.int (2 : Int32)), (.int p2)])) _
        refine XS.icmpNo X0.here hx rfl (hb hby d17_24) rfl (flt hc24).1 ?_
        refine XS.aloadN X0.here hx rfl (hb hby d17_27) rfl rfl ?_
        refine XS.iconst X0.here hx rfl (hb hby d17_28) ?_
        refine X0.baloadBytes hx (j := (1 : Int32)) (v := (.int p4)) (by rw [e0]; exact Ar.1) (State.isArrayOf_alike hZ.alike Ar.2.1) Ar.2.2 (v1 hc24).1 (v1 hc24).2 (g := (mkF m 29 #[.val (.ref a1), .val (.int p2), .val (.int p3), .val (.int p4), .val (.int p5)] [(.int (1 : Int32)), (.ref a1)])) rfl rfl (hb hby d17_29) _ ?_
        refine XS.iloadN X0.here hx rfl (hb hby d17_30) rfl ?_
        refine XS.icmpNo X0.here hx rfl (hb hby d17_31) rfl (teq (rfl : p4 = p4)).2 ?_
        refine XS.iloadN X0.here hx rfl (hb hby d17_34) rfl ?_
        refine XS.iconst X0.here hx rfl (hb hby d17_35) ?_
        exact k
      by_cases hc36 : p2 < (3 : Int32)
      · refine own_step (B := s₁.setTop (mkF m 52 #[.val (.ref a1), .val (.int p2), .val (.int p3), .val (.int p4), .val (.int p5)] [(.int (1 : Int32))])) (fun t k => ?_) ?_
        · show Steps p.tables e below (s₁.setTop (mkF m 36 #[.val (.ref a1), .val (.int p2), .val (.int p3), .val (.int p4), .val (.int p5)] [(.int (3 : Int32)), (.int p2)])) _
          refine XS.icmpYes X0.here hx rfl (pc0 := 36) (pc' := 47) rfl (hb hby d17_36) rfl (tlt hc36).1 (by decide) (by decide) ?_
          refine XS.iconst X0.here hx rfl (hb hby d17_47) ?_
          refine XS.goto X0.here hx rfl (pc0 := 48) (pc' := 52) rfl (hb hby d17_48) (by decide) (by decide) ?_
          exact k
        exact own_retN X0 hx Bd.notSynchronized (t := .boolean) Bd.returns (by simp) (hb hby d17_52) ⟨rfl, N0, e0⟩ (by decide) (by decide)
      · refine own_step (B := s₁.setTop (mkF m 52 #[.val (.ref a1), .val (.int p2), .val (.int p3), .val (.int p4), .val (.int p5)] [(.int (1 : Int32))])) (fun t k => ?_) ?_
        · show Steps p.tables e below (s₁.setTop (mkF m 36 #[.val (.ref a1), .val (.int p2), .val (.int p3), .val (.int p4), .val (.int p5)] [(.int (3 : Int32)), (.int p2)])) _
          refine XS.icmpNo X0.here hx rfl (hb hby d17_36) rfl (flt hc36).1 ?_
          refine XS.aloadN X0.here hx rfl (hb hby d17_39) rfl rfl ?_
          refine XS.iconst X0.here hx rfl (hb hby d17_40) ?_
          refine X0.baloadBytes hx (j := (2 : Int32)) (v := (.int p5)) (by rw [e0]; exact Ar.1) (State.isArrayOf_alike hZ.alike Ar.2.1) Ar.2.2 (v2 hc36).1 (v2 hc36).2 (g := (mkF m 41 #[.val (.ref a1), .val (.int p2), .val (.int p3), .val (.int p4), .val (.int p5)] [(.int (2 : Int32)), (.ref a1)])) rfl rfl (hb hby d17_41) _ ?_
          refine XS.iload X0.here hx rfl (hb hby d17_42) rfl ?_
          refine XS.icmpNo X0.here hx rfl (hb hby d17_44) rfl (teq (rfl : p5 = p5)).2 ?_
          refine XS.iconst X0.here hx rfl (hb hby d17_47) ?_
          refine XS.goto X0.here hx rfl (pc0 := 48) (pc' := 52) rfl (hb hby d17_48) (by decide) (by decide) ?_
          exact k
        exact own_retN X0 hx Bd.notSynchronized (t := .boolean) Bd.returns (by simp) (hb hby d17_52) ⟨rfl, N0, e0⟩ (by decide) (by decide)
theorem pd_21 : parseMethodDescriptor "(Lcom/example/nests/nests/model/Mutation$Kind;Ljava/lang/String;[BJ[B)V" = some ⟨[(.object "com/example/nests/nests/model/Mutation$Kind"), (.object "java/lang/String"), (.array .byte), .long, (.array .byte)], none⟩ := by decide +kernel
theorem pd_22 : parseMethodDescriptor "()[B" = some ⟨[], some (.array .byte)⟩ := by decide +kernel
theorem pd_23 : parseMethodDescriptor "([BIBBB)Z" = some ⟨[(.array .byte), .int, .byte, .byte, .byte], some .boolean⟩ := by decide +kernel
theorem own_i8 (x : Int32) : nar .byte (x.toInt8.toInt32) = x.toInt8.toInt32 := by show x.toInt8.toInt32.toInt8.toInt32 = _; simp
theorem own_npos {N : Int32} (h : (0 : Int32) < N) : ¬ (N < (1 : Int32)) := by
  rw [Int32.lt_iff_toInt_lt] at *
  have e0 : (0 : Int32).toInt = 0 := rfl
  have e1 : (1 : Int32).toInt = 1 := rfl
  omega
theorem ef_0 (m : MethodId) (ks : Int32) (len : Int32) (byt : Int32) (tms : Int64) (qb : Int32) : entryFrame m #[(.int ks), (.int len), (.int byt), (.long tms), (.int qb)] maxLocals = mkF m 0 #[.val (.int ks), .val (.int len), .val (.int byt), .val (.long tms), .second, .val (.int qb), .unset, .unset, .unset, .unset, .unset, .unset, .unset, .unset, .unset, .unset, .unset, .unset, .unset, .unset, .unset, .unset, .unset] [] := by first | (simp [entryFrame, mkF, argsToLocals, Value.category, maxLocals]; done) | rfl
def Q0 (Z : State) (ks : Int32) (len : Int32) (byt : Int32) (tms : Int64) (qb : Int32) (x0 : Addr) (x1 : Addr) (x2 : Addr) (x3 : Addr) (x4 : Addr) (x5 : Addr) (x6 : Addr) (tC : Addr) (tF : Addr) (tR : Addr) (cs : Int32) (vf : Value) (h0 : Heap) (n0 : Nat) (v : Option Value) (h : Heap) (L : List Loc) : Prop := v = some (.int (1 : Int32)) ∧ Fr n0 L
set_option maxRecDepth 65536 in
set_option maxHeartbeats 40000000 in
theorem rm0 (l : Launch) (Z : State) (a0 : Array Value) (hw : ∀ d ∈ tables_1, d.before a0 Z = true) (ws : List Jvm.Cond) (ks : Int32) (len : Int32) (byt : Int32) (tms : Int64) (qb : Int32) (x0 : Addr) (x1 : Addr) (x2 : Addr) (x3 : Addr) (x4 : Addr) (x5 : Addr) (x6 : Addr) (tC : Addr) (tF : Addr) (tR : Addr) (cs : Int32) (vf : Value) (h0 : Heap) (n0 : Nat) (Z0 : n0 ≤ h0.size) (O0 : Old Z n0 h0) (hn0 : n0 = h0.size) (hcw : Jvm.Lit.compactW.before a0 Z = true) (hh0 : Jvm.Lit.constHeld Z "com/example/nests/nests/model/MutationGetValuePinLaw" 32) (S_C : Sta Z h0 "java/lang/String" "COMPACT_STRINGS" "Z" (.int cs)) (hcs : ¬ (cs = (0 : Int32))) (S_F : Sta Z h0 "jdk/internal/util/Preconditions" "SIOOBE_FORMATTER" "Ljava/util/function/BiFunction;" vf) (hvf : vf.isRef = true) (S_SET : Sta Z h0 "com/example/nests/nests/model/Mutation$Kind" "SET" "Lcom/example/nests/nests/model/Mutation$Kind;" (.ref x0)) (E_SET : Exa Z h0 x0 "com/example/nests/nests/model/Mutation$Kind") (Ft_SET : Fld Z h0 x0 "com/example/nests/nests/model/Mutation$Kind" "target" "Lcom/example/nests/nests/model/Mutation$Target;" (.ref tC)) (Fv_SET : Fld Z h0 x0 "com/example/nests/nests/model/Mutation$Kind" "takesValue" "Z" (.int (1 : Int32))) (Fs_SET : Fld Z h0 x0 "com/example/nests/nests/model/Mutation$Kind" "takesTimestamp" "Z" (.int (0 : Int32))) (S_SET_AT : Sta Z h0 "com/example/nests/nests/model/Mutation$Kind" "SET_AT" "Lcom/example/nests/nests/model/Mutation$Kind;" (.ref x1)) (E_SET_AT : Exa Z h0 x1 "com/example/nests/nests/model/Mutation$Kind") (Ft_SET_AT : Fld Z h0 x1 "com/example/nests/nests/model/Mutation$Kind" "target" "Lcom/example/nests/nests/model/Mutation$Target;" (.ref tC)) (Fv_SET_AT : Fld Z h0 x1 "com/example/nests/nests/model/Mutation$Kind" "takesValue" "Z" (.int (1 : Int32))) (Fs_SET_AT : Fld Z h0 x1 "com/example/nests/nests/model/Mutation$Kind" "takesTimestamp" "Z" (.int (1 : Int32))) (S_DELETE : Sta Z h0 "com/example/nests/nests/model/Mutation$Kind" "DELETE" "Lcom/example/nests/nests/model/Mutation$Kind;" (.ref x2)) (E_DELETE : Exa Z h0 x2 "com/example/nests/nests/model/Mutation$Kind") (Ft_DELETE : Fld Z h0 x2 "com/example/nests/nests/model/Mutation$Kind" "target" "Lcom/example/nests/nests/model/Mutation$Target;" (.ref tC)) (Fv_DELETE : Fld Z h0 x2 "com/example/nests/nests/model/Mutation$Kind" "takesValue" "Z" (.int (0 : Int32))) (Fs_DELETE : Fld Z h0 x2 "com/example/nests/nests/model/Mutation$Kind" "takesTimestamp" "Z" (.int (0 : Int32))) (S_DELETE_AT : Sta Z h0 "com/example/nests/nests/model/Mutation$Kind" "DELETE_AT" "Lcom/example/nests/nests/model/Mutation$Kind;" (.ref x3)) (E_DELETE_AT : Exa Z h0 x3 "com/example/nests/nests/model/Mutation$Kind") (Ft_DELETE_AT : Fld Z h0 x3 "com/example/nests/nests/model/Mutation$Kind" "target" "Lcom/example/nests/nests/model/Mutation$Target;" (.ref tC)) (Fv_DELETE_AT : Fld Z h0 x3 "com/example/nests/nests/model/Mutation$Kind" "takesValue" "Z" (.int (0 : Int32))) (Fs_DELETE_AT : Fld Z h0 x3 "com/example/nests/nests/model/Mutation$Kind" "takesTimestamp" "Z" (.int (1 : Int32))) (S_DELETE_UPTO : Sta Z h0 "com/example/nests/nests/model/Mutation$Kind" "DELETE_UPTO" "Lcom/example/nests/nests/model/Mutation$Kind;" (.ref x4)) (E_DELETE_UPTO : Exa Z h0 x4 "com/example/nests/nests/model/Mutation$Kind") (Ft_DELETE_UPTO : Fld Z h0 x4 "com/example/nests/nests/model/Mutation$Kind" "target" "Lcom/example/nests/nests/model/Mutation$Target;" (.ref tC)) (Fv_DELETE_UPTO : Fld Z h0 x4 "com/example/nests/nests/model/Mutation$Kind" "takesValue" "Z" (.int (0 : Int32))) (Fs_DELETE_UPTO : Fld Z h0 x4 "com/example/nests/nests/model/Mutation$Kind" "takesTimestamp" "Z" (.int (1 : Int32))) (S_DELETE_FAMILY : Sta Z h0 "com/example/nests/nests/model/Mutation$Kind" "DELETE_FAMILY" "Lcom/example/nests/nests/model/Mutation$Kind;" (.ref x5)) (E_DELETE_FAMILY : Exa Z h0 x5 "com/example/nests/nests/model/Mutation$Kind") (Ft_DELETE_FAMILY : Fld Z h0 x5 "com/example/nests/nests/model/Mutation$Kind" "target" "Lcom/example/nests/nests/model/Mutation$Target;" (.ref tF)) (Fv_DELETE_FAMILY : Fld Z h0 x5 "com/example/nests/nests/model/Mutation$Kind" "takesValue" "Z" (.int (0 : Int32))) (Fs_DELETE_FAMILY : Fld Z h0 x5 "com/example/nests/nests/model/Mutation$Kind" "takesTimestamp" "Z" (.int (0 : Int32))) (S_DELETE_ROW : Sta Z h0 "com/example/nests/nests/model/Mutation$Kind" "DELETE_ROW" "Lcom/example/nests/nests/model/Mutation$Kind;" (.ref x6)) (E_DELETE_ROW : Exa Z h0 x6 "com/example/nests/nests/model/Mutation$Kind") (Ft_DELETE_ROW : Fld Z h0 x6 "com/example/nests/nests/model/Mutation$Kind" "target" "Lcom/example/nests/nests/model/Mutation$Target;" (.ref tR)) (Fv_DELETE_ROW : Fld Z h0 x6 "com/example/nests/nests/model/Mutation$Kind" "takesValue" "Z" (.int (0 : Int32))) (Fs_DELETE_ROW : Fld Z h0 x6 "com/example/nests/nests/model/Mutation$Kind" "takesTimestamp" "Z" (.int (0 : Int32))) (S_R : Sta Z h0 "com/example/nests/nests/model/Mutation$Target" "ROW" "Lcom/example/nests/nests/model/Mutation$Target;" (.ref tR)) (S_L : Sta Z h0 "com/example/nests/nests/model/Mutation$Target" "COLUMN" "Lcom/example/nests/nests/model/Mutation$Target;" (.ref tC)) (nCR : ¬ (tC = tR)) (nFR : ¬ (tF = tR)) (nFC : ¬ (tF = tC)) :
    MetFree l x (head1 (Jvm.Cond.code x code maxLocals ret :: ws) room_1) (fun a U => a = #[(.int ks), (.int len), (.int byt), (.long tms), (.int qb)] ∧ Z.Warmed39 U.vm ∧ U.heap = h0 ∧ IB Z U.vm []) (fun _ _ _ _ _ => True) (fun _ U o U' => ∃ v L, o = .returned v ∧ Q0 Z ks len byt tms qb x0 x1 x2 x3 x4 x5 x6 tC tF tR cs vf h0 n0 v U'.heap L ∧ ReturnedEndW U o U' L room_1.cells room_1.slots) := by
  refine MetFree.of_bodySF (plainFor_of_name pn_20) hisR ?_
  intro p e s m args below meth c s₁ Bd hml0 hP hK
  obtain ⟨rfl, hZ, hh, I0⟩ := hP
  have hx := Bd.exec
  have hby := Bd.bytes
  have hml : c.maxLocals = 23 := hml0
  have hown : s.vm.findClass "com/example/nests/nests/model/MutationGetValuePinLaw" = some m.cls := findClass_of_methodNamed Bd.named
  have hnm := (name_of_methodNamed Bd.named Bd.method).1
  have X0 : Stand p l e room_1 (s.setVm s.vm) m #[(.int ks), (.int len), (.int byt), (.long tms), (.int qb)] below meth c s₁ [] 0 0 := Stand.of_body Bd
  have e0 : s₁.heap = h0 := by rw [← hh, Bd.state]; rfl
  have N0 := Fr.nil n0
  have hS0 : s.Since s.vm s.heap.size := (State.WarmedH.refl s).since _
  have hk0 : s.heap.size ≤ h0.size := by rw [hh]; exact Nat.le_refl _
  show own_GoW p e below s (Q0 Z ks len byt tms qb x0 x1 x2 x3 x4 x5 x6 tC tF tR cs vf h0 n0) room_1.cells room_1.slots _
  refine own_stepW (B := s₁.setTop (mkF m 0 #[.val (.int ks), .val (.int len), .val (.int byt), .val (.long tms), .second, .val (.int qb), .unset, .unset, .unset, .unset, .unset, .unset, .unset, .unset, .unset, .unset, .unset, .unset, .unset, .unset, .unset, .unset, .unset] [])) (fun t k => castTop (ef_0 m ks len byt tms qb) k) ?_
  have wS : ∀ a ∈ Bundle.stringAtoms, a.before a0 Z = true := by
    intro a ha
    simp only [Bundle.stringAtoms, Bundle.sN, List.mem_cons, List.not_mem_nil, or_false] at ha
    rcases ha with rfl | rfl | rfl | rfl | rfl | rfl | rfl
    · exact (hw _ (List.mem_of_getElem? (i := 6) rfl))
    · exact (hw _ (List.mem_of_getElem? (i := 7) rfl))
    · exact (hw _ (List.mem_of_getElem? (i := 4) rfl))
    · exact (hw _ (List.mem_of_getElem? (i := 8) rfl))
    · exact (hw _ (List.mem_of_getElem? (i := 9) rfl))
    · exact (hw _ (List.mem_of_getElem? (i := 10) rfl))
    · exact (hw _ (List.mem_of_getElem? (i := 11) rfl))
  have hkeep : ∀ (b : Addr) (cl : Cell), Z.heap[b]? = some cl → s.heap[b]? = some cl := fun b cl q => by rw [hh]; exact O0.2.2 b cl q
  have cont_cv : ∀ (kx : Addr) (tt sel NN c0 c1 c2 : Int32) (vb : Addr) (kv : ClassId) (vs : List Value) (Tc : State) (hc : Heap) (lc : List Loc), (Exa Z h0 kx "com/example/nests/nests/model/Mutation$Kind") → (Fld Z h0 kx "com/example/nests/nests/model/Mutation$Kind" "target" "Lcom/example/nests/nests/model/Mutation$Target;" (.ref tC)) → (Fld Z h0 kx "com/example/nests/nests/model/Mutation$Kind" "takesValue" "Z" (.int (1 : Int32))) → (Fld Z h0 kx "com/example/nests/nests/model/Mutation$Kind" "takesTimestamp" "Z" (.int tt)) → (tt = 0 ∨ tt = 1) → Stand p l e room_1 (s.setVm s.vm) m #[(.int ks), (.int len), (.int byt), (.long tms), (.int qb)] below meth c Tc lc 1 3 → Tc.heap = hc → Fr n0 lc → Keep h0 hc [] → h0.size ≤ vb → Exa Z hc vb "[B" → Arv Z hc vb kv .byte NN vs (.int (0 : Int32)) → NN.toNatClampNeg ≤ 3 → ¬ (NN < 0) → (¬ (NN < (1 : Int32)) → vs.getD 0 (.int (0 : Int32)) = .int c0) → (¬ (NN < (2 : Int32)) → vs.getD 1 (.int (0 : Int32)) = .int c1) → (¬ (NN < (3 : Int32)) → vs.getD 2 (.int (0 : Int32)) = .int c2) → own_GoW p e below s (Q0 Z ks len byt tms qb x0 x1 x2 x3 x4 x5 x6 tC tF tR cs vf h0 n0) room_1.cells room_1.slots (Tc.setTop (mkF m 224 #[.val (.int ks), .val (.int len), .val (.int byt), .val (.long tms), .second, .val (.int qb), .val (.int sel), .val (.ref kx), .val (.int (1 : Int32)), .val (.int tt), .val (.int (2 : Int32)), .val (.int NN), .val (.int c0), .val (.int c1), .val (.int c2), .val (.ref vb), .unset, .unset, .unset, .unset, .unset, .unset, .unset] [])) := by
    intro kx tt sel NN c0 c1 c2 vb kv vs Tc hc lc Ek Ft Fv Fs htt Xc ec Nc Kc szv Ev Vv hN3 hN0 w0 w1 w2
    clear S_SET E_SET Ft_SET Fv_SET Fs_SET S_SET_AT E_SET_AT Ft_SET_AT Fv_SET_AT Fs_SET_AT S_DELETE E_DELETE Ft_DELETE Fv_DELETE Fs_DELETE S_DELETE_AT E_DELETE_AT Ft_DELETE_AT Fv_DELETE_AT Fs_DELETE_AT S_DELETE_UPTO E_DELETE_UPTO Ft_DELETE_UPTO Fv_DELETE_UPTO Fs_DELETE_UPTO S_DELETE_FAMILY E_DELETE_FAMILY Ft_DELETE_FAMILY Fv_DELETE_FAMILY Fs_DELETE_FAMILY S_DELETE_ROW E_DELETE_ROW Ft_DELETE_ROW Fv_DELETE_ROW Fs_DELETE_ROW
    have g_vb : n0 ≤ vb := Nat.le_trans Z0 szv
    refine own_stepW (B := Tc.setTop (mkF m 233 #[.val (.int ks), .val (.int len), .val (.int byt), .val (.long tms), .second, .val (.int qb), .val (.int sel), .val (.ref kx), .val (.int (1 : Int32)), .val (.int tt), .val (.int (2 : Int32)), .val (.int NN), .val (.int c0), .val (.int c1), .val (.int c2), .val (.ref vb), .unset, .unset, .unset, .unset, .unset, .unset, .unset] [])) (fun t k => ?_) ?_
    · show Steps p.tables e below (Tc.setTop (mkF m 224 #[.val (.int ks), .val (.int len), .val (.int byt), .val (.long tms), .second, .val (.int qb), .val (.int sel), .val (.ref kx), .val (.int (1 : Int32)), .val (.int tt), .val (.int (2 : Int32)), .val (.int NN), .val (.int c0), .val (.int c1), .val (.int c2), .val (.ref vb), .unset, .unset, .unset, .unset, .unset, .unset, .unset] [])) _
      refine XS.iload Xc.here hx rfl (hb hby at_224) rfl ?_
      refine XS.ifYes Xc.here hx rfl (pc0 := 226) (pc' := 233) rfl (hb hby at_226) rfl ((if0 _ _).trans (feq (by decide : ¬ ((2 : Int32) = (0 : Int32)))).2) (by decide) (by decide) ?_
      exact k
    obtain ⟨sa1, T1, h1, kn1, sb1, sk1, X1, e1, E1, hS1, hk1, hZ, hown, Es1, Fc1, Fv1, Vs1, la1, lb1, I1, Lt1, st1⟩ := ldcSVL Xc hx hZ hown (hw _ (List.mem_of_getElem? (i := 5) rfl)) wS ec hS0 (Nat.le_trans hk0 Kc.1) (by rw [hh, ← hn0]; exact Nc) hkeep I0 (by decide) hh0 hcw (vs := [(.int (102 : Int32))]) (z := (1 : Int32)) ⟨by decide, by decide⟩ (by decide) rfl (g := (mkF m 233 #[.val (.int ks), .val (.int len), .val (.int byt), .val (.long tms), .second, .val (.int qb), .val (.int sel), .val (.ref kx), .val (.int (1 : Int32)), .val (.int tt), .val (.int (2 : Int32)), .val (.int NN), .val (.int c0), .val (.int c1), .val (.int c2), .val (.ref vb), .unset, .unset, .unset, .unset, .unset, .unset, .unset] [])) rfl (hb hby at_233) (n := 4) (by decide) (by decide) (by decide) (by decide)
    refine own_stepW st1 ?_
    show own_GoW p e below s _ _ _ (T1.setTop (mkF m 235 #[.val (.int ks), .val (.int len), .val (.int byt), .val (.long tms), .second, .val (.int qb), .val (.int sel), .val (.ref kx), .val (.int (1 : Int32)), .val (.int tt), .val (.int (2 : Int32)), .val (.int NN), .val (.int c0), .val (.int c1), .val (.int c2), .val (.ref vb), .unset, .unset, .unset, .unset, .unset, .unset, .unset] [(.ref sa1)]))
    refine own_stepW (B := T1.setTop (mkF m 244 #[.val (.int ks), .val (.int len), .val (.int byt), .val (.long tms), .second, .val (.int qb), .val (.int sel), .val (.ref kx), .val (.int (1 : Int32)), .val (.int tt), .val (.int (2 : Int32)), .val (.int NN), .val (.int c0), .val (.int c1), .val (.int c2), .val (.ref vb), .val (.ref sa1), .unset, .unset, .unset, .unset, .unset, .unset] [(.int (1 : Int32))])) (fun t k => ?_) ?_
    · show Steps p.tables e below (T1.setTop (mkF m 235 #[.val (.int ks), .val (.int len), .val (.int byt), .val (.long tms), .second, .val (.int qb), .val (.int sel), .val (.ref kx), .val (.int (1 : Int32)), .val (.int tt), .val (.int (2 : Int32)), .val (.int NN), .val (.int c0), .val (.int c1), .val (.int c2), .val (.ref vb), .unset, .unset, .unset, .unset, .unset, .unset, .unset] [(.ref sa1)])) _
      refine XS.astore X1.here hx rfl (hb hby at_235) rfl rfl (l' := #[.val (.int ks), .val (.int len), .val (.int byt), .val (.long tms), .second, .val (.int qb), .val (.int sel), .val (.ref kx), .val (.int (1 : Int32)), .val (.int tt), .val (.int (2 : Int32)), .val (.int NN), .val (.int c0), .val (.int c1), .val (.int c2), .val (.ref vb), .val (.ref sa1), .unset, .unset, .unset, .unset, .unset, .unset]) rfl ?_
      refine XS.iload X1.here hx rfl (hb hby at_237) rfl ?_
      refine XS.iconst X1.here hx rfl (hb hby at_239) ?_
      refine XS.icmpNo X1.here hx rfl (hb hby at_240) rfl (teq (by decide : ((2 : Int32) = (2 : Int32)))).2 ?_
      refine XS.iconst X1.here hx rfl (hb hby at_243) ?_
      exact k
    obtain ⟨T2, h2, k2, X2, e2, E2, A2, AE2, st2⟩ := newPE X1 hx hZ (hw _ (List.mem_of_getElem? (i := 4) rfl)) e1 (g := (mkF m 244 #[.val (.int ks), .val (.int len), .val (.int byt), .val (.long tms), .second, .val (.int qb), .val (.int sel), .val (.ref kx), .val (.int (1 : Int32)), .val (.int tt), .val (.int (2 : Int32)), .val (.int NN), .val (.int c0), .val (.int c1), .val (.int c2), .val (.ref vb), .val (.ref sa1), .unset, .unset, .unset, .unset, .unset, .unset] [(.int (1 : Int32))])) rfl (hb hby at_244) rfl (by decide) (cap := 1) (by decide) (by decide) (by decide) (by decide) (ad := "[B") rfl
    obtain ⟨b2, g2⟩ : ∃ z, z = h1.size := ⟨_, rfl⟩
    rw [← g2] at A2 AE2 st2
    have g_b2 : n0 ≤ b2 := Nat.le_trans (Nat.le_trans (Nat.le_trans Z0 Kc.1) E1.1) (Nat.le_of_eq g2.symm)
    have ne_kx_b2 : kx ≠ b2 := Nat.ne_of_lt (Nat.lt_of_lt_of_le ((Ek.keep Kc).ext E1).lt (Nat.le_of_eq g2.symm))
    have ne_vb_b2 : vb ≠ b2 := Nat.ne_of_lt (Nat.lt_of_lt_of_le (Ev.ext E1).lt (Nat.le_of_eq g2.symm))
    have ne_sa1_b2 : sa1 ≠ b2 := Nat.ne_of_lt (Nat.lt_of_lt_of_le Es1.lt (Nat.le_of_eq g2.symm))
    have ne_sb1_b2 : sb1 ≠ b2 := Nat.ne_of_lt (Nat.lt_of_lt_of_le Vs1.lt (Nat.le_of_eq g2.symm))
    have V_b2 : Arv Z h2 b2 k2 .byte (1 : Int32) [(.int (0 : Int32))] (.int (0 : Int32)) := (Arv.new A2 (by decide)).pad (pad_rep [] (.int (0 : Int32)) 1)
    refine own_stepW st2 ?_
    show own_GoW p e below s _ _ _ (T2.setTop (mkF m 246 #[.val (.int ks), .val (.int len), .val (.int byt), .val (.long tms), .second, .val (.int qb), .val (.int sel), .val (.ref kx), .val (.int (1 : Int32)), .val (.int tt), .val (.int (2 : Int32)), .val (.int NN), .val (.int c0), .val (.int c1), .val (.int c2), .val (.ref vb), .val (.ref sa1), .unset, .unset, .unset, .unset, .unset, .unset] [(.ref b2)]))
    refine own_stepW (B := T2.setTop (mkF m 251 #[.val (.int ks), .val (.int len), .val (.int byt), .val (.long tms), .second, .val (.int qb), .val (.int sel), .val (.ref kx), .val (.int (1 : Int32)), .val (.int tt), .val (.int (2 : Int32)), .val (.int NN), .val (.int c0), .val (.int c1), .val (.int c2), .val (.ref vb), .val (.ref sa1), .unset, .unset, .unset, .unset, .unset, .unset] [(.int (qb.toInt8.toInt32)), (.int (0 : Int32)), (.ref b2), (.ref b2)])) (fun t k => ?_) ?_
    · show Steps p.tables e below (T2.setTop (mkF m 246 #[.val (.int ks), .val (.int len), .val (.int byt), .val (.long tms), .second, .val (.int qb), .val (.int sel), .val (.ref kx), .val (.int (1 : Int32)), .val (.int tt), .val (.int (2 : Int32)), .val (.int NN), .val (.int c0), .val (.int c1), .val (.int c2), .val (.ref vb), .val (.ref sa1), .unset, .unset, .unset, .unset, .unset, .unset] [(.ref b2)])) _
      refine XS.dup X2.here hx rfl (hb hby at_246) rfl rfl ?_
      refine XS.iconst X2.here hx rfl (hb hby at_247) ?_
      refine XS.iload X2.here hx rfl (hb hby at_248) rfl ?_
      refine XS.i2b X2.here hx rfl (hb hby at_250) rfl ?_
      exact k
    obtain ⟨cl3, Ar3, q3, S3, NN3, Hs3, G3⟩ := V_b2
    have hin3 : ¬ ((0 : Int32) < 0 ∨ cl3.slots.size ≤ ((0 : Int32)).toNatClampNeg) := inb_of S3 ⟨by decide, by decide⟩
    obtain ⟨T3, h3, X3, e3, W3, st3⟩ := stB X2 hx hZ e2 Ar3 (j := (0 : Int32)) hin3 (g := (mkF m 251 #[.val (.int ks), .val (.int len), .val (.int byt), .val (.long tms), .second, .val (.int qb), .val (.int sel), .val (.ref kx), .val (.int (1 : Int32)), .val (.int tt), .val (.int (2 : Int32)), .val (.int NN), .val (.int c0), .val (.int c1), .val (.int c2), .val (.ref vb), .val (.ref sa1), .unset, .unset, .unset, .unset, .unset, .unset] [(.int (qb.toInt8.toInt32)), (.int (0 : Int32)), (.ref b2), (.ref b2)])) rfl rfl (hb hby at_251)
    have V3 : Arv Z h3 b2 k2 .byte (1 : Int32) [(.int (nar .byte (qb.toInt8.toInt32)))] (.int (0 : Int32)) := Arv.set Ar3 q3 S3 NN3 Hs3 G3 (fits_nar_byte _) W3 0 rfl (Nat.le_of_ble_eq_true rfl)
    have N3 := Fr.snoc X3 Nc g_b2
    refine own_stepW st3 ?_
    show own_GoW p e below s _ _ _ (T3.setTop (mkF m 252 #[.val (.int ks), .val (.int len), .val (.int byt), .val (.long tms), .second, .val (.int qb), .val (.int sel), .val (.ref kx), .val (.int (1 : Int32)), .val (.int tt), .val (.int (2 : Int32)), .val (.int NN), .val (.int c0), .val (.int c1), .val (.int c2), .val (.ref vb), .val (.ref sa1), .unset, .unset, .unset, .unset, .unset, .unset] [(.ref b2)]))
    refine own_stepW (B := T3.setTop (mkF m 258 #[.val (.int ks), .val (.int len), .val (.int byt), .val (.long tms), .second, .val (.int qb), .val (.int sel), .val (.ref kx), .val (.int (1 : Int32)), .val (.int tt), .val (.int (2 : Int32)), .val (.int NN), .val (.int c0), .val (.int c1), .val (.int c2), .val (.ref vb), .val (.ref sa1), .val (.ref b2), .unset, .unset, .unset, .unset, .unset] [])) (fun t k => ?_) ?_
    · show Steps p.tables e below (T3.setTop (mkF m 252 #[.val (.int ks), .val (.int len), .val (.int byt), .val (.long tms), .second, .val (.int qb), .val (.int sel), .val (.ref kx), .val (.int (1 : Int32)), .val (.int tt), .val (.int (2 : Int32)), .val (.int NN), .val (.int c0), .val (.int c1), .val (.int c2), .val (.ref vb), .val (.ref sa1), .unset, .unset, .unset, .unset, .unset, .unset] [(.ref b2)])) _
      refine XS.goto X3.here hx rfl (pc0 := 252) (pc' := 256) rfl (hb hby at_252) (by decide) (by decide) ?_
      refine XS.astore X3.here hx rfl (hb hby at_256) rfl rfl (l' := #[.val (.int ks), .val (.int len), .val (.int byt), .val (.long tms), .second, .val (.int qb), .val (.int sel), .val (.ref kx), .val (.int (1 : Int32)), .val (.int tt), .val (.int (2 : Int32)), .val (.int NN), .val (.int c0), .val (.int c1), .val (.int c2), .val (.ref vb), .val (.ref sa1), .val (.ref b2), .unset, .unset, .unset, .unset, .unset]) rfl ?_
      exact k
    refine own_stepW (B := T3.setTop (mkF m 268 #[.val (.int ks), .val (.int len), .val (.int byt), .val (.long tms), .second, .val (.int qb), .val (.int sel), .val (.ref kx), .val (.int (1 : Int32)), .val (.int tt), .val (.int (2 : Int32)), .val (.int NN), .val (.int c0), .val (.int c1), .val (.int c2), .val (.ref vb), .val (.ref sa1), .val (.ref b2), .unset, .unset, .unset, .unset, .unset] [(.long (if tt = (0 : Int32) then (0 : Int64) else tms))])) (fun t k => ?_) ?_
    · show Steps p.tables e below (T3.setTop (mkF m 258 #[.val (.int ks), .val (.int len), .val (.int byt), .val (.long tms), .second, .val (.int qb), .val (.int sel), .val (.ref kx), .val (.int (1 : Int32)), .val (.int tt), .val (.int (2 : Int32)), .val (.int NN), .val (.int c0), .val (.int c1), .val (.int c2), .val (.ref vb), .val (.ref sa1), .val (.ref b2), .unset, .unset, .unset, .unset, .unset] [])) _
      refine XS.iload X3.here hx rfl (hb hby at_258) rfl ?_
      by_cases hc260 : tt = (0 : Int32)
      · show Steps p.tables e below (T3.setTop (mkF m 260 #[.val (.int ks), .val (.int len), .val (.int byt), .val (.long tms), .second, .val (.int qb), .val (.int sel), .val (.ref kx), .val (.int (1 : Int32)), .val (.int tt), .val (.int (2 : Int32)), .val (.int NN), .val (.int c0), .val (.int c1), .val (.int c2), .val (.ref vb), .val (.ref sa1), .val (.ref b2), .unset, .unset, .unset, .unset, .unset] [(.int tt)])) _
        refine XS.ifYes X3.here hx rfl (pc0 := 260) (pc' := 267) rfl (hb hby at_260) rfl ((if0 _ _).trans (teq hc260).1) (by decide) (by decide) ?_
        show Steps p.tables e below (T3.setTop (mkF m 267 #[.val (.int ks), .val (.int len), .val (.int byt), .val (.long tms), .second, .val (.int qb), .val (.int sel), .val (.ref kx), .val (.int (1 : Int32)), .val (.int tt), .val (.int (2 : Int32)), .val (.int NN), .val (.int c0), .val (.int c1), .val (.int c2), .val (.ref vb), .val (.ref sa1), .val (.ref b2), .unset, .unset, .unset, .unset, .unset] [])) _
        refine XS.lconst X3.here hx rfl (hb hby at_267) ?_
        show Steps p.tables e below (T3.setTop (mkF m 268 #[.val (.int ks), .val (.int len), .val (.int byt), .val (.long tms), .second, .val (.int qb), .val (.int sel), .val (.ref kx), .val (.int (1 : Int32)), .val (.int tt), .val (.int (2 : Int32)), .val (.int NN), .val (.int c0), .val (.int c1), .val (.int c2), .val (.ref vb), .val (.ref sa1), .val (.ref b2), .unset, .unset, .unset, .unset, .unset] [(.long (0 : Int64))])) _
        have q4 : (if tt = (0 : Int32) then (0 : Int64) else tms) = (0 : Int64) := by simp [hc260]
        rw [q4] at k
        exact k
      · show Steps p.tables e below (T3.setTop (mkF m 260 #[.val (.int ks), .val (.int len), .val (.int byt), .val (.long tms), .second, .val (.int qb), .val (.int sel), .val (.ref kx), .val (.int (1 : Int32)), .val (.int tt), .val (.int (2 : Int32)), .val (.int NN), .val (.int c0), .val (.int c1), .val (.int c2), .val (.ref vb), .val (.ref sa1), .val (.ref b2), .unset, .unset, .unset, .unset, .unset] [(.int tt)])) _
        refine XS.ifNo X3.here hx rfl (hb hby at_260) rfl ((if0 _ _).trans (feq hc260).1) ?_
        show Steps p.tables e below (T3.setTop (mkF m 263 #[.val (.int ks), .val (.int len), .val (.int byt), .val (.long tms), .second, .val (.int qb), .val (.int sel), .val (.ref kx), .val (.int (1 : Int32)), .val (.int tt), .val (.int (2 : Int32)), .val (.int NN), .val (.int c0), .val (.int c1), .val (.int c2), .val (.ref vb), .val (.ref sa1), .val (.ref b2), .unset, .unset, .unset, .unset, .unset] [])) _
        refine XS.lloadN X3.here hx rfl (hb hby at_263) rfl ?_
        show Steps p.tables e below (T3.setTop (mkF m 264 #[.val (.int ks), .val (.int len), .val (.int byt), .val (.long tms), .second, .val (.int qb), .val (.int sel), .val (.ref kx), .val (.int (1 : Int32)), .val (.int tt), .val (.int (2 : Int32)), .val (.int NN), .val (.int c0), .val (.int c1), .val (.int c2), .val (.ref vb), .val (.ref sa1), .val (.ref b2), .unset, .unset, .unset, .unset, .unset] [(.long tms)])) _
        refine XS.goto X3.here hx rfl (pc0 := 264) (pc' := 268) rfl (hb hby at_264) (by decide) (by decide) ?_
        show Steps p.tables e below (T3.setTop (mkF m 268 #[.val (.int ks), .val (.int len), .val (.int byt), .val (.long tms), .second, .val (.int qb), .val (.int sel), .val (.ref kx), .val (.int (1 : Int32)), .val (.int tt), .val (.int (2 : Int32)), .val (.int NN), .val (.int c0), .val (.int c1), .val (.int c2), .val (.ref vb), .val (.ref sa1), .val (.ref b2), .unset, .unset, .unset, .unset, .unset] [(.long tms)])) _
        have q5 : (if tt = (0 : Int32) then (0 : Int64) else tms) = tms := by simp [hc260]
        rw [q5] at k
        exact k
    refine own_stepW (B := T3.setTop (mkF m 270 #[.val (.int ks), .val (.int len), .val (.int byt), .val (.long tms), .second, .val (.int qb), .val (.int sel), .val (.ref kx), .val (.int (1 : Int32)), .val (.int tt), .val (.int (2 : Int32)), .val (.int NN), .val (.int c0), .val (.int c1), .val (.int c2), .val (.ref vb), .val (.ref sa1), .val (.ref b2), .val (.long (if tt = (0 : Int32) then (0 : Int64) else tms)), .second, .unset, .unset, .unset] [])) (fun t k => ?_) ?_
    · show Steps p.tables e below (T3.setTop (mkF m 268 #[.val (.int ks), .val (.int len), .val (.int byt), .val (.long tms), .second, .val (.int qb), .val (.int sel), .val (.ref kx), .val (.int (1 : Int32)), .val (.int tt), .val (.int (2 : Int32)), .val (.int NN), .val (.int c0), .val (.int c1), .val (.int c2), .val (.ref vb), .val (.ref sa1), .val (.ref b2), .unset, .unset, .unset, .unset, .unset] [(.long (if tt = (0 : Int32) then (0 : Int64) else tms))])) _
      refine XS.lstore X3.here hx rfl (hb hby at_268) rfl (l' := #[.val (.int ks), .val (.int len), .val (.int byt), .val (.long tms), .second, .val (.int qb), .val (.int sel), .val (.ref kx), .val (.int (1 : Int32)), .val (.int tt), .val (.int (2 : Int32)), .val (.int NN), .val (.int c0), .val (.int c1), .val (.int c2), .val (.ref vb), .val (.ref sa1), .val (.ref b2), .val (.long (if tt = (0 : Int32) then (0 : Int64) else tms)), .second, .unset, .unset, .unset]) rfl ?_
      exact k
    obtain ⟨T6, h6, X6, e6, E6, A6, D6, -, st6⟩ := newO X3 hx hZ hown (hw _ (List.mem_of_getElem? (i := 12) rfl)) (hw _ (List.mem_of_getElem? (i := 13) rfl)) (hw _ (List.mem_of_getElem? (i := 14) rfl)) e3 (g := (mkF m 270 #[.val (.int ks), .val (.int len), .val (.int byt), .val (.long tms), .second, .val (.int qb), .val (.int sel), .val (.ref kx), .val (.int (1 : Int32)), .val (.int tt), .val (.int (2 : Int32)), .val (.int NN), .val (.int c0), .val (.int c1), .val (.int c2), .val (.ref vb), .val (.ref sa1), .val (.ref b2), .val (.long (if tt = (0 : Int32) then (0 : Int64) else tms)), .second, .unset, .unset, .unset] [])) rfl (hb hby at_270) (by decide) (by decide)
    obtain ⟨b6, g6⟩ : ∃ z, z = h3.size := ⟨_, rfl⟩
    rw [← g6] at A6 D6 st6
    have g_b6 : n0 ≤ b6 := Nat.le_trans (Nat.le_trans (Nat.le_trans (Nat.le_trans (Nat.le_trans Z0 Kc.1) E1.1) E2.1) (Keep.of_wr W3).1) (Nat.le_of_eq g6.symm)
    have ne_kx_b6 : kx ≠ b6 := Nat.ne_of_lt (Nat.lt_of_lt_of_le ((((Ek.keep Kc).ext E1).ext E2).wr W3).lt (Nat.le_of_eq g6.symm))
    have ne_vb_b6 : vb ≠ b6 := Nat.ne_of_lt (Nat.lt_of_lt_of_le (((Ev.ext E1).ext E2).wr W3).lt (Nat.le_of_eq g6.symm))
    have ne_sa1_b6 : sa1 ≠ b6 := Nat.ne_of_lt (Nat.lt_of_lt_of_le ((Es1.ext E2).wr W3).lt (Nat.le_of_eq g6.symm))
    have ne_sb1_b6 : sb1 ≠ b6 := Nat.ne_of_lt (Nat.lt_of_lt_of_le ((Vs1.ext E2).other W3 ne_sb1_b2).lt (Nat.le_of_eq g6.symm))
    have ne_b2_b6 : b2 ≠ b6 := Nat.ne_of_lt (Nat.lt_of_lt_of_le V3.lt (Nat.le_of_eq g6.symm))
    have F_kind_b6 : Fld Z h6 b6 "com/example/nests/nests/model/Mutation" "kind" "Lcom/example/nests/nests/model/Mutation$Kind;" .null := D6 (Or.inr (hw _ (List.mem_of_getElem? (i := 93) rfl))) (ty := (.object "com/example/nests/nests/model/Mutation$Kind")) (by decide)
    have F_family_b6 : Fld Z h6 b6 "com/example/nests/nests/model/Mutation" "family" "Ljava/lang/String;" .null := D6 (Or.inr (hw _ (List.mem_of_getElem? (i := 95) rfl))) (ty := (.object "java/lang/String")) (by decide)
    have F_qualifier_b6 : Fld Z h6 b6 "com/example/nests/nests/model/Mutation" "qualifier" "[B" .null := D6 (Or.inr (hw _ (List.mem_of_getElem? (i := 106) rfl))) (ty := (.array .byte)) (by decide)
    have F_timestamp_b6 : Fld Z h6 b6 "com/example/nests/nests/model/Mutation" "timestamp" "J" (.long (0 : Int64)) := D6 (Or.inr (hw _ (List.mem_of_getElem? (i := 108) rfl))) (ty := .long) (by decide)
    have F_value_b6 : Fld Z h6 b6 "com/example/nests/nests/model/Mutation" "value" "[B" .null := D6 (Or.inr (hw _ (List.mem_of_getElem? (i := 110) rfl))) (ty := (.array .byte)) (by decide)
    refine own_stepW st6 ?_
    show own_GoW p e below s _ _ _ (T6.setTop (mkF m 273 #[.val (.int ks), .val (.int len), .val (.int byt), .val (.long tms), .second, .val (.int qb), .val (.int sel), .val (.ref kx), .val (.int (1 : Int32)), .val (.int tt), .val (.int (2 : Int32)), .val (.int NN), .val (.int c0), .val (.int c1), .val (.int c2), .val (.ref vb), .val (.ref sa1), .val (.ref b2), .val (.long (if tt = (0 : Int32) then (0 : Int64) else tms)), .second, .unset, .unset, .unset] [(.ref b6)]))
    refine own_stepW (B := T6.setTop (mkF m 293 #[.val (.int ks), .val (.int len), .val (.int byt), .val (.long tms), .second, .val (.int qb), .val (.int sel), .val (.ref kx), .val (.int (1 : Int32)), .val (.int tt), .val (.int (2 : Int32)), .val (.int NN), .val (.int c0), .val (.int c1), .val (.int c2), .val (.ref vb), .val (.ref sa1), .val (.ref b2), .val (.long (if tt = (0 : Int32) then (0 : Int64) else tms)), .second, .unset, .unset, .unset] [(.ref vb), (.long (if tt = (0 : Int32) then (0 : Int64) else tms)), (.ref b2), (.ref sa1), (.ref kx), (.ref b6), (.ref b6)])) (fun t k => ?_) ?_
    · show Steps p.tables e below (T6.setTop (mkF m 273 #[.val (.int ks), .val (.int len), .val (.int byt), .val (.long tms), .second, .val (.int qb), .val (.int sel), .val (.ref kx), .val (.int (1 : Int32)), .val (.int tt), .val (.int (2 : Int32)), .val (.int NN), .val (.int c0), .val (.int c1), .val (.int c2), .val (.ref vb), .val (.ref sa1), .val (.ref b2), .val (.long (if tt = (0 : Int32) then (0 : Int64) else tms)), .second, .unset, .unset, .unset] [(.ref b6)])) _
      refine XS.dup X6.here hx rfl (hb hby at_273) rfl rfl ?_
      refine XS.aload X6.here hx rfl (hb hby at_274) rfl rfl ?_
      refine XS.aload X6.here hx rfl (hb hby at_276) rfl rfl ?_
      refine XS.aload X6.here hx rfl (hb hby at_278) rfl rfl ?_
      refine XS.lload X6.here hx rfl (hb hby at_280) rfl ?_
      refine XS.iload X6.here hx rfl (hb hby at_282) rfl ?_
      refine XS.ifNo X6.here hx rfl (hb hby at_284) rfl ((if0 _ _).trans (feq (by decide : ¬ ((1 : Int32) = (0 : Int32)))).1) ?_
      refine XS.aload X6.here hx rfl (hb hby at_287) rfl rfl ?_
      refine XS.goto X6.here hx rfl (pc0 := 289) (pc' := 293) rfl (hb hby at_289) (by decide) (by decide) ?_
      exact k
    obtain ⟨_, _, ⟨T7, L7, k7, n7⟩, -, X7, hSx7, gx7, ⟨Lc7, hQ7, l7, y7, z7⟩, st7⟩ := X6.specialBackS hx (y := (⟨"com/example/nests/nests/model/Mutation", "<init>", "(Lcom/example/nests/nests/model/Mutation$Kind;Ljava/lang/String;[BJ[B)V"⟩ : MethodName)) rfl hown (mvT hZ (hw _ (List.mem_of_getElem? (i := 15) rfl))) (mvT hZ (hw _ (List.mem_of_getElem? (i := 16) rfl))) (mvT hZ (hw _ (List.mem_of_getElem? (i := 17) rfl))) (by decide) (backOfS (W := 1) (rm1cv l Z a0 hw [] b6 kx sa1 b2 (if tt = (0 : Int32) then (0 : Int64) else tms) vb _ _ _ _ _ tC tF tR tt cs vf sb1 sk1 k2 (1 : Int32) [(.int (nar .byte (qb.toInt8.toInt32)))] kv NN vs h6 n0 (Nat.le_trans (Nat.le_trans (Nat.le_trans (Nat.le_trans (Nat.le_trans Z0 Kc.1) E1.1) E2.1) (Keep.of_wr W3).1) E6.1) A6 F_kind_b6 F_family_b6 F_qualifier_b6 F_timestamp_b6 F_value_b6 g_b6 (((((Ek.keep Kc).ext E1).ext E2).wr W3).ext E6) (((((Ft.keep Kc nin0).ext E1).ext E2).other W3 (Or.inl ne_kx_b2)).ext E6) (((((Fv.keep Kc nin0).ext E1).ext E2).other W3 (Or.inl ne_kx_b2)).ext E6) (((((Fs.keep Kc nin0).ext E1).ext E2).other W3 (Or.inl ne_kx_b2)).ext E6) (((((own_staKeep S_R Kc ns0).ext E1).ext E2).wr W3).ext E6) (((((own_staKeep S_L Kc ns0).ext E1).ext E2).wr W3).ext E6) nCR nFR nFC (by rcases htt with z | z; exact Or.inl (if_pos z); exact Or.inr z) (by rcases htt with rfl | rfl <;> rfl) (((Es1.ext E2).wr W3).ext E6) (((Fc1.ext E2).other W3 (Or.inl ne_sa1_b2)).ext E6) (((Fv1.ext E2).other W3 (Or.inl ne_sa1_b2)).ext E6) (((Vs1.ext E2).other W3 ne_sb1_b2).ext E6) (((((own_staKeep S_C Kc ns0).ext E1).ext E2).wr W3).ext E6) hcs (((((own_staKeep S_F Kc ns0).ext E1).ext E2).wr W3).ext E6) hvf (V3.ext E6) ((AE2.wr W3).ext E6) (by decide) ((((Vv.ext E1).ext E2).other W3 ne_vb_b2).ext E6) ((((Ev.ext E1).ext E2).wr W3).ext E6) hN3) hZ (hw _ (List.mem_of_getElem? (i := 17) rfl)) (hw _ (List.mem_of_getElem? (i := 14) rfl)) (by decide) (by decide)) (g := (mkF m 293 #[.val (.int ks), .val (.int len), .val (.int byt), .val (.long tms), .second, .val (.int qb), .val (.int sel), .val (.ref kx), .val (.int (1 : Int32)), .val (.int tt), .val (.int (2 : Int32)), .val (.int NN), .val (.int c0), .val (.int c1), .val (.int c2), .val (.ref vb), .val (.ref sa1), .val (.ref b2), .val (.long (if tt = (0 : Int32) then (0 : Int64) else tms)), .second, .unset, .unset, .unset] [(.ref vb), (.long (if tt = (0 : Int32) then (0 : Int64) else tms)), (.ref b2), (.ref sa1), (.ref kx), (.ref b6), (.ref b6)])) rfl (by rw [hml]; rfl) (Steps.refl _) (a := b6) (argsL := [(.ref kx), (.ref sa1), (.ref b2), (.long (if tt = (0 : Int32) then (0 : Int64) else tms)), (.ref vb)]) (rest := [(.ref b6)]) (lenOf pd_21 rfl) rfl (by show 2 * 0 + _ ≤ _; exact Nat.le_of_eq rfl) (hb hby at_293) (fun _ _ => ⟨rfl, e6, (by decide : 5 + 4 ≤ _), (by decide : 17 + 34 ≤ _)⟩)
    dsimp only [Pt.U, Pt.locs, Pt.cells, Pt.slots] at X7 l7 y7 z7 st7 hQ7 hSx7 gx7
    subst l7 y7 z7
    obtain ⟨rfl, N7q, K7, Em7, ⟨rq7, Fq7, Eq7, Vq7, sq7⟩, ⟨rv7, Fv7, Er7, Vr7, sv7⟩⟩ := hQ7
    have N7 := Fr.app N3 N7q
    refine own_viaW st7 ?_
    obtain ⟨X7, hS7, hZ, hown⟩ := rebS hS1 (by rw [e6]; exact (Nat.le_trans (Nat.le_trans (Nat.le_trans hk1 E2.1) (Keep.of_wr W3).1) E6.1)) X7 hSx7 gx7 hZ hown
    show own_GoW p e below s _ _ _ (T7.setTop (mkF m 296 #[.val (.int ks), .val (.int len), .val (.int byt), .val (.long tms), .second, .val (.int qb), .val (.int sel), .val (.ref kx), .val (.int (1 : Int32)), .val (.int tt), .val (.int (2 : Int32)), .val (.int NN), .val (.int c0), .val (.int c1), .val (.int c2), .val (.ref vb), .val (.ref sa1), .val (.ref b2), .val (.long (if tt = (0 : Int32) then (0 : Int64) else tms)), .second, .unset, .unset, .unset] [(.ref b6)]))
    have ne_vb_rv7 : vb ≠ rv7 := Nat.ne_of_lt (Nat.lt_of_lt_of_le ((((Ev.ext E1).ext E2).wr W3).ext E6).lt sv7)
    have ne_b6_rv7 : b6 ≠ rv7 := Nat.ne_of_lt (Nat.lt_of_lt_of_le A6.lt sv7)
    refine own_stepW (B := T7.setTop (mkF m 319 #[.val (.int ks), .val (.int len), .val (.int byt), .val (.long tms), .second, .val (.int qb), .val (.int sel), .val (.ref kx), .val (.int (1 : Int32)), .val (.int tt), .val (.int (2 : Int32)), .val (.int NN), .val (.int c0), .val (.int c1), .val (.int c2), .val (.ref vb), .val (.ref sa1), .val (.ref b2), .val (.long (if tt = (0 : Int32) then (0 : Int64) else tms)), .second, .val (.ref b6), .unset, .unset] [(.int NN)])) (fun t k => ?_) ?_
    · show Steps p.tables e below (T7.setTop (mkF m 296 #[.val (.int ks), .val (.int len), .val (.int byt), .val (.long tms), .second, .val (.int qb), .val (.int sel), .val (.ref kx), .val (.int (1 : Int32)), .val (.int tt), .val (.int (2 : Int32)), .val (.int NN), .val (.int c0), .val (.int c1), .val (.int c2), .val (.ref vb), .val (.ref sa1), .val (.ref b2), .val (.long (if tt = (0 : Int32) then (0 : Int64) else tms)), .second, .unset, .unset, .unset] [(.ref b6)])) _
      refine XS.astore X7.here hx rfl (hb hby at_296) rfl rfl (l' := #[.val (.int ks), .val (.int len), .val (.int byt), .val (.long tms), .second, .val (.int qb), .val (.int sel), .val (.ref kx), .val (.int (1 : Int32)), .val (.int tt), .val (.int (2 : Int32)), .val (.int NN), .val (.int c0), .val (.int c1), .val (.int c2), .val (.ref vb), .val (.ref sa1), .val (.ref b2), .val (.long (if tt = (0 : Int32) then (0 : Int64) else tms)), .second, .val (.ref b6), .unset, .unset]) rfl ?_
      refine XS.iload X7.here hx rfl (hb hby at_298) rfl ?_
      refine XS.ifYes X7.here hx rfl (pc0 := 300) (pc' := 317) rfl (hb hby at_300) rfl ((if0 _ _).trans (feq (by decide : ¬ ((1 : Int32) = (0 : Int32)))).2) (by decide) (by decide) ?_
      refine XS.iload X7.here hx rfl (hb hby at_317) rfl ?_
      exact k
    by_cases hpos : (0 : Int32) < NN
    · refine own_stepW (B := T7.setTop (mkF m 328 #[.val (.int ks), .val (.int len), .val (.int byt), .val (.long tms), .second, .val (.int qb), .val (.int sel), .val (.ref kx), .val (.int (1 : Int32)), .val (.int tt), .val (.int (2 : Int32)), .val (.int NN), .val (.int c0), .val (.int c1), .val (.int c2), .val (.ref vb), .val (.ref sa1), .val (.ref b2), .val (.long (if tt = (0 : Int32) then (0 : Int64) else tms)), .second, .val (.ref b6), .unset, .unset] [(.int (0 : Int32)), (.ref vb), (.int (0 : Int32)), (.ref vb)])) (fun t k => ?_) ?_
      · show Steps p.tables e below (T7.setTop (mkF m 319 #[.val (.int ks), .val (.int len), .val (.int byt), .val (.long tms), .second, .val (.int qb), .val (.int sel), .val (.ref kx), .val (.int (1 : Int32)), .val (.int tt), .val (.int (2 : Int32)), .val (.int NN), .val (.int c0), .val (.int c1), .val (.int c2), .val (.ref vb), .val (.ref sa1), .val (.ref b2), .val (.long (if tt = (0 : Int32) then (0 : Int64) else tms)), .second, .val (.ref b6), .unset, .unset] [(.int NN)])) _
        refine XS.ifNo X7.here hx rfl (hb hby at_319) rfl ((if0 _ _).trans (tlt hpos).2.2.2) ?_
        refine XS.aload X7.here hx rfl (hb hby at_322) rfl rfl ?_
        refine XS.iconst X7.here hx rfl (hb hby at_324) ?_
        refine XS.aload X7.here hx rfl (hb hby at_325) rfl rfl ?_
        refine XS.iconst X7.here hx rfl (hb hby at_327) ?_
        exact k
      obtain ⟨cr8, Ac8, hl8, ha8⟩ := own_rd (((((Vv.ext E1).ext E2).other W3 ne_vb_b2).ext E6).keep K7 (ninS ne_vb_b6 nin0))
      refine own_stepW (B := T7.setTop (mkF m 332 #[.val (.int ks), .val (.int len), .val (.int byt), .val (.long tms), .second, .val (.int qb), .val (.int sel), .val (.ref kx), .val (.int (1 : Int32)), .val (.int tt), .val (.int (2 : Int32)), .val (.int NN), .val (.int c0), .val (.int c1), .val (.int c2), .val (.ref vb), .val (.ref sa1), .val (.ref b2), .val (.long (if tt = (0 : Int32) then (0 : Int64) else tms)), .second, .val (.ref b6), .unset, .unset] [(.int ((c0 ^^^ (1 : Int32)).toInt8.toInt32)), (.int (0 : Int32)), (.ref vb)])) (fun t k => ?_) ?_
      · show Steps p.tables e below (T7.setTop (mkF m 328 #[.val (.int ks), .val (.int len), .val (.int byt), .val (.long tms), .second, .val (.int qb), .val (.int sel), .val (.ref kx), .val (.int (1 : Int32)), .val (.int tt), .val (.int (2 : Int32)), .val (.int NN), .val (.int c0), .val (.int c1), .val (.int c2), .val (.ref vb), .val (.ref sa1), .val (.ref b2), .val (.long (if tt = (0 : Int32) then (0 : Int64) else tms)), .second, .val (.ref b6), .unset, .unset] [(.int (0 : Int32)), (.ref vb), (.int (0 : Int32)), (.ref vb)])) _
        refine X7.baloadBytes hx (j := (0 : Int32)) (v := (.int c0)) Ac8.1 (State.isArrayOf_alike hZ.alike Ac8.2.1) Ac8.2.2 (ha8 0 (by decide) hpos).1 (by rw [(ha8 0 (by decide) hpos).2]; exact congrArg some (w0 (own_npos hpos))) (g := (mkF m 328 #[.val (.int ks), .val (.int len), .val (.int byt), .val (.long tms), .second, .val (.int qb), .val (.int sel), .val (.ref kx), .val (.int (1 : Int32)), .val (.int tt), .val (.int (2 : Int32)), .val (.int NN), .val (.int c0), .val (.int c1), .val (.int c2), .val (.ref vb), .val (.ref sa1), .val (.ref b2), .val (.long (if tt = (0 : Int32) then (0 : Int64) else tms)), .second, .val (.ref b6), .unset, .unset] [(.int (0 : Int32)), (.ref vb), (.int (0 : Int32)), (.ref vb)])) rfl rfl (hb hby at_328) _ ?_
        refine XS.iconst X7.here hx rfl (hb hby at_329) ?_
        refine XS.ixor X7.here hx rfl (hb hby at_330) rfl ?_
        refine XS.i2b X7.here hx rfl (hb hby at_331) rfl ?_
        exact k
      obtain ⟨T9, h9, X9, e9, W9, st9⟩ := stB X7 hx hZ rfl Ac8 (j := (0 : Int32)) (ha8 0 (by decide) hpos).1 (g := (mkF m 332 #[.val (.int ks), .val (.int len), .val (.int byt), .val (.long tms), .second, .val (.int qb), .val (.int sel), .val (.ref kx), .val (.int (1 : Int32)), .val (.int tt), .val (.int (2 : Int32)), .val (.int NN), .val (.int c0), .val (.int c1), .val (.int c2), .val (.ref vb), .val (.ref sa1), .val (.ref b2), .val (.long (if tt = (0 : Int32) then (0 : Int64) else tms)), .second, .val (.ref b6), .unset, .unset] [(.int ((c0 ^^^ (1 : Int32)).toInt8.toInt32)), (.int (0 : Int32)), (.ref vb)])) rfl rfl (hb hby at_332)
      have N9 := Fr.snoc X9 N7 g_vb
      refine own_stepW st9 ?_
      show own_GoW p e below s _ _ _ (T9.setTop (mkF m 333 #[.val (.int ks), .val (.int len), .val (.int byt), .val (.long tms), .second, .val (.int qb), .val (.int sel), .val (.ref kx), .val (.int (1 : Int32)), .val (.int tt), .val (.int (2 : Int32)), .val (.int NN), .val (.int c0), .val (.int c1), .val (.int c2), .val (.ref vb), .val (.ref sa1), .val (.ref b2), .val (.long (if tt = (0 : Int32) then (0 : Int64) else tms)), .second, .val (.ref b6), .unset, .unset] []))
      refine own_stepW (B := T9.setTop (mkF m 335 #[.val (.int ks), .val (.int len), .val (.int byt), .val (.long tms), .second, .val (.int qb), .val (.int sel), .val (.ref kx), .val (.int (1 : Int32)), .val (.int tt), .val (.int (2 : Int32)), .val (.int NN), .val (.int c0), .val (.int c1), .val (.int c2), .val (.ref vb), .val (.ref sa1), .val (.ref b2), .val (.long (if tt = (0 : Int32) then (0 : Int64) else tms)), .second, .val (.ref b6), .unset, .unset] [(.ref b6)])) (fun t k => ?_) ?_
      · show Steps p.tables e below (T9.setTop (mkF m 333 #[.val (.int ks), .val (.int len), .val (.int byt), .val (.long tms), .second, .val (.int qb), .val (.int sel), .val (.ref kx), .val (.int (1 : Int32)), .val (.int tt), .val (.int (2 : Int32)), .val (.int NN), .val (.int c0), .val (.int c1), .val (.int c2), .val (.ref vb), .val (.ref sa1), .val (.ref b2), .val (.long (if tt = (0 : Int32) then (0 : Int64) else tms)), .second, .val (.ref b6), .unset, .unset] [])) _
        refine XS.aload X9.here hx rfl (hb hby at_333) rfl rfl ?_
        exact k
      obtain ⟨cq10, kq10, q10a, q10b, q10c⟩ := isOf hZ e9 (Em7.wr W9)
      obtain ⟨_, _, ⟨T10, L10, k10, n10⟩, -, X10, ⟨Lc10, hQ10, l10, y10, z10⟩, st10⟩ := X9.virtualBack hx (y := (⟨"com/example/nests/nests/model/Mutation", "getValue", "()[B"⟩ : MethodName)) (z := (⟨"com/example/nests/nests/model/Mutation", "getValue", "()[B"⟩ : MethodName)) hown (mvT hZ (hw _ (List.mem_of_getElem? (i := 111) rfl))) (mvT hZ (hw _ (List.mem_of_getElem? (i := 112) rfl))) (notFace_of_selects (args := #[]) (mvT hZ (hw _ (List.mem_of_getElem? (i := 114) rfl)))) (mvT hZ (hw _ (List.mem_of_getElem? (i := 114) rfl))) (mvT hZ (hw _ (List.mem_of_getElem? (i := 113) rfl))) (by decide) (backOf (W := 0) (rm16 l Z a0 hw [] b6 rv7 kv NN vs h9 n0 (Nat.le_trans (Nat.le_trans (Nat.le_trans (Nat.le_trans (Nat.le_trans (Nat.le_trans (Nat.le_trans Z0 Kc.1) E1.1) E2.1) (Keep.of_wr W3).1) E6.1) K7.1) (Keep.of_wr W9).1) (Fv7.other W9 (Or.inl (Ne.symm ne_vb_b6))) (Vr7.other W9 (Ne.symm ne_vb_rv7)) (Er7.wr W9) hN3) hZ (hw _ (List.mem_of_getElem? (i := 115) rfl)) (hw _ (List.mem_of_getElem? (i := 14) rfl)) (by decide) (by decide)) q10a q10c (g := (mkF m 335 #[.val (.int ks), .val (.int len), .val (.int byt), .val (.long tms), .second, .val (.int qb), .val (.int sel), .val (.ref kx), .val (.int (1 : Int32)), .val (.int tt), .val (.int (2 : Int32)), .val (.int NN), .val (.int c0), .val (.int c1), .val (.int c2), .val (.ref vb), .val (.ref sa1), .val (.ref b2), .val (.long (if tt = (0 : Int32) then (0 : Int64) else tms)), .second, .val (.ref b6), .unset, .unset] [(.ref b6)])) rfl (by rw [hml]; rfl) (Steps.refl _) (argsL := []) (rest := []) (lenOf pd_22 rfl) rfl (by show 2 * 0 + _ ≤ _; exact Nat.le_of_eq rfl) (hb hby at_335) (fun _ _ => ⟨rfl, e9, (by decide : 9 + 1 ≤ _), (by decide : 51 + 3 ≤ _)⟩)
      dsimp only [Pt.U, Pt.locs, Pt.cells, Pt.slots] at X10 l10 y10 z10 st10 hQ10
      subst l10 y10 z10
      obtain ⟨r10, rfl, N10q, K10, sr10, Er10, Vr10⟩ := hQ10
      have N10 := Fr.app N9 N10q
      refine own_viaW st10 ?_
      show own_GoW p e below s _ _ _ (T10.setTop (mkF m 338 #[.val (.int ks), .val (.int len), .val (.int byt), .val (.long tms), .second, .val (.int qb), .val (.int sel), .val (.ref kx), .val (.int (1 : Int32)), .val (.int tt), .val (.int (2 : Int32)), .val (.int NN), .val (.int c0), .val (.int c1), .val (.int c2), .val (.ref vb), .val (.ref sa1), .val (.ref b2), .val (.long (if tt = (0 : Int32) then (0 : Int64) else tms)), .second, .val (.ref b6), .unset, .unset] [(.ref r10)]))
      have ne_b6_r10 : b6 ≠ r10 := Nat.ne_of_lt (Nat.lt_of_lt_of_le (Em7.wr W9).lt sr10)
      have ne_rv7_r10 : rv7 ≠ r10 := Nat.ne_of_lt (Nat.lt_of_lt_of_le (Er7.wr W9).lt sr10)
      have ne_vb_r10 : vb ≠ r10 := Nat.ne_of_lt (Nat.lt_of_lt_of_le ((((((Ev.ext E1).ext E2).wr W3).ext E6).keep K7).wr W9).lt sr10)
      have g_r10 : n0 ≤ r10 := Nat.le_trans (Nat.le_trans (Nat.le_trans (Nat.le_trans (Nat.le_trans (Nat.le_trans (Nat.le_trans (Nat.le_trans Z0 Kc.1) E1.1) E2.1) (Keep.of_wr W3).1) E6.1) K7.1) (Keep.of_wr W9).1) sr10
      refine own_stepW (B := T10.setTop (mkF m 350 #[.val (.int ks), .val (.int len), .val (.int byt), .val (.long tms), .second, .val (.int qb), .val (.int sel), .val (.ref kx), .val (.int (1 : Int32)), .val (.int tt), .val (.int (2 : Int32)), .val (.int NN), .val (.int c0), .val (.int c1), .val (.int c2), .val (.ref vb), .val (.ref sa1), .val (.ref b2), .val (.long (if tt = (0 : Int32) then (0 : Int64) else tms)), .second, .val (.ref b6), .val (.ref r10), .unset] [(.int c2), (.int c1), (.int c0), (.int NN), (.ref r10)])) (fun t k => ?_) ?_
      · show Steps p.tables e below (T10.setTop (mkF m 338 #[.val (.int ks), .val (.int len), .val (.int byt), .val (.long tms), .second, .val (.int qb), .val (.int sel), .val (.ref kx), .val (.int (1 : Int32)), .val (.int tt), .val (.int (2 : Int32)), .val (.int NN), .val (.int c0), .val (.int c1), .val (.int c2), .val (.ref vb), .val (.ref sa1), .val (.ref b2), .val (.long (if tt = (0 : Int32) then (0 : Int64) else tms)), .second, .val (.ref b6), .unset, .unset] [(.ref r10)])) _
        refine XS.astore X10.here hx rfl (hb hby at_338) rfl rfl (l' := #[.val (.int ks), .val (.int len), .val (.int byt), .val (.long tms), .second, .val (.int qb), .val (.int sel), .val (.ref kx), .val (.int (1 : Int32)), .val (.int tt), .val (.int (2 : Int32)), .val (.int NN), .val (.int c0), .val (.int c1), .val (.int c2), .val (.ref vb), .val (.ref sa1), .val (.ref b2), .val (.long (if tt = (0 : Int32) then (0 : Int64) else tms)), .second, .val (.ref b6), .val (.ref r10), .unset]) rfl ?_
        refine XS.aload X10.here hx rfl (hb hby at_340) rfl rfl ?_
        refine XS.iload X10.here hx rfl (hb hby at_342) rfl ?_
        refine XS.iload X10.here hx rfl (hb hby at_344) rfl ?_
        refine XS.iload X10.here hx rfl (hb hby at_346) rfl ?_
        refine XS.iload X10.here hx rfl (hb hby at_348) rfl ?_
        exact k
      obtain ⟨cr11, Ac11, hl11, ha11⟩ := own_rd Vr10
      obtain ⟨_, _, ⟨T12, L12, k12, n12⟩, -, X12, ⟨Lc12, hQ12, l12, y12, z12⟩, st12⟩ := Jvm.LawKit.callS X10 hx (y := (⟨"com/example/nests/nests/model/MutationGetValuePinLaw", "same", "([BIBBB)Z"⟩ : MethodName)) hown (mvT hZ (hw _ (List.mem_of_getElem? (i := 116) rfl))) (mvT hZ (hw _ (List.mem_of_getElem? (i := 117) rfl))) (mvT hZ (hw _ (List.mem_of_getElem? (i := 118) rfl))) (mvT hZ (hw _ (List.mem_of_getElem? (i := 119) rfl))) (by decide) (backOf (W := 0) (rm17 l Z a0 hw [] r10 NN c0 c1 c2 cr11 T10.heap n0 (Nat.le_trans (Nat.le_trans (Nat.le_trans (Nat.le_trans (Nat.le_trans (Nat.le_trans (Nat.le_trans (Nat.le_trans Z0 Kc.1) E1.1) E2.1) (Keep.of_wr W3).1) E6.1) K7.1) (Keep.of_wr W9).1) K10.1) Ac11 hl11 (fun q => ⟨(ha11 0 (by decide) (own_ge q (by decide))).1, by rw [(ha11 0 (by decide) (own_ge q (by decide))).2]; exact congrArg some (w0 q)⟩) (fun q => ⟨(ha11 1 (by decide) (own_ge q (by decide))).1, by rw [(ha11 1 (by decide) (own_ge q (by decide))).2]; exact congrArg some (w1 q)⟩) (fun q => ⟨(ha11 2 (by decide) (own_ge q (by decide))).1, by rw [(ha11 2 (by decide) (own_ge q (by decide))).2]; exact congrArg some (w2 q)⟩)) hZ (hw _ (List.mem_of_getElem? (i := 119) rfl)) (hw _ (List.mem_of_getElem? (i := 118) rfl)) (by decide) (by decide)) (g := (mkF m 350 #[.val (.int ks), .val (.int len), .val (.int byt), .val (.long tms), .second, .val (.int qb), .val (.int sel), .val (.ref kx), .val (.int (1 : Int32)), .val (.int tt), .val (.int (2 : Int32)), .val (.int NN), .val (.int c0), .val (.int c1), .val (.int c2), .val (.ref vb), .val (.ref sa1), .val (.ref b2), .val (.long (if tt = (0 : Int32) then (0 : Int64) else tms)), .second, .val (.ref b6), .val (.ref r10), .unset] [(.int c2), (.int c1), (.int c0), (.int NN), (.ref r10)])) rfl (by rw [hml]; rfl) (argsL := [(.ref r10), (.int NN), (.int c0), (.int c1), (.int c2)]) (rest := []) (lenOf pd_23 rfl) rfl (by show 2 * 0 + _ ≤ _; exact Nat.le_of_eq rfl) (hb hby at_350) (fun _ _ => ⟨rfl, rfl, (by decide : 10 + 0 ≤ _), (by decide : 54 + 0 ≤ _)⟩)
      dsimp only [Pt.U, Pt.locs, Pt.cells, Pt.slots] at X12 l12 y12 z12 st12 hQ12
      subst l12 y12 z12
      obtain ⟨rfl, N12q, e12⟩ := hQ12
      have N12 := Fr.app N10 N12q
      refine own_stepW st12 ?_
      show own_GoW p e below s _ _ _ (T12.setTop (mkF m 353 #[.val (.int ks), .val (.int len), .val (.int byt), .val (.long tms), .second, .val (.int qb), .val (.int sel), .val (.ref kx), .val (.int (1 : Int32)), .val (.int tt), .val (.int (2 : Int32)), .val (.int NN), .val (.int c0), .val (.int c1), .val (.int c2), .val (.ref vb), .val (.ref sa1), .val (.ref b2), .val (.long (if tt = (0 : Int32) then (0 : Int64) else tms)), .second, .val (.ref b6), .val (.ref r10), .unset] [(.int (1 : Int32))]))
      refine own_stepW (B := T12.setTop (mkF m 376 #[.val (.int ks), .val (.int len), .val (.int byt), .val (.long tms), .second, .val (.int qb), .val (.int sel), .val (.ref kx), .val (.int (1 : Int32)), .val (.int tt), .val (.int (2 : Int32)), .val (.int NN), .val (.int c0), .val (.int c1), .val (.int c2), .val (.ref vb), .val (.ref sa1), .val (.ref b2), .val (.long (if tt = (0 : Int32) then (0 : Int64) else tms)), .second, .val (.ref b6), .val (.ref r10), .unset] [(.int (0 : Int32)), (.ref r10), (.int (0 : Int32)), (.ref r10)])) (fun t k => ?_) ?_
      · show Steps p.tables e below (T12.setTop (mkF m 353 #[.val (.int ks), .val (.int len), .val (.int byt), .val (.long tms), .second, .val (.int qb), .val (.int sel), .val (.ref kx), .val (.int (1 : Int32)), .val (.int tt), .val (.int (2 : Int32)), .val (.int NN), .val (.int c0), .val (.int c1), .val (.int c2), .val (.ref vb), .val (.ref sa1), .val (.ref b2), .val (.long (if tt = (0 : Int32) then (0 : Int64) else tms)), .second, .val (.ref b6), .val (.ref r10), .unset] [(.int (1 : Int32))])) _
        refine XS.ifNo X12.here hx rfl (hb hby at_353) rfl ((if0 _ _).trans (feq (by decide : ¬ ((1 : Int32) = (0 : Int32)))).1) ?_
        refine XS.aload X12.here hx rfl (hb hby at_356) rfl rfl ?_
        refine XS.aload X12.here hx rfl (hb hby at_358) rfl rfl ?_
        refine Jvm.RoadKit.acmp (g := (mkF m 360 #[.val (.int ks), .val (.int len), .val (.int byt), .val (.long tms), .second, .val (.int qb), .val (.int sel), .val (.ref kx), .val (.int (1 : Int32)), .val (.int tt), .val (.int (2 : Int32)), .val (.int NN), .val (.int c0), .val (.int c1), .val (.int c2), .val (.ref vb), .val (.ref sa1), .val (.ref b2), .val (.long (if tt = (0 : Int32) then (0 : Int64) else tms)), .second, .val (.ref b6), .val (.ref r10), .unset] [(.ref vb), (.ref r10)])) X12 hx rfl rfl rfl (pc0 := 360) (pc' := 365) (same := false) rfl (hb hby at_360) rfl (decide_eq_false fun q => (fun q => ne_vb_r10 (Eq.symm q)) (Value.ref.inj q)) (by decide) (by decide) ?_
        refine XS.iload X12.here hx rfl (hb hby at_365) rfl ?_
        refine XS.ifNo X12.here hx rfl (hb hby at_367) rfl ((if0 _ _).trans (tlt hpos).2.2.2) ?_
        refine XS.aload X12.here hx rfl (hb hby at_370) rfl rfl ?_
        refine XS.iconst X12.here hx rfl (hb hby at_372) ?_
        refine XS.aload X12.here hx rfl (hb hby at_373) rfl rfl ?_
        refine XS.iconst X12.here hx rfl (hb hby at_375) ?_
        exact k
      obtain ⟨cr13, Ac13, hl13, ha13⟩ := own_rd Vr10
      refine own_stepW (B := T12.setTop (mkF m 380 #[.val (.int ks), .val (.int len), .val (.int byt), .val (.long tms), .second, .val (.int qb), .val (.int sel), .val (.ref kx), .val (.int (1 : Int32)), .val (.int tt), .val (.int (2 : Int32)), .val (.int NN), .val (.int c0), .val (.int c1), .val (.int c2), .val (.ref vb), .val (.ref sa1), .val (.ref b2), .val (.long (if tt = (0 : Int32) then (0 : Int64) else tms)), .second, .val (.ref b6), .val (.ref r10), .unset] [(.int ((c0 ^^^ (1 : Int32)).toInt8.toInt32)), (.int (0 : Int32)), (.ref r10)])) (fun t k => ?_) ?_
      · show Steps p.tables e below (T12.setTop (mkF m 376 #[.val (.int ks), .val (.int len), .val (.int byt), .val (.long tms), .second, .val (.int qb), .val (.int sel), .val (.ref kx), .val (.int (1 : Int32)), .val (.int tt), .val (.int (2 : Int32)), .val (.int NN), .val (.int c0), .val (.int c1), .val (.int c2), .val (.ref vb), .val (.ref sa1), .val (.ref b2), .val (.long (if tt = (0 : Int32) then (0 : Int64) else tms)), .second, .val (.ref b6), .val (.ref r10), .unset] [(.int (0 : Int32)), (.ref r10), (.int (0 : Int32)), (.ref r10)])) _
        refine X12.baloadBytes hx (j := (0 : Int32)) (v := (.int c0)) (by rw [e12]; exact Ac13.1) (State.isArrayOf_alike hZ.alike Ac13.2.1) Ac13.2.2 (ha13 0 (by decide) hpos).1 (by rw [(ha13 0 (by decide) hpos).2]; exact congrArg some (w0 (own_npos hpos))) (g := (mkF m 376 #[.val (.int ks), .val (.int len), .val (.int byt), .val (.long tms), .second, .val (.int qb), .val (.int sel), .val (.ref kx), .val (.int (1 : Int32)), .val (.int tt), .val (.int (2 : Int32)), .val (.int NN), .val (.int c0), .val (.int c1), .val (.int c2), .val (.ref vb), .val (.ref sa1), .val (.ref b2), .val (.long (if tt = (0 : Int32) then (0 : Int64) else tms)), .second, .val (.ref b6), .val (.ref r10), .unset] [(.int (0 : Int32)), (.ref r10), (.int (0 : Int32)), (.ref r10)])) rfl rfl (hb hby at_376) _ ?_
        refine XS.iconst X12.here hx rfl (hb hby at_377) ?_
        refine XS.ixor X12.here hx rfl (hb hby at_378) rfl ?_
        refine XS.i2b X12.here hx rfl (hb hby at_379) rfl ?_
        exact k
      obtain ⟨T14, h14, X14, e14, W14, st14⟩ := stB X12 hx hZ e12 Ac13 (j := (0 : Int32)) (ha13 0 (by decide) hpos).1 (g := (mkF m 380 #[.val (.int ks), .val (.int len), .val (.int byt), .val (.long tms), .second, .val (.int qb), .val (.int sel), .val (.ref kx), .val (.int (1 : Int32)), .val (.int tt), .val (.int (2 : Int32)), .val (.int NN), .val (.int c0), .val (.int c1), .val (.int c2), .val (.ref vb), .val (.ref sa1), .val (.ref b2), .val (.long (if tt = (0 : Int32) then (0 : Int64) else tms)), .second, .val (.ref b6), .val (.ref r10), .unset] [(.int ((c0 ^^^ (1 : Int32)).toInt8.toInt32)), (.int (0 : Int32)), (.ref r10)])) rfl rfl (hb hby at_380)
      have N14 := Fr.snoc X14 N12 g_r10
      refine own_stepW st14 ?_
      show own_GoW p e below s _ _ _ (T14.setTop (mkF m 381 #[.val (.int ks), .val (.int len), .val (.int byt), .val (.long tms), .second, .val (.int qb), .val (.int sel), .val (.ref kx), .val (.int (1 : Int32)), .val (.int tt), .val (.int (2 : Int32)), .val (.int NN), .val (.int c0), .val (.int c1), .val (.int c2), .val (.ref vb), .val (.ref sa1), .val (.ref b2), .val (.long (if tt = (0 : Int32) then (0 : Int64) else tms)), .second, .val (.ref b6), .val (.ref r10), .unset] []))
      refine own_stepW (B := T14.setTop (mkF m 383 #[.val (.int ks), .val (.int len), .val (.int byt), .val (.long tms), .second, .val (.int qb), .val (.int sel), .val (.ref kx), .val (.int (1 : Int32)), .val (.int tt), .val (.int (2 : Int32)), .val (.int NN), .val (.int c0), .val (.int c1), .val (.int c2), .val (.ref vb), .val (.ref sa1), .val (.ref b2), .val (.long (if tt = (0 : Int32) then (0 : Int64) else tms)), .second, .val (.ref b6), .val (.ref r10), .unset] [(.ref b6)])) (fun t k => ?_) ?_
      · show Steps p.tables e below (T14.setTop (mkF m 381 #[.val (.int ks), .val (.int len), .val (.int byt), .val (.long tms), .second, .val (.int qb), .val (.int sel), .val (.ref kx), .val (.int (1 : Int32)), .val (.int tt), .val (.int (2 : Int32)), .val (.int NN), .val (.int c0), .val (.int c1), .val (.int c2), .val (.ref vb), .val (.ref sa1), .val (.ref b2), .val (.long (if tt = (0 : Int32) then (0 : Int64) else tms)), .second, .val (.ref b6), .val (.ref r10), .unset] [])) _
        refine XS.aload X14.here hx rfl (hb hby at_381) rfl rfl ?_
        exact k
      obtain ⟨cq15, kq15, q15a, q15b, q15c⟩ := isOf hZ e14 (((Em7.wr W9).keep K10).wr W14)
      obtain ⟨_, _, ⟨T15, L15, k15, n15⟩, -, X15, ⟨Lc15, hQ15, l15, y15, z15⟩, st15⟩ := X14.virtualBack hx (y := (⟨"com/example/nests/nests/model/Mutation", "getValue", "()[B"⟩ : MethodName)) (z := (⟨"com/example/nests/nests/model/Mutation", "getValue", "()[B"⟩ : MethodName)) hown (mvT hZ (hw _ (List.mem_of_getElem? (i := 111) rfl))) (mvT hZ (hw _ (List.mem_of_getElem? (i := 112) rfl))) (notFace_of_selects (args := #[]) (mvT hZ (hw _ (List.mem_of_getElem? (i := 114) rfl)))) (mvT hZ (hw _ (List.mem_of_getElem? (i := 114) rfl))) (mvT hZ (hw _ (List.mem_of_getElem? (i := 113) rfl))) (by decide) (backOf (W := 0) (rm16 l Z a0 hw [] b6 rv7 kv NN vs h14 n0 (Nat.le_trans (Nat.le_trans (Nat.le_trans (Nat.le_trans (Nat.le_trans (Nat.le_trans (Nat.le_trans (Nat.le_trans (Nat.le_trans Z0 Kc.1) E1.1) E2.1) (Keep.of_wr W3).1) E6.1) K7.1) (Keep.of_wr W9).1) K10.1) (Keep.of_wr W14).1) (((Fv7.other W9 (Or.inl (Ne.symm ne_vb_b6))).keep K10 nin0).other W14 (Or.inl ne_b6_r10)) (((Vr7.other W9 (Ne.symm ne_vb_rv7)).keep K10 nin0).other W14 ne_rv7_r10) (((Er7.wr W9).keep K10).wr W14) hN3) hZ (hw _ (List.mem_of_getElem? (i := 115) rfl)) (hw _ (List.mem_of_getElem? (i := 14) rfl)) (by decide) (by decide)) q15a q15c (g := (mkF m 383 #[.val (.int ks), .val (.int len), .val (.int byt), .val (.long tms), .second, .val (.int qb), .val (.int sel), .val (.ref kx), .val (.int (1 : Int32)), .val (.int tt), .val (.int (2 : Int32)), .val (.int NN), .val (.int c0), .val (.int c1), .val (.int c2), .val (.ref vb), .val (.ref sa1), .val (.ref b2), .val (.long (if tt = (0 : Int32) then (0 : Int64) else tms)), .second, .val (.ref b6), .val (.ref r10), .unset] [(.ref b6)])) rfl (by rw [hml]; rfl) (Steps.refl _) (argsL := []) (rest := []) (lenOf pd_22 rfl) rfl (by show 2 * 0 + _ ≤ _; exact Nat.le_of_eq rfl) (hb hby at_383) (fun _ _ => ⟨rfl, e14, (by decide : 10 + 1 ≤ _), (by decide : 54 + 3 ≤ _)⟩)
      dsimp only [Pt.U, Pt.locs, Pt.cells, Pt.slots] at X15 l15 y15 z15 st15 hQ15
      subst l15 y15 z15
      obtain ⟨r15, rfl, N15q, K15, sr15, Er15, Vr15⟩ := hQ15
      have N15 := Fr.app N14 N15q
      refine own_viaW st15 ?_
      show own_GoW p e below s _ _ _ (T15.setTop (mkF m 386 #[.val (.int ks), .val (.int len), .val (.int byt), .val (.long tms), .second, .val (.int qb), .val (.int sel), .val (.ref kx), .val (.int (1 : Int32)), .val (.int tt), .val (.int (2 : Int32)), .val (.int NN), .val (.int c0), .val (.int c1), .val (.int c2), .val (.ref vb), .val (.ref sa1), .val (.ref b2), .val (.long (if tt = (0 : Int32) then (0 : Int64) else tms)), .second, .val (.ref b6), .val (.ref r10), .unset] [(.ref r15)]))
      have ne_b6_r15 : b6 ≠ r15 := Nat.ne_of_lt (Nat.lt_of_lt_of_le (((Em7.wr W9).keep K10).wr W14).lt sr15)
      have ne_r10_r15 : r10 ≠ r15 := Nat.ne_of_lt (Nat.lt_of_lt_of_le (Er10.wr W14).lt sr15)
      have ne_rv7_r15 : rv7 ≠ r15 := Nat.ne_of_lt (Nat.lt_of_lt_of_le (((Er7.wr W9).keep K10).wr W14).lt sr15)
      have ne_vb_r15 : vb ≠ r15 := Nat.ne_of_lt (Nat.lt_of_lt_of_le ((((((((Ev.ext E1).ext E2).wr W3).ext E6).keep K7).wr W9).keep K10).wr W14).lt sr15)
      have g_r15 : n0 ≤ r15 := Nat.le_trans (Nat.le_trans (Nat.le_trans (Nat.le_trans (Nat.le_trans (Nat.le_trans (Nat.le_trans (Nat.le_trans (Nat.le_trans (Nat.le_trans Z0 Kc.1) E1.1) E2.1) (Keep.of_wr W3).1) E6.1) K7.1) (Keep.of_wr W9).1) K10.1) (Keep.of_wr W14).1) sr15
      refine own_stepW (B := T15.setTop (mkF m 398 #[.val (.int ks), .val (.int len), .val (.int byt), .val (.long tms), .second, .val (.int qb), .val (.int sel), .val (.ref kx), .val (.int (1 : Int32)), .val (.int tt), .val (.int (2 : Int32)), .val (.int NN), .val (.int c0), .val (.int c1), .val (.int c2), .val (.ref vb), .val (.ref sa1), .val (.ref b2), .val (.long (if tt = (0 : Int32) then (0 : Int64) else tms)), .second, .val (.ref b6), .val (.ref r10), .val (.ref r15)] [(.int c2), (.int c1), (.int c0), (.int NN), (.ref r15)])) (fun t k => ?_) ?_
      · show Steps p.tables e below (T15.setTop (mkF m 386 #[.val (.int ks), .val (.int len), .val (.int byt), .val (.long tms), .second, .val (.int qb), .val (.int sel), .val (.ref kx), .val (.int (1 : Int32)), .val (.int tt), .val (.int (2 : Int32)), .val (.int NN), .val (.int c0), .val (.int c1), .val (.int c2), .val (.ref vb), .val (.ref sa1), .val (.ref b2), .val (.long (if tt = (0 : Int32) then (0 : Int64) else tms)), .second, .val (.ref b6), .val (.ref r10), .unset] [(.ref r15)])) _
        refine XS.astore X15.here hx rfl (hb hby at_386) rfl rfl (l' := #[.val (.int ks), .val (.int len), .val (.int byt), .val (.long tms), .second, .val (.int qb), .val (.int sel), .val (.ref kx), .val (.int (1 : Int32)), .val (.int tt), .val (.int (2 : Int32)), .val (.int NN), .val (.int c0), .val (.int c1), .val (.int c2), .val (.ref vb), .val (.ref sa1), .val (.ref b2), .val (.long (if tt = (0 : Int32) then (0 : Int64) else tms)), .second, .val (.ref b6), .val (.ref r10), .val (.ref r15)]) rfl ?_
        refine XS.aload X15.here hx rfl (hb hby at_388) rfl rfl ?_
        refine XS.iload X15.here hx rfl (hb hby at_390) rfl ?_
        refine XS.iload X15.here hx rfl (hb hby at_392) rfl ?_
        refine XS.iload X15.here hx rfl (hb hby at_394) rfl ?_
        refine XS.iload X15.here hx rfl (hb hby at_396) rfl ?_
        exact k
      obtain ⟨cr16, Ac16, hl16, ha16⟩ := own_rd Vr15
      obtain ⟨_, _, ⟨T17, L17, k17, n17⟩, -, X17, ⟨Lc17, hQ17, l17, y17, z17⟩, st17⟩ := Jvm.LawKit.callS X15 hx (y := (⟨"com/example/nests/nests/model/MutationGetValuePinLaw", "same", "([BIBBB)Z"⟩ : MethodName)) hown (mvT hZ (hw _ (List.mem_of_getElem? (i := 116) rfl))) (mvT hZ (hw _ (List.mem_of_getElem? (i := 117) rfl))) (mvT hZ (hw _ (List.mem_of_getElem? (i := 118) rfl))) (mvT hZ (hw _ (List.mem_of_getElem? (i := 119) rfl))) (by decide) (backOf (W := 0) (rm17 l Z a0 hw [] r15 NN c0 c1 c2 cr16 T15.heap n0 (Nat.le_trans (Nat.le_trans (Nat.le_trans (Nat.le_trans (Nat.le_trans (Nat.le_trans (Nat.le_trans (Nat.le_trans (Nat.le_trans (Nat.le_trans Z0 Kc.1) E1.1) E2.1) (Keep.of_wr W3).1) E6.1) K7.1) (Keep.of_wr W9).1) K10.1) (Keep.of_wr W14).1) K15.1) Ac16 hl16 (fun q => ⟨(ha16 0 (by decide) (own_ge q (by decide))).1, by rw [(ha16 0 (by decide) (own_ge q (by decide))).2]; exact congrArg some (w0 q)⟩) (fun q => ⟨(ha16 1 (by decide) (own_ge q (by decide))).1, by rw [(ha16 1 (by decide) (own_ge q (by decide))).2]; exact congrArg some (w1 q)⟩) (fun q => ⟨(ha16 2 (by decide) (own_ge q (by decide))).1, by rw [(ha16 2 (by decide) (own_ge q (by decide))).2]; exact congrArg some (w2 q)⟩)) hZ (hw _ (List.mem_of_getElem? (i := 119) rfl)) (hw _ (List.mem_of_getElem? (i := 118) rfl)) (by decide) (by decide)) (g := (mkF m 398 #[.val (.int ks), .val (.int len), .val (.int byt), .val (.long tms), .second, .val (.int qb), .val (.int sel), .val (.ref kx), .val (.int (1 : Int32)), .val (.int tt), .val (.int (2 : Int32)), .val (.int NN), .val (.int c0), .val (.int c1), .val (.int c2), .val (.ref vb), .val (.ref sa1), .val (.ref b2), .val (.long (if tt = (0 : Int32) then (0 : Int64) else tms)), .second, .val (.ref b6), .val (.ref r10), .val (.ref r15)] [(.int c2), (.int c1), (.int c0), (.int NN), (.ref r15)])) rfl (by rw [hml]; rfl) (argsL := [(.ref r15), (.int NN), (.int c0), (.int c1), (.int c2)]) (rest := []) (lenOf pd_23 rfl) rfl (by show 2 * 0 + _ ≤ _; exact Nat.le_of_eq rfl) (hb hby at_398) (fun _ _ => ⟨rfl, rfl, (by decide : 11 + 0 ≤ _), (by decide : 57 + 0 ≤ _)⟩)
      dsimp only [Pt.U, Pt.locs, Pt.cells, Pt.slots] at X17 l17 y17 z17 st17 hQ17
      subst l17 y17 z17
      obtain ⟨rfl, N17q, e17⟩ := hQ17
      have N17 := Fr.app N15 N17q
      refine own_stepW st17 ?_
      show own_GoW p e below s _ _ _ (T17.setTop (mkF m 401 #[.val (.int ks), .val (.int len), .val (.int byt), .val (.long tms), .second, .val (.int qb), .val (.int sel), .val (.ref kx), .val (.int (1 : Int32)), .val (.int tt), .val (.int (2 : Int32)), .val (.int NN), .val (.int c0), .val (.int c1), .val (.int c2), .val (.ref vb), .val (.ref sa1), .val (.ref b2), .val (.long (if tt = (0 : Int32) then (0 : Int64) else tms)), .second, .val (.ref b6), .val (.ref r10), .val (.ref r15)] [(.int (1 : Int32))]))
      refine own_stepW (B := T17.setTop (mkF m 428 #[.val (.int ks), .val (.int len), .val (.int byt), .val (.long tms), .second, .val (.int qb), .val (.int sel), .val (.ref kx), .val (.int (1 : Int32)), .val (.int tt), .val (.int (2 : Int32)), .val (.int NN), .val (.int c0), .val (.int c1), .val (.int c2), .val (.ref vb), .val (.ref sa1), .val (.ref b2), .val (.long (if tt = (0 : Int32) then (0 : Int64) else tms)), .second, .val (.ref b6), .val (.ref r10), .val (.ref r15)] [(.int (1 : Int32))])) (fun t k => ?_) ?_
      · show Steps p.tables e below (T17.setTop (mkF m 401 #[.val (.int ks), .val (.int len), .val (.int byt), .val (.long tms), .second, .val (.int qb), .val (.int sel), .val (.ref kx), .val (.int (1 : Int32)), .val (.int tt), .val (.int (2 : Int32)), .val (.int NN), .val (.int c0), .val (.int c1), .val (.int c2), .val (.ref vb), .val (.ref sa1), .val (.ref b2), .val (.long (if tt = (0 : Int32) then (0 : Int64) else tms)), .second, .val (.ref b6), .val (.ref r10), .val (.ref r15)] [(.int (1 : Int32))])) _
        refine XS.ifNo X17.here hx rfl (hb hby at_401) rfl ((if0 _ _).trans (feq (by decide : ¬ ((1 : Int32) = (0 : Int32)))).1) ?_
        refine XS.aload X17.here hx rfl (hb hby at_404) rfl rfl ?_
        refine XS.aload X17.here hx rfl (hb hby at_406) rfl rfl ?_
        refine Jvm.RoadKit.acmp (g := (mkF m 408 #[.val (.int ks), .val (.int len), .val (.int byt), .val (.long tms), .second, .val (.int qb), .val (.int sel), .val (.ref kx), .val (.int (1 : Int32)), .val (.int tt), .val (.int (2 : Int32)), .val (.int NN), .val (.int c0), .val (.int c1), .val (.int c2), .val (.ref vb), .val (.ref sa1), .val (.ref b2), .val (.long (if tt = (0 : Int32) then (0 : Int64) else tms)), .second, .val (.ref b6), .val (.ref r10), .val (.ref r15)] [(.ref vb), (.ref r15)])) X17 hx rfl rfl rfl (pc0 := 408) (pc' := 411) (same := false) rfl (hb hby at_408) rfl (decide_eq_false fun q => (fun q => ne_vb_r15 (Eq.symm q)) (Value.ref.inj q)) (by decide) (by decide) ?_
        refine XS.iload X17.here hx rfl (hb hby at_411) rfl ?_
        refine XS.ifNo X17.here hx rfl (hb hby at_413) rfl ((if0 _ _).trans (feq (own_pos hpos)).1) ?_
        refine XS.aload X17.here hx rfl (hb hby at_416) rfl rfl ?_
        refine XS.aload X17.here hx rfl (hb hby at_418) rfl rfl ?_
        refine Jvm.RoadKit.acmp (g := (mkF m 420 #[.val (.int ks), .val (.int len), .val (.int byt), .val (.long tms), .second, .val (.int qb), .val (.int sel), .val (.ref kx), .val (.int (1 : Int32)), .val (.int tt), .val (.int (2 : Int32)), .val (.int NN), .val (.int c0), .val (.int c1), .val (.int c2), .val (.ref vb), .val (.ref sa1), .val (.ref b2), .val (.long (if tt = (0 : Int32) then (0 : Int64) else tms)), .second, .val (.ref b6), .val (.ref r10), .val (.ref r15)] [(.ref r10), (.ref r15)])) X17 hx rfl rfl rfl (pc0 := 420) (pc' := 423) (same := false) rfl (hb hby at_420) rfl (decide_eq_false fun q => (fun q => ne_r10_r15 (Eq.symm q)) (Value.ref.inj q)) (by decide) (by decide) ?_
        refine XS.iconst X17.here hx rfl (hb hby at_423) ?_
        refine XS.goto X17.here hx rfl (pc0 := 424) (pc' := 428) rfl (hb hby at_424) (by decide) (by decide) ?_
        exact k
      exact own_retNW X17 hS7 (by rw [e17]; exact (Nat.le_trans (Nat.le_trans (Nat.le_trans (Nat.le_trans (Nat.le_refl T7.heap.size) (Keep.of_wr W9).1) K10.1) (Keep.of_wr W14).1) K15.1)) hx Bd.notSynchronized (t := .boolean) Bd.returns (by simp) (hb hby at_428) ⟨rfl, N17⟩ (by decide) (by decide)
    · refine own_stepW (B := T7.setTop (mkF m 335 #[.val (.int ks), .val (.int len), .val (.int byt), .val (.long tms), .second, .val (.int qb), .val (.int sel), .val (.ref kx), .val (.int (1 : Int32)), .val (.int tt), .val (.int (2 : Int32)), .val (.int NN), .val (.int c0), .val (.int c1), .val (.int c2), .val (.ref vb), .val (.ref sa1), .val (.ref b2), .val (.long (if tt = (0 : Int32) then (0 : Int64) else tms)), .second, .val (.ref b6), .unset, .unset] [(.ref b6)])) (fun t k => ?_) ?_
      · show Steps p.tables e below (T7.setTop (mkF m 319 #[.val (.int ks), .val (.int len), .val (.int byt), .val (.long tms), .second, .val (.int qb), .val (.int sel), .val (.ref kx), .val (.int (1 : Int32)), .val (.int tt), .val (.int (2 : Int32)), .val (.int NN), .val (.int c0), .val (.int c1), .val (.int c2), .val (.ref vb), .val (.ref sa1), .val (.ref b2), .val (.long (if tt = (0 : Int32) then (0 : Int64) else tms)), .second, .val (.ref b6), .unset, .unset] [(.int NN)])) _
        refine XS.ifYes X7.here hx rfl (pc0 := 319) (pc' := 333) rfl (hb hby at_319) rfl ((if0 _ _).trans (flt hpos).2.2.2) (by decide) (by decide) ?_
        refine XS.aload X7.here hx rfl (hb hby at_333) rfl rfl ?_
        exact k
      obtain ⟨cq18, kq18, q18a, q18b, q18c⟩ := isOf hZ rfl Em7
      obtain ⟨_, _, ⟨T18, L18, k18, n18⟩, -, X18, ⟨Lc18, hQ18, l18, y18, z18⟩, st18⟩ := X7.virtualBack hx (y := (⟨"com/example/nests/nests/model/Mutation", "getValue", "()[B"⟩ : MethodName)) (z := (⟨"com/example/nests/nests/model/Mutation", "getValue", "()[B"⟩ : MethodName)) hown (mvT hZ (hw _ (List.mem_of_getElem? (i := 111) rfl))) (mvT hZ (hw _ (List.mem_of_getElem? (i := 112) rfl))) (notFace_of_selects (args := #[]) (mvT hZ (hw _ (List.mem_of_getElem? (i := 114) rfl)))) (mvT hZ (hw _ (List.mem_of_getElem? (i := 114) rfl))) (mvT hZ (hw _ (List.mem_of_getElem? (i := 113) rfl))) (by decide) (backOf (W := 0) (rm16 l Z a0 hw [] b6 rv7 kv NN vs T7.heap n0 (Nat.le_trans (Nat.le_trans (Nat.le_trans (Nat.le_trans (Nat.le_trans (Nat.le_trans Z0 Kc.1) E1.1) E2.1) (Keep.of_wr W3).1) E6.1) K7.1) Fv7 Vr7 Er7 hN3) hZ (hw _ (List.mem_of_getElem? (i := 115) rfl)) (hw _ (List.mem_of_getElem? (i := 14) rfl)) (by decide) (by decide)) q18a q18c (g := (mkF m 335 #[.val (.int ks), .val (.int len), .val (.int byt), .val (.long tms), .second, .val (.int qb), .val (.int sel), .val (.ref kx), .val (.int (1 : Int32)), .val (.int tt), .val (.int (2 : Int32)), .val (.int NN), .val (.int c0), .val (.int c1), .val (.int c2), .val (.ref vb), .val (.ref sa1), .val (.ref b2), .val (.long (if tt = (0 : Int32) then (0 : Int64) else tms)), .second, .val (.ref b6), .unset, .unset] [(.ref b6)])) rfl (by rw [hml]; rfl) (Steps.refl _) (argsL := []) (rest := []) (lenOf pd_22 rfl) rfl (by show 2 * 0 + _ ≤ _; exact Nat.le_of_eq rfl) (hb hby at_335) (fun _ _ => ⟨rfl, rfl, (by decide : 9 + 1 ≤ _), (by decide : 51 + 3 ≤ _)⟩)
      dsimp only [Pt.U, Pt.locs, Pt.cells, Pt.slots] at X18 l18 y18 z18 st18 hQ18
      subst l18 y18 z18
      obtain ⟨r18, rfl, N18q, K18, sr18, Er18, Vr18⟩ := hQ18
      have N18 := Fr.app N7 N18q
      refine own_viaW st18 ?_
      show own_GoW p e below s _ _ _ (T18.setTop (mkF m 338 #[.val (.int ks), .val (.int len), .val (.int byt), .val (.long tms), .second, .val (.int qb), .val (.int sel), .val (.ref kx), .val (.int (1 : Int32)), .val (.int tt), .val (.int (2 : Int32)), .val (.int NN), .val (.int c0), .val (.int c1), .val (.int c2), .val (.ref vb), .val (.ref sa1), .val (.ref b2), .val (.long (if tt = (0 : Int32) then (0 : Int64) else tms)), .second, .val (.ref b6), .unset, .unset] [(.ref r18)]))
      have ne_b6_r18 : b6 ≠ r18 := Nat.ne_of_lt (Nat.lt_of_lt_of_le Em7.lt sr18)
      have ne_rv7_r18 : rv7 ≠ r18 := Nat.ne_of_lt (Nat.lt_of_lt_of_le Er7.lt sr18)
      have ne_vb_r18 : vb ≠ r18 := Nat.ne_of_lt (Nat.lt_of_lt_of_le (((((Ev.ext E1).ext E2).wr W3).ext E6).keep K7).lt sr18)
      have g_r18 : n0 ≤ r18 := Nat.le_trans (Nat.le_trans (Nat.le_trans (Nat.le_trans (Nat.le_trans (Nat.le_trans (Nat.le_trans Z0 Kc.1) E1.1) E2.1) (Keep.of_wr W3).1) E6.1) K7.1) sr18
      refine own_stepW (B := T18.setTop (mkF m 350 #[.val (.int ks), .val (.int len), .val (.int byt), .val (.long tms), .second, .val (.int qb), .val (.int sel), .val (.ref kx), .val (.int (1 : Int32)), .val (.int tt), .val (.int (2 : Int32)), .val (.int NN), .val (.int c0), .val (.int c1), .val (.int c2), .val (.ref vb), .val (.ref sa1), .val (.ref b2), .val (.long (if tt = (0 : Int32) then (0 : Int64) else tms)), .second, .val (.ref b6), .val (.ref r18), .unset] [(.int c2), (.int c1), (.int c0), (.int NN), (.ref r18)])) (fun t k => ?_) ?_
      · show Steps p.tables e below (T18.setTop (mkF m 338 #[.val (.int ks), .val (.int len), .val (.int byt), .val (.long tms), .second, .val (.int qb), .val (.int sel), .val (.ref kx), .val (.int (1 : Int32)), .val (.int tt), .val (.int (2 : Int32)), .val (.int NN), .val (.int c0), .val (.int c1), .val (.int c2), .val (.ref vb), .val (.ref sa1), .val (.ref b2), .val (.long (if tt = (0 : Int32) then (0 : Int64) else tms)), .second, .val (.ref b6), .unset, .unset] [(.ref r18)])) _
        refine XS.astore X18.here hx rfl (hb hby at_338) rfl rfl (l' := #[.val (.int ks), .val (.int len), .val (.int byt), .val (.long tms), .second, .val (.int qb), .val (.int sel), .val (.ref kx), .val (.int (1 : Int32)), .val (.int tt), .val (.int (2 : Int32)), .val (.int NN), .val (.int c0), .val (.int c1), .val (.int c2), .val (.ref vb), .val (.ref sa1), .val (.ref b2), .val (.long (if tt = (0 : Int32) then (0 : Int64) else tms)), .second, .val (.ref b6), .val (.ref r18), .unset]) rfl ?_
        refine XS.aload X18.here hx rfl (hb hby at_340) rfl rfl ?_
        refine XS.iload X18.here hx rfl (hb hby at_342) rfl ?_
        refine XS.iload X18.here hx rfl (hb hby at_344) rfl ?_
        refine XS.iload X18.here hx rfl (hb hby at_346) rfl ?_
        refine XS.iload X18.here hx rfl (hb hby at_348) rfl ?_
        exact k
      obtain ⟨cr19, Ac19, hl19, ha19⟩ := own_rd Vr18
      obtain ⟨_, _, ⟨T20, L20, k20, n20⟩, -, X20, ⟨Lc20, hQ20, l20, y20, z20⟩, st20⟩ := Jvm.LawKit.callS X18 hx (y := (⟨"com/example/nests/nests/model/MutationGetValuePinLaw", "same", "([BIBBB)Z"⟩ : MethodName)) hown (mvT hZ (hw _ (List.mem_of_getElem? (i := 116) rfl))) (mvT hZ (hw _ (List.mem_of_getElem? (i := 117) rfl))) (mvT hZ (hw _ (List.mem_of_getElem? (i := 118) rfl))) (mvT hZ (hw _ (List.mem_of_getElem? (i := 119) rfl))) (by decide) (backOf (W := 0) (rm17 l Z a0 hw [] r18 NN c0 c1 c2 cr19 T18.heap n0 (Nat.le_trans (Nat.le_trans (Nat.le_trans (Nat.le_trans (Nat.le_trans (Nat.le_trans (Nat.le_trans Z0 Kc.1) E1.1) E2.1) (Keep.of_wr W3).1) E6.1) K7.1) K18.1) Ac19 hl19 (fun q => ⟨(ha19 0 (by decide) (own_ge q (by decide))).1, by rw [(ha19 0 (by decide) (own_ge q (by decide))).2]; exact congrArg some (w0 q)⟩) (fun q => ⟨(ha19 1 (by decide) (own_ge q (by decide))).1, by rw [(ha19 1 (by decide) (own_ge q (by decide))).2]; exact congrArg some (w1 q)⟩) (fun q => ⟨(ha19 2 (by decide) (own_ge q (by decide))).1, by rw [(ha19 2 (by decide) (own_ge q (by decide))).2]; exact congrArg some (w2 q)⟩)) hZ (hw _ (List.mem_of_getElem? (i := 119) rfl)) (hw _ (List.mem_of_getElem? (i := 118) rfl)) (by decide) (by decide)) (g := (mkF m 350 #[.val (.int ks), .val (.int len), .val (.int byt), .val (.long tms), .second, .val (.int qb), .val (.int sel), .val (.ref kx), .val (.int (1 : Int32)), .val (.int tt), .val (.int (2 : Int32)), .val (.int NN), .val (.int c0), .val (.int c1), .val (.int c2), .val (.ref vb), .val (.ref sa1), .val (.ref b2), .val (.long (if tt = (0 : Int32) then (0 : Int64) else tms)), .second, .val (.ref b6), .val (.ref r18), .unset] [(.int c2), (.int c1), (.int c0), (.int NN), (.ref r18)])) rfl (by rw [hml]; rfl) (argsL := [(.ref r18), (.int NN), (.int c0), (.int c1), (.int c2)]) (rest := []) (lenOf pd_23 rfl) rfl (by show 2 * 0 + _ ≤ _; exact Nat.le_of_eq rfl) (hb hby at_350) (fun _ _ => ⟨rfl, rfl, (by decide : 10 + 0 ≤ _), (by decide : 54 + 0 ≤ _)⟩)
      dsimp only [Pt.U, Pt.locs, Pt.cells, Pt.slots] at X20 l20 y20 z20 st20 hQ20
      subst l20 y20 z20
      obtain ⟨rfl, N20q, e20⟩ := hQ20
      have N20 := Fr.app N18 N20q
      refine own_stepW st20 ?_
      show own_GoW p e below s _ _ _ (T20.setTop (mkF m 353 #[.val (.int ks), .val (.int len), .val (.int byt), .val (.long tms), .second, .val (.int qb), .val (.int sel), .val (.ref kx), .val (.int (1 : Int32)), .val (.int tt), .val (.int (2 : Int32)), .val (.int NN), .val (.int c0), .val (.int c1), .val (.int c2), .val (.ref vb), .val (.ref sa1), .val (.ref b2), .val (.long (if tt = (0 : Int32) then (0 : Int64) else tms)), .second, .val (.ref b6), .val (.ref r18), .unset] [(.int (1 : Int32))]))
      refine own_stepW (B := T20.setTop (mkF m 383 #[.val (.int ks), .val (.int len), .val (.int byt), .val (.long tms), .second, .val (.int qb), .val (.int sel), .val (.ref kx), .val (.int (1 : Int32)), .val (.int tt), .val (.int (2 : Int32)), .val (.int NN), .val (.int c0), .val (.int c1), .val (.int c2), .val (.ref vb), .val (.ref sa1), .val (.ref b2), .val (.long (if tt = (0 : Int32) then (0 : Int64) else tms)), .second, .val (.ref b6), .val (.ref r18), .unset] [(.ref b6)])) (fun t k => ?_) ?_
      · show Steps p.tables e below (T20.setTop (mkF m 353 #[.val (.int ks), .val (.int len), .val (.int byt), .val (.long tms), .second, .val (.int qb), .val (.int sel), .val (.ref kx), .val (.int (1 : Int32)), .val (.int tt), .val (.int (2 : Int32)), .val (.int NN), .val (.int c0), .val (.int c1), .val (.int c2), .val (.ref vb), .val (.ref sa1), .val (.ref b2), .val (.long (if tt = (0 : Int32) then (0 : Int64) else tms)), .second, .val (.ref b6), .val (.ref r18), .unset] [(.int (1 : Int32))])) _
        refine XS.ifNo X20.here hx rfl (hb hby at_353) rfl ((if0 _ _).trans (feq (by decide : ¬ ((1 : Int32) = (0 : Int32)))).1) ?_
        refine XS.aload X20.here hx rfl (hb hby at_356) rfl rfl ?_
        refine XS.aload X20.here hx rfl (hb hby at_358) rfl rfl ?_
        refine Jvm.RoadKit.acmp (g := (mkF m 360 #[.val (.int ks), .val (.int len), .val (.int byt), .val (.long tms), .second, .val (.int qb), .val (.int sel), .val (.ref kx), .val (.int (1 : Int32)), .val (.int tt), .val (.int (2 : Int32)), .val (.int NN), .val (.int c0), .val (.int c1), .val (.int c2), .val (.ref vb), .val (.ref sa1), .val (.ref b2), .val (.long (if tt = (0 : Int32) then (0 : Int64) else tms)), .second, .val (.ref b6), .val (.ref r18), .unset] [(.ref vb), (.ref r18)])) X20 hx rfl rfl rfl (pc0 := 360) (pc' := 365) (same := false) rfl (hb hby at_360) rfl (decide_eq_false fun q => (fun q => ne_vb_r18 (Eq.symm q)) (Value.ref.inj q)) (by decide) (by decide) ?_
        refine XS.iload X20.here hx rfl (hb hby at_365) rfl ?_
        refine XS.ifYes X20.here hx rfl (pc0 := 367) (pc' := 381) rfl (hb hby at_367) rfl ((if0 _ _).trans (flt hpos).2.2.2) (by decide) (by decide) ?_
        refine XS.aload X20.here hx rfl (hb hby at_381) rfl rfl ?_
        exact k
      obtain ⟨cq21, kq21, q21a, q21b, q21c⟩ := isOf hZ e20 (Em7.keep K18)
      obtain ⟨_, _, ⟨T21, L21, k21, n21⟩, -, X21, ⟨Lc21, hQ21, l21, y21, z21⟩, st21⟩ := X20.virtualBack hx (y := (⟨"com/example/nests/nests/model/Mutation", "getValue", "()[B"⟩ : MethodName)) (z := (⟨"com/example/nests/nests/model/Mutation", "getValue", "()[B"⟩ : MethodName)) hown (mvT hZ (hw _ (List.mem_of_getElem? (i := 111) rfl))) (mvT hZ (hw _ (List.mem_of_getElem? (i := 112) rfl))) (notFace_of_selects (args := #[]) (mvT hZ (hw _ (List.mem_of_getElem? (i := 114) rfl)))) (mvT hZ (hw _ (List.mem_of_getElem? (i := 114) rfl))) (mvT hZ (hw _ (List.mem_of_getElem? (i := 113) rfl))) (by decide) (backOf (W := 0) (rm16 l Z a0 hw [] b6 rv7 kv NN vs T18.heap n0 (Nat.le_trans (Nat.le_trans (Nat.le_trans (Nat.le_trans (Nat.le_trans (Nat.le_trans (Nat.le_trans Z0 Kc.1) E1.1) E2.1) (Keep.of_wr W3).1) E6.1) K7.1) K18.1) (Fv7.keep K18 nin0) (Vr7.keep K18 nin0) (Er7.keep K18) hN3) hZ (hw _ (List.mem_of_getElem? (i := 115) rfl)) (hw _ (List.mem_of_getElem? (i := 14) rfl)) (by decide) (by decide)) q21a q21c (g := (mkF m 383 #[.val (.int ks), .val (.int len), .val (.int byt), .val (.long tms), .second, .val (.int qb), .val (.int sel), .val (.ref kx), .val (.int (1 : Int32)), .val (.int tt), .val (.int (2 : Int32)), .val (.int NN), .val (.int c0), .val (.int c1), .val (.int c2), .val (.ref vb), .val (.ref sa1), .val (.ref b2), .val (.long (if tt = (0 : Int32) then (0 : Int64) else tms)), .second, .val (.ref b6), .val (.ref r18), .unset] [(.ref b6)])) rfl (by rw [hml]; rfl) (Steps.refl _) (argsL := []) (rest := []) (lenOf pd_22 rfl) rfl (by show 2 * 0 + _ ≤ _; exact Nat.le_of_eq rfl) (hb hby at_383) (fun _ _ => ⟨rfl, e20, (by decide : 10 + 1 ≤ _), (by decide : 54 + 3 ≤ _)⟩)
      dsimp only [Pt.U, Pt.locs, Pt.cells, Pt.slots] at X21 l21 y21 z21 st21 hQ21
      subst l21 y21 z21
      obtain ⟨r21, rfl, N21q, K21, sr21, Er21, Vr21⟩ := hQ21
      have N21 := Fr.app N20 N21q
      refine own_viaW st21 ?_
      show own_GoW p e below s _ _ _ (T21.setTop (mkF m 386 #[.val (.int ks), .val (.int len), .val (.int byt), .val (.long tms), .second, .val (.int qb), .val (.int sel), .val (.ref kx), .val (.int (1 : Int32)), .val (.int tt), .val (.int (2 : Int32)), .val (.int NN), .val (.int c0), .val (.int c1), .val (.int c2), .val (.ref vb), .val (.ref sa1), .val (.ref b2), .val (.long (if tt = (0 : Int32) then (0 : Int64) else tms)), .second, .val (.ref b6), .val (.ref r18), .unset] [(.ref r21)]))
      have ne_b6_r21 : b6 ≠ r21 := Nat.ne_of_lt (Nat.lt_of_lt_of_le (Em7.keep K18).lt sr21)
      have ne_r18_r21 : r18 ≠ r21 := Nat.ne_of_lt (Nat.lt_of_lt_of_le Er18.lt sr21)
      have ne_rv7_r21 : rv7 ≠ r21 := Nat.ne_of_lt (Nat.lt_of_lt_of_le (Er7.keep K18).lt sr21)
      have ne_vb_r21 : vb ≠ r21 := Nat.ne_of_lt (Nat.lt_of_lt_of_le ((((((Ev.ext E1).ext E2).wr W3).ext E6).keep K7).keep K18).lt sr21)
      have g_r21 : n0 ≤ r21 := Nat.le_trans (Nat.le_trans (Nat.le_trans (Nat.le_trans (Nat.le_trans (Nat.le_trans (Nat.le_trans (Nat.le_trans Z0 Kc.1) E1.1) E2.1) (Keep.of_wr W3).1) E6.1) K7.1) K18.1) sr21
      refine own_stepW (B := T21.setTop (mkF m 398 #[.val (.int ks), .val (.int len), .val (.int byt), .val (.long tms), .second, .val (.int qb), .val (.int sel), .val (.ref kx), .val (.int (1 : Int32)), .val (.int tt), .val (.int (2 : Int32)), .val (.int NN), .val (.int c0), .val (.int c1), .val (.int c2), .val (.ref vb), .val (.ref sa1), .val (.ref b2), .val (.long (if tt = (0 : Int32) then (0 : Int64) else tms)), .second, .val (.ref b6), .val (.ref r18), .val (.ref r21)] [(.int c2), (.int c1), (.int c0), (.int NN), (.ref r21)])) (fun t k => ?_) ?_
      · show Steps p.tables e below (T21.setTop (mkF m 386 #[.val (.int ks), .val (.int len), .val (.int byt), .val (.long tms), .second, .val (.int qb), .val (.int sel), .val (.ref kx), .val (.int (1 : Int32)), .val (.int tt), .val (.int (2 : Int32)), .val (.int NN), .val (.int c0), .val (.int c1), .val (.int c2), .val (.ref vb), .val (.ref sa1), .val (.ref b2), .val (.long (if tt = (0 : Int32) then (0 : Int64) else tms)), .second, .val (.ref b6), .val (.ref r18), .unset] [(.ref r21)])) _
        refine XS.astore X21.here hx rfl (hb hby at_386) rfl rfl (l' := #[.val (.int ks), .val (.int len), .val (.int byt), .val (.long tms), .second, .val (.int qb), .val (.int sel), .val (.ref kx), .val (.int (1 : Int32)), .val (.int tt), .val (.int (2 : Int32)), .val (.int NN), .val (.int c0), .val (.int c1), .val (.int c2), .val (.ref vb), .val (.ref sa1), .val (.ref b2), .val (.long (if tt = (0 : Int32) then (0 : Int64) else tms)), .second, .val (.ref b6), .val (.ref r18), .val (.ref r21)]) rfl ?_
        refine XS.aload X21.here hx rfl (hb hby at_388) rfl rfl ?_
        refine XS.iload X21.here hx rfl (hb hby at_390) rfl ?_
        refine XS.iload X21.here hx rfl (hb hby at_392) rfl ?_
        refine XS.iload X21.here hx rfl (hb hby at_394) rfl ?_
        refine XS.iload X21.here hx rfl (hb hby at_396) rfl ?_
        exact k
      obtain ⟨cr22, Ac22, hl22, ha22⟩ := own_rd Vr21
      obtain ⟨_, _, ⟨T23, L23, k23, n23⟩, -, X23, ⟨Lc23, hQ23, l23, y23, z23⟩, st23⟩ := Jvm.LawKit.callS X21 hx (y := (⟨"com/example/nests/nests/model/MutationGetValuePinLaw", "same", "([BIBBB)Z"⟩ : MethodName)) hown (mvT hZ (hw _ (List.mem_of_getElem? (i := 116) rfl))) (mvT hZ (hw _ (List.mem_of_getElem? (i := 117) rfl))) (mvT hZ (hw _ (List.mem_of_getElem? (i := 118) rfl))) (mvT hZ (hw _ (List.mem_of_getElem? (i := 119) rfl))) (by decide) (backOf (W := 0) (rm17 l Z a0 hw [] r21 NN c0 c1 c2 cr22 T21.heap n0 (Nat.le_trans (Nat.le_trans (Nat.le_trans (Nat.le_trans (Nat.le_trans (Nat.le_trans (Nat.le_trans (Nat.le_trans Z0 Kc.1) E1.1) E2.1) (Keep.of_wr W3).1) E6.1) K7.1) K18.1) K21.1) Ac22 hl22 (fun q => ⟨(ha22 0 (by decide) (own_ge q (by decide))).1, by rw [(ha22 0 (by decide) (own_ge q (by decide))).2]; exact congrArg some (w0 q)⟩) (fun q => ⟨(ha22 1 (by decide) (own_ge q (by decide))).1, by rw [(ha22 1 (by decide) (own_ge q (by decide))).2]; exact congrArg some (w1 q)⟩) (fun q => ⟨(ha22 2 (by decide) (own_ge q (by decide))).1, by rw [(ha22 2 (by decide) (own_ge q (by decide))).2]; exact congrArg some (w2 q)⟩)) hZ (hw _ (List.mem_of_getElem? (i := 119) rfl)) (hw _ (List.mem_of_getElem? (i := 118) rfl)) (by decide) (by decide)) (g := (mkF m 398 #[.val (.int ks), .val (.int len), .val (.int byt), .val (.long tms), .second, .val (.int qb), .val (.int sel), .val (.ref kx), .val (.int (1 : Int32)), .val (.int tt), .val (.int (2 : Int32)), .val (.int NN), .val (.int c0), .val (.int c1), .val (.int c2), .val (.ref vb), .val (.ref sa1), .val (.ref b2), .val (.long (if tt = (0 : Int32) then (0 : Int64) else tms)), .second, .val (.ref b6), .val (.ref r18), .val (.ref r21)] [(.int c2), (.int c1), (.int c0), (.int NN), (.ref r21)])) rfl (by rw [hml]; rfl) (argsL := [(.ref r21), (.int NN), (.int c0), (.int c1), (.int c2)]) (rest := []) (lenOf pd_23 rfl) rfl (by show 2 * 0 + _ ≤ _; exact Nat.le_of_eq rfl) (hb hby at_398) (fun _ _ => ⟨rfl, rfl, (by decide : 11 + 0 ≤ _), (by decide : 57 + 0 ≤ _)⟩)
      dsimp only [Pt.U, Pt.locs, Pt.cells, Pt.slots] at X23 l23 y23 z23 st23 hQ23
      subst l23 y23 z23
      obtain ⟨rfl, N23q, e23⟩ := hQ23
      have N23 := Fr.app N21 N23q
      refine own_stepW st23 ?_
      show own_GoW p e below s _ _ _ (T23.setTop (mkF m 401 #[.val (.int ks), .val (.int len), .val (.int byt), .val (.long tms), .second, .val (.int qb), .val (.int sel), .val (.ref kx), .val (.int (1 : Int32)), .val (.int tt), .val (.int (2 : Int32)), .val (.int NN), .val (.int c0), .val (.int c1), .val (.int c2), .val (.ref vb), .val (.ref sa1), .val (.ref b2), .val (.long (if tt = (0 : Int32) then (0 : Int64) else tms)), .second, .val (.ref b6), .val (.ref r18), .val (.ref r21)] [(.int (1 : Int32))]))
      refine own_stepW (B := T23.setTop (mkF m 428 #[.val (.int ks), .val (.int len), .val (.int byt), .val (.long tms), .second, .val (.int qb), .val (.int sel), .val (.ref kx), .val (.int (1 : Int32)), .val (.int tt), .val (.int (2 : Int32)), .val (.int NN), .val (.int c0), .val (.int c1), .val (.int c2), .val (.ref vb), .val (.ref sa1), .val (.ref b2), .val (.long (if tt = (0 : Int32) then (0 : Int64) else tms)), .second, .val (.ref b6), .val (.ref r18), .val (.ref r21)] [(.int (1 : Int32))])) (fun t k => ?_) ?_
      · show Steps p.tables e below (T23.setTop (mkF m 401 #[.val (.int ks), .val (.int len), .val (.int byt), .val (.long tms), .second, .val (.int qb), .val (.int sel), .val (.ref kx), .val (.int (1 : Int32)), .val (.int tt), .val (.int (2 : Int32)), .val (.int NN), .val (.int c0), .val (.int c1), .val (.int c2), .val (.ref vb), .val (.ref sa1), .val (.ref b2), .val (.long (if tt = (0 : Int32) then (0 : Int64) else tms)), .second, .val (.ref b6), .val (.ref r18), .val (.ref r21)] [(.int (1 : Int32))])) _
        refine XS.ifNo X23.here hx rfl (hb hby at_401) rfl ((if0 _ _).trans (feq (by decide : ¬ ((1 : Int32) = (0 : Int32)))).1) ?_
        refine XS.aload X23.here hx rfl (hb hby at_404) rfl rfl ?_
        refine XS.aload X23.here hx rfl (hb hby at_406) rfl rfl ?_
        refine Jvm.RoadKit.acmp (g := (mkF m 408 #[.val (.int ks), .val (.int len), .val (.int byt), .val (.long tms), .second, .val (.int qb), .val (.int sel), .val (.ref kx), .val (.int (1 : Int32)), .val (.int tt), .val (.int (2 : Int32)), .val (.int NN), .val (.int c0), .val (.int c1), .val (.int c2), .val (.ref vb), .val (.ref sa1), .val (.ref b2), .val (.long (if tt = (0 : Int32) then (0 : Int64) else tms)), .second, .val (.ref b6), .val (.ref r18), .val (.ref r21)] [(.ref vb), (.ref r21)])) X23 hx rfl rfl rfl (pc0 := 408) (pc' := 411) (same := false) rfl (hb hby at_408) rfl (decide_eq_false fun q => (fun q => ne_vb_r21 (Eq.symm q)) (Value.ref.inj q)) (by decide) (by decide) ?_
        refine XS.iload X23.here hx rfl (hb hby at_411) rfl ?_
        refine XS.ifYes X23.here hx rfl (pc0 := 413) (pc' := 423) rfl (hb hby at_413) rfl ((if0 _ _).trans (teq (own_zero hpos hN0)).1) (by decide) (by decide) ?_
        refine XS.iconst X23.here hx rfl (hb hby at_423) ?_
        refine XS.goto X23.here hx rfl (pc0 := 424) (pc' := 428) rfl (hb hby at_424) (by decide) (by decide) ?_
        exact k
      exact own_retNW X23 hS7 (by rw [e23]; exact (Nat.le_trans (Nat.le_trans (Nat.le_refl T7.heap.size) K18.1) K21.1)) hx Bd.notSynchronized (t := .boolean) Bd.returns (by simp) (hb hby at_428) ⟨rfl, N23⟩ (by decide) (by decide)
  have tail_cv : ∀ (kx : Addr) (tt sel : Int32) (Tt : State), (Exa Z h0 kx "com/example/nests/nests/model/Mutation$Kind") → (Fld Z h0 kx "com/example/nests/nests/model/Mutation$Kind" "target" "Lcom/example/nests/nests/model/Mutation$Target;" (.ref tC)) → (Fld Z h0 kx "com/example/nests/nests/model/Mutation$Kind" "takesValue" "Z" (.int (1 : Int32))) → (Fld Z h0 kx "com/example/nests/nests/model/Mutation$Kind" "takesTimestamp" "Z" (.int tt)) → (tt = 0 ∨ tt = 1) → Stand p l e room_1 (s.setVm s.vm) m #[(.int ks), (.int len), (.int byt), (.long tms), (.int qb)] below meth c Tt [] 0 0 → Tt.heap = h0 → own_GoW p e below s (Q0 Z ks len byt tms qb x0 x1 x2 x3 x4 x5 x6 tC tF tR cs vf h0 n0) room_1.cells room_1.slots (Tt.setTop (mkF m 160 #[.val (.int ks), .val (.int len), .val (.int byt), .val (.long tms), .second, .val (.int qb), .val (.int sel), .val (.ref kx), .val (.int (1 : Int32)), .val (.int tt), .val (.int (2 : Int32)), .unset, .unset, .unset, .unset, .unset, .unset, .unset, .unset, .unset, .unset, .unset, .unset] [])) := by
    intro kx tt sel Tt Ek Ft Fv Fs htt Xt et
    clear S_SET E_SET Ft_SET Fv_SET Fs_SET S_SET_AT E_SET_AT Ft_SET_AT Fv_SET_AT Fs_SET_AT S_DELETE E_DELETE Ft_DELETE Fv_DELETE Fs_DELETE S_DELETE_AT E_DELETE_AT Ft_DELETE_AT Fv_DELETE_AT Fs_DELETE_AT S_DELETE_UPTO E_DELETE_UPTO Ft_DELETE_UPTO Fv_DELETE_UPTO Fs_DELETE_UPTO S_DELETE_FAMILY E_DELETE_FAMILY Ft_DELETE_FAMILY Fv_DELETE_FAMILY Fs_DELETE_FAMILY S_DELETE_ROW E_DELETE_ROW Ft_DELETE_ROW Fv_DELETE_ROW Fs_DELETE_ROW
    refine own_stepW (B := Tt.setTop (mkF m 183 #[.val (.int ks), .val (.int len), .val (.int byt), .val (.long tms), .second, .val (.int qb), .val (.int sel), .val (.ref kx), .val (.int (1 : Int32)), .val (.int tt), .val (.int (2 : Int32)), .val (.int (len &&& (3 : Int32))), .val (.int (byt.toInt8.toInt32)), .val (.int (((byt.toUInt32 >>> ((8 : Int32) &&& 31).toUInt32).toInt32).toInt8.toInt32)), .val (.int (((byt.toUInt32 >>> ((16 : Int32) &&& 31).toUInt32).toInt32).toInt8.toInt32)), .unset, .unset, .unset, .unset, .unset, .unset, .unset, .unset] [])) (fun t k => ?_) ?_
    · show Steps p.tables e below (Tt.setTop (mkF m 160 #[.val (.int ks), .val (.int len), .val (.int byt), .val (.long tms), .second, .val (.int qb), .val (.int sel), .val (.ref kx), .val (.int (1 : Int32)), .val (.int tt), .val (.int (2 : Int32)), .unset, .unset, .unset, .unset, .unset, .unset, .unset, .unset, .unset, .unset, .unset, .unset] [])) _
      refine XS.iloadN Xt.here hx rfl (hb hby at_160) rfl ?_
      refine XS.iconst Xt.here hx rfl (hb hby at_161) ?_
      refine XS.iand Xt.here hx rfl (hb hby at_162) rfl ?_
      refine XS.istore Xt.here hx rfl (hb hby at_163) rfl (l' := #[.val (.int ks), .val (.int len), .val (.int byt), .val (.long tms), .second, .val (.int qb), .val (.int sel), .val (.ref kx), .val (.int (1 : Int32)), .val (.int tt), .val (.int (2 : Int32)), .val (.int (len &&& (3 : Int32))), .unset, .unset, .unset, .unset, .unset, .unset, .unset, .unset, .unset, .unset, .unset]) rfl ?_
      refine XS.iloadN Xt.here hx rfl (hb hby at_165) rfl ?_
      refine XS.i2b Xt.here hx rfl (hb hby at_166) rfl ?_
      refine XS.istore Xt.here hx rfl (hb hby at_167) rfl (l' := #[.val (.int ks), .val (.int len), .val (.int byt), .val (.long tms), .second, .val (.int qb), .val (.int sel), .val (.ref kx), .val (.int (1 : Int32)), .val (.int tt), .val (.int (2 : Int32)), .val (.int (len &&& (3 : Int32))), .val (.int (byt.toInt8.toInt32)), .unset, .unset, .unset, .unset, .unset, .unset, .unset, .unset, .unset, .unset]) rfl ?_
      refine XS.iloadN Xt.here hx rfl (hb hby at_169) rfl ?_
      refine XS.bipush Xt.here hx rfl (hb hby at_170) ?_
      refine XS.iushr Xt.here hx rfl (hb hby at_172) rfl ?_
      refine XS.i2b Xt.here hx rfl (hb hby at_173) rfl ?_
      refine XS.istore Xt.here hx rfl (hb hby at_174) rfl (l' := #[.val (.int ks), .val (.int len), .val (.int byt), .val (.long tms), .second, .val (.int qb), .val (.int sel), .val (.ref kx), .val (.int (1 : Int32)), .val (.int tt), .val (.int (2 : Int32)), .val (.int (len &&& (3 : Int32))), .val (.int (byt.toInt8.toInt32)), .val (.int (((byt.toUInt32 >>> ((8 : Int32) &&& 31).toUInt32).toInt32).toInt8.toInt32)), .unset, .unset, .unset, .unset, .unset, .unset, .unset, .unset, .unset]) rfl ?_
      refine XS.iloadN Xt.here hx rfl (hb hby at_176) rfl ?_
      refine XS.bipush Xt.here hx rfl (hb hby at_177) ?_
      refine XS.iushr Xt.here hx rfl (hb hby at_179) rfl ?_
      refine XS.i2b Xt.here hx rfl (hb hby at_180) rfl ?_
      refine XS.istore Xt.here hx rfl (hb hby at_181) rfl (l' := #[.val (.int ks), .val (.int len), .val (.int byt), .val (.long tms), .second, .val (.int qb), .val (.int sel), .val (.ref kx), .val (.int (1 : Int32)), .val (.int tt), .val (.int (2 : Int32)), .val (.int (len &&& (3 : Int32))), .val (.int (byt.toInt8.toInt32)), .val (.int (((byt.toUInt32 >>> ((8 : Int32) &&& 31).toUInt32).toInt32).toInt8.toInt32)), .val (.int (((byt.toUInt32 >>> ((16 : Int32) &&& 31).toUInt32).toInt32).toInt8.toInt32)), .unset, .unset, .unset, .unset, .unset, .unset, .unset, .unset]) rfl ?_
      exact k
    rcases own_n3 len with en | en | en | en
    · rw [en]
      have KK0 : Keep h0 h0 [] := Keep.refl h0 _
      refine own_stepW (B := Tt.setTop (mkF m 185 #[.val (.int ks), .val (.int len), .val (.int byt), .val (.long tms), .second, .val (.int qb), .val (.int sel), .val (.ref kx), .val (.int (1 : Int32)), .val (.int tt), .val (.int (2 : Int32)), .val (.int (0 : Int32)), .val (.int (byt.toInt8.toInt32)), .val (.int (((byt.toUInt32 >>> ((8 : Int32) &&& 31).toUInt32).toInt32).toInt8.toInt32)), .val (.int (((byt.toUInt32 >>> ((16 : Int32) &&& 31).toUInt32).toInt32).toInt8.toInt32)), .unset, .unset, .unset, .unset, .unset, .unset, .unset, .unset] [(.int (0 : Int32))])) (fun t k => ?_) ?_
      · show Steps p.tables e below (Tt.setTop (mkF m 183 #[.val (.int ks), .val (.int len), .val (.int byt), .val (.long tms), .second, .val (.int qb), .val (.int sel), .val (.ref kx), .val (.int (1 : Int32)), .val (.int tt), .val (.int (2 : Int32)), .val (.int (0 : Int32)), .val (.int (byt.toInt8.toInt32)), .val (.int (((byt.toUInt32 >>> ((8 : Int32) &&& 31).toUInt32).toInt32).toInt8.toInt32)), .val (.int (((byt.toUInt32 >>> ((16 : Int32) &&& 31).toUInt32).toInt32).toInt8.toInt32)), .unset, .unset, .unset, .unset, .unset, .unset, .unset, .unset] [])) _
        refine XS.iload Xt.here hx rfl (hb hby at_183) rfl ?_
        exact k
      obtain ⟨T24, h24, k24, X24, e24, E24, A24, AE24, st24⟩ := newPE Xt hx hZ (hw _ (List.mem_of_getElem? (i := 4) rfl)) et (g := (mkF m 185 #[.val (.int ks), .val (.int len), .val (.int byt), .val (.long tms), .second, .val (.int qb), .val (.int sel), .val (.ref kx), .val (.int (1 : Int32)), .val (.int tt), .val (.int (2 : Int32)), .val (.int (0 : Int32)), .val (.int (byt.toInt8.toInt32)), .val (.int (((byt.toUInt32 >>> ((8 : Int32) &&& 31).toUInt32).toInt32).toInt8.toInt32)), .val (.int (((byt.toUInt32 >>> ((16 : Int32) &&& 31).toUInt32).toInt32).toInt8.toInt32)), .unset, .unset, .unset, .unset, .unset, .unset, .unset, .unset] [(.int (0 : Int32))])) rfl (hb hby at_185) rfl (by decide) (cap := 3) (by decide) (by decide) (by decide) (by decide) (ad := "[B") rfl
      obtain ⟨b24, g24⟩ : ∃ z, z = h0.size := ⟨_, rfl⟩
      rw [← g24] at A24 AE24 st24
      have g_b24 : n0 ≤ b24 := Nat.le_trans Z0 (Nat.le_of_eq g24.symm)
      have sz_b24 : h0.size ≤ b24 := Nat.le_trans KK0.1 (Nat.le_of_eq g24.symm)
      have V_b24 : Arv Z h24 b24 k24 .byte (0 : Int32) [] (.int (0 : Int32)) := (Arv.new A24 (by decide)).pad (pad_rep [] (.int (0 : Int32)) 0)
      have K24 : Keep h0 h24 [] := KK0.ext E24
      refine own_stepW st24 ?_
      show own_GoW p e below s _ _ _ (T24.setTop (mkF m 187 #[.val (.int ks), .val (.int len), .val (.int byt), .val (.long tms), .second, .val (.int qb), .val (.int sel), .val (.ref kx), .val (.int (1 : Int32)), .val (.int tt), .val (.int (2 : Int32)), .val (.int (0 : Int32)), .val (.int (byt.toInt8.toInt32)), .val (.int (((byt.toUInt32 >>> ((8 : Int32) &&& 31).toUInt32).toInt32).toInt8.toInt32)), .val (.int (((byt.toUInt32 >>> ((16 : Int32) &&& 31).toUInt32).toInt32).toInt8.toInt32)), .unset, .unset, .unset, .unset, .unset, .unset, .unset, .unset] [(.ref b24)]))
      refine own_stepW (B := T24.setTop (mkF m 224 #[.val (.int ks), .val (.int len), .val (.int byt), .val (.long tms), .second, .val (.int qb), .val (.int sel), .val (.ref kx), .val (.int (1 : Int32)), .val (.int tt), .val (.int (2 : Int32)), .val (.int (0 : Int32)), .val (.int (byt.toInt8.toInt32)), .val (.int (((byt.toUInt32 >>> ((8 : Int32) &&& 31).toUInt32).toInt32).toInt8.toInt32)), .val (.int (((byt.toUInt32 >>> ((16 : Int32) &&& 31).toUInt32).toInt32).toInt8.toInt32)), .val (.ref b24), .unset, .unset, .unset, .unset, .unset, .unset, .unset] [])) (fun t k => ?_) ?_
      · show Steps p.tables e below (T24.setTop (mkF m 187 #[.val (.int ks), .val (.int len), .val (.int byt), .val (.long tms), .second, .val (.int qb), .val (.int sel), .val (.ref kx), .val (.int (1 : Int32)), .val (.int tt), .val (.int (2 : Int32)), .val (.int (0 : Int32)), .val (.int (byt.toInt8.toInt32)), .val (.int (((byt.toUInt32 >>> ((8 : Int32) &&& 31).toUInt32).toInt32).toInt8.toInt32)), .val (.int (((byt.toUInt32 >>> ((16 : Int32) &&& 31).toUInt32).toInt32).toInt8.toInt32)), .unset, .unset, .unset, .unset, .unset, .unset, .unset, .unset] [(.ref b24)])) _
        refine XS.astore X24.here hx rfl (hb hby at_187) rfl rfl (l' := #[.val (.int ks), .val (.int len), .val (.int byt), .val (.long tms), .second, .val (.int qb), .val (.int sel), .val (.ref kx), .val (.int (1 : Int32)), .val (.int tt), .val (.int (2 : Int32)), .val (.int (0 : Int32)), .val (.int (byt.toInt8.toInt32)), .val (.int (((byt.toUInt32 >>> ((8 : Int32) &&& 31).toUInt32).toInt32).toInt8.toInt32)), .val (.int (((byt.toUInt32 >>> ((16 : Int32) &&& 31).toUInt32).toInt32).toInt8.toInt32)), .val (.ref b24), .unset, .unset, .unset, .unset, .unset, .unset, .unset]) rfl ?_
        refine XS.iload X24.here hx rfl (hb hby at_189) rfl ?_
        refine XS.ifYes X24.here hx rfl (pc0 := 191) (pc' := 200) rfl (hb hby at_191) rfl ((if0 _ _).trans (flt (by decide : ¬ ((0 : Int32) < (0 : Int32)))).2.2.2) (by decide) (by decide) ?_
        refine XS.iload X24.here hx rfl (hb hby at_200) rfl ?_
        refine XS.iconst X24.here hx rfl (hb hby at_202) ?_
        refine XS.icmpYes X24.here hx rfl (pc0 := 203) (pc' := 212) rfl (hb hby at_203) rfl (flt (by decide : ¬ ((1 : Int32) < (0 : Int32)))).2.2.2 (by decide) (by decide) ?_
        refine XS.iload X24.here hx rfl (hb hby at_212) rfl ?_
        refine XS.iconst X24.here hx rfl (hb hby at_214) ?_
        refine XS.icmpYes X24.here hx rfl (pc0 := 215) (pc' := 224) rfl (hb hby at_215) rfl (flt (by decide : ¬ ((2 : Int32) < (0 : Int32)))).2.2.2 (by decide) (by decide) ?_
        exact k
      exact cont_cv kx tt sel (0 : Int32) (byt.toInt8.toInt32) (((byt.toUInt32 >>> ((8 : Int32) &&& 31).toUInt32).toInt32).toInt8.toInt32) (((byt.toUInt32 >>> ((16 : Int32) &&& 31).toUInt32).toInt32).toInt8.toInt32) b24 k24 [] _ _ _ Ek Ft Fv Fs htt X24 e24 N0 K24 sz_b24 AE24 V_b24 (by decide) (by decide) (fun q => absurd (by decide) q) (fun q => absurd (by decide) q) (fun q => absurd (by decide) q)
    · rw [en]
      have KK0 : Keep h0 h0 [] := Keep.refl h0 _
      refine own_stepW (B := Tt.setTop (mkF m 185 #[.val (.int ks), .val (.int len), .val (.int byt), .val (.long tms), .second, .val (.int qb), .val (.int sel), .val (.ref kx), .val (.int (1 : Int32)), .val (.int tt), .val (.int (2 : Int32)), .val (.int (1 : Int32)), .val (.int (byt.toInt8.toInt32)), .val (.int (((byt.toUInt32 >>> ((8 : Int32) &&& 31).toUInt32).toInt32).toInt8.toInt32)), .val (.int (((byt.toUInt32 >>> ((16 : Int32) &&& 31).toUInt32).toInt32).toInt8.toInt32)), .unset, .unset, .unset, .unset, .unset, .unset, .unset, .unset] [(.int (1 : Int32))])) (fun t k => ?_) ?_
      · show Steps p.tables e below (Tt.setTop (mkF m 183 #[.val (.int ks), .val (.int len), .val (.int byt), .val (.long tms), .second, .val (.int qb), .val (.int sel), .val (.ref kx), .val (.int (1 : Int32)), .val (.int tt), .val (.int (2 : Int32)), .val (.int (1 : Int32)), .val (.int (byt.toInt8.toInt32)), .val (.int (((byt.toUInt32 >>> ((8 : Int32) &&& 31).toUInt32).toInt32).toInt8.toInt32)), .val (.int (((byt.toUInt32 >>> ((16 : Int32) &&& 31).toUInt32).toInt32).toInt8.toInt32)), .unset, .unset, .unset, .unset, .unset, .unset, .unset, .unset] [])) _
        refine XS.iload Xt.here hx rfl (hb hby at_183) rfl ?_
        exact k
      obtain ⟨T25, h25, k25, X25, e25, E25, A25, AE25, st25⟩ := newPE Xt hx hZ (hw _ (List.mem_of_getElem? (i := 4) rfl)) et (g := (mkF m 185 #[.val (.int ks), .val (.int len), .val (.int byt), .val (.long tms), .second, .val (.int qb), .val (.int sel), .val (.ref kx), .val (.int (1 : Int32)), .val (.int tt), .val (.int (2 : Int32)), .val (.int (1 : Int32)), .val (.int (byt.toInt8.toInt32)), .val (.int (((byt.toUInt32 >>> ((8 : Int32) &&& 31).toUInt32).toInt32).toInt8.toInt32)), .val (.int (((byt.toUInt32 >>> ((16 : Int32) &&& 31).toUInt32).toInt32).toInt8.toInt32)), .unset, .unset, .unset, .unset, .unset, .unset, .unset, .unset] [(.int (1 : Int32))])) rfl (hb hby at_185) rfl (by decide) (cap := 3) (by decide) (by decide) (by decide) (by decide) (ad := "[B") rfl
      obtain ⟨b25, g25⟩ : ∃ z, z = h0.size := ⟨_, rfl⟩
      rw [← g25] at A25 AE25 st25
      have g_b25 : n0 ≤ b25 := Nat.le_trans Z0 (Nat.le_of_eq g25.symm)
      have sz_b25 : h0.size ≤ b25 := Nat.le_trans KK0.1 (Nat.le_of_eq g25.symm)
      have V_b25 : Arv Z h25 b25 k25 .byte (1 : Int32) [(.int (0 : Int32))] (.int (0 : Int32)) := (Arv.new A25 (by decide)).pad (pad_rep [] (.int (0 : Int32)) 1)
      have K25 : Keep h0 h25 [] := KK0.ext E25
      refine own_stepW st25 ?_
      show own_GoW p e below s _ _ _ (T25.setTop (mkF m 187 #[.val (.int ks), .val (.int len), .val (.int byt), .val (.long tms), .second, .val (.int qb), .val (.int sel), .val (.ref kx), .val (.int (1 : Int32)), .val (.int tt), .val (.int (2 : Int32)), .val (.int (1 : Int32)), .val (.int (byt.toInt8.toInt32)), .val (.int (((byt.toUInt32 >>> ((8 : Int32) &&& 31).toUInt32).toInt32).toInt8.toInt32)), .val (.int (((byt.toUInt32 >>> ((16 : Int32) &&& 31).toUInt32).toInt32).toInt8.toInt32)), .unset, .unset, .unset, .unset, .unset, .unset, .unset, .unset] [(.ref b25)]))
      refine own_stepW (B := T25.setTop (mkF m 199 #[.val (.int ks), .val (.int len), .val (.int byt), .val (.long tms), .second, .val (.int qb), .val (.int sel), .val (.ref kx), .val (.int (1 : Int32)), .val (.int tt), .val (.int (2 : Int32)), .val (.int (1 : Int32)), .val (.int (byt.toInt8.toInt32)), .val (.int (((byt.toUInt32 >>> ((8 : Int32) &&& 31).toUInt32).toInt32).toInt8.toInt32)), .val (.int (((byt.toUInt32 >>> ((16 : Int32) &&& 31).toUInt32).toInt32).toInt8.toInt32)), .val (.ref b25), .unset, .unset, .unset, .unset, .unset, .unset, .unset] [(.int (byt.toInt8.toInt32)), (.int (0 : Int32)), (.ref b25)])) (fun t k => ?_) ?_
      · show Steps p.tables e below (T25.setTop (mkF m 187 #[.val (.int ks), .val (.int len), .val (.int byt), .val (.long tms), .second, .val (.int qb), .val (.int sel), .val (.ref kx), .val (.int (1 : Int32)), .val (.int tt), .val (.int (2 : Int32)), .val (.int (1 : Int32)), .val (.int (byt.toInt8.toInt32)), .val (.int (((byt.toUInt32 >>> ((8 : Int32) &&& 31).toUInt32).toInt32).toInt8.toInt32)), .val (.int (((byt.toUInt32 >>> ((16 : Int32) &&& 31).toUInt32).toInt32).toInt8.toInt32)), .unset, .unset, .unset, .unset, .unset, .unset, .unset, .unset] [(.ref b25)])) _
        refine XS.astore X25.here hx rfl (hb hby at_187) rfl rfl (l' := #[.val (.int ks), .val (.int len), .val (.int byt), .val (.long tms), .second, .val (.int qb), .val (.int sel), .val (.ref kx), .val (.int (1 : Int32)), .val (.int tt), .val (.int (2 : Int32)), .val (.int (1 : Int32)), .val (.int (byt.toInt8.toInt32)), .val (.int (((byt.toUInt32 >>> ((8 : Int32) &&& 31).toUInt32).toInt32).toInt8.toInt32)), .val (.int (((byt.toUInt32 >>> ((16 : Int32) &&& 31).toUInt32).toInt32).toInt8.toInt32)), .val (.ref b25), .unset, .unset, .unset, .unset, .unset, .unset, .unset]) rfl ?_
        refine XS.iload X25.here hx rfl (hb hby at_189) rfl ?_
        refine XS.ifNo X25.here hx rfl (hb hby at_191) rfl ((if0 _ _).trans (tlt (by decide : ((0 : Int32) < (1 : Int32)))).2.2.2) ?_
        refine XS.aload X25.here hx rfl (hb hby at_194) rfl rfl ?_
        refine XS.iconst X25.here hx rfl (hb hby at_196) ?_
        refine XS.iload X25.here hx rfl (hb hby at_197) rfl ?_
        exact k
      obtain ⟨cl26, Ar26, q26, S26, NN26, Hs26, G26⟩ := V_b25
      have hin26 : ¬ ((0 : Int32) < 0 ∨ cl26.slots.size ≤ ((0 : Int32)).toNatClampNeg) := inb_of S26 ⟨by decide, by decide⟩
      obtain ⟨T26, h26, X26, e26, W26, st26⟩ := stB X25 hx hZ e25 Ar26 (j := (0 : Int32)) hin26 (g := (mkF m 199 #[.val (.int ks), .val (.int len), .val (.int byt), .val (.long tms), .second, .val (.int qb), .val (.int sel), .val (.ref kx), .val (.int (1 : Int32)), .val (.int tt), .val (.int (2 : Int32)), .val (.int (1 : Int32)), .val (.int (byt.toInt8.toInt32)), .val (.int (((byt.toUInt32 >>> ((8 : Int32) &&& 31).toUInt32).toInt32).toInt8.toInt32)), .val (.int (((byt.toUInt32 >>> ((16 : Int32) &&& 31).toUInt32).toInt32).toInt8.toInt32)), .val (.ref b25), .unset, .unset, .unset, .unset, .unset, .unset, .unset] [(.int (byt.toInt8.toInt32)), (.int (0 : Int32)), (.ref b25)])) rfl rfl (hb hby at_199)
      have V26 : Arv Z h26 b25 k25 .byte (1 : Int32) [(.int (nar .byte (byt.toInt8.toInt32)))] (.int (0 : Int32)) := Arv.set Ar26 q26 S26 NN26 Hs26 G26 (fits_nar_byte _) W26 0 rfl (Nat.le_of_ble_eq_true rfl)
      have N26 := Fr.snoc X26 N0 g_b25
      have K26 : Keep h0 h26 [] := K25.wr W26 (Or.inr sz_b25)
      refine own_stepW st26 ?_
      show own_GoW p e below s _ _ _ (T26.setTop (mkF m 200 #[.val (.int ks), .val (.int len), .val (.int byt), .val (.long tms), .second, .val (.int qb), .val (.int sel), .val (.ref kx), .val (.int (1 : Int32)), .val (.int tt), .val (.int (2 : Int32)), .val (.int (1 : Int32)), .val (.int (byt.toInt8.toInt32)), .val (.int (((byt.toUInt32 >>> ((8 : Int32) &&& 31).toUInt32).toInt32).toInt8.toInt32)), .val (.int (((byt.toUInt32 >>> ((16 : Int32) &&& 31).toUInt32).toInt32).toInt8.toInt32)), .val (.ref b25), .unset, .unset, .unset, .unset, .unset, .unset, .unset] []))
      refine own_stepW (B := T26.setTop (mkF m 224 #[.val (.int ks), .val (.int len), .val (.int byt), .val (.long tms), .second, .val (.int qb), .val (.int sel), .val (.ref kx), .val (.int (1 : Int32)), .val (.int tt), .val (.int (2 : Int32)), .val (.int (1 : Int32)), .val (.int (byt.toInt8.toInt32)), .val (.int (((byt.toUInt32 >>> ((8 : Int32) &&& 31).toUInt32).toInt32).toInt8.toInt32)), .val (.int (((byt.toUInt32 >>> ((16 : Int32) &&& 31).toUInt32).toInt32).toInt8.toInt32)), .val (.ref b25), .unset, .unset, .unset, .unset, .unset, .unset, .unset] [])) (fun t k => ?_) ?_
      · show Steps p.tables e below (T26.setTop (mkF m 200 #[.val (.int ks), .val (.int len), .val (.int byt), .val (.long tms), .second, .val (.int qb), .val (.int sel), .val (.ref kx), .val (.int (1 : Int32)), .val (.int tt), .val (.int (2 : Int32)), .val (.int (1 : Int32)), .val (.int (byt.toInt8.toInt32)), .val (.int (((byt.toUInt32 >>> ((8 : Int32) &&& 31).toUInt32).toInt32).toInt8.toInt32)), .val (.int (((byt.toUInt32 >>> ((16 : Int32) &&& 31).toUInt32).toInt32).toInt8.toInt32)), .val (.ref b25), .unset, .unset, .unset, .unset, .unset, .unset, .unset] [])) _
        refine XS.iload X26.here hx rfl (hb hby at_200) rfl ?_
        refine XS.iconst X26.here hx rfl (hb hby at_202) ?_
        refine XS.icmpYes X26.here hx rfl (pc0 := 203) (pc' := 212) rfl (hb hby at_203) rfl (flt (by decide : ¬ ((1 : Int32) < (1 : Int32)))).2.2.2 (by decide) (by decide) ?_
        refine XS.iload X26.here hx rfl (hb hby at_212) rfl ?_
        refine XS.iconst X26.here hx rfl (hb hby at_214) ?_
        refine XS.icmpYes X26.here hx rfl (pc0 := 215) (pc' := 224) rfl (hb hby at_215) rfl (flt (by decide : ¬ ((2 : Int32) < (1 : Int32)))).2.2.2 (by decide) (by decide) ?_
        exact k
      exact cont_cv kx tt sel (1 : Int32) (byt.toInt8.toInt32) (((byt.toUInt32 >>> ((8 : Int32) &&& 31).toUInt32).toInt32).toInt8.toInt32) (((byt.toUInt32 >>> ((16 : Int32) &&& 31).toUInt32).toInt32).toInt8.toInt32) b25 k25 [(.int (nar .byte (byt.toInt8.toInt32)))] _ _ _ Ek Ft Fv Fs htt X26 e26 N26 K26 sz_b25 (AE25.wr W26) V26 (by decide) (by decide) (fun _ => congrArg Value.int (own_i8 _)) (fun q => absurd (by decide) q) (fun q => absurd (by decide) q)
    · rw [en]
      have KK0 : Keep h0 h0 [] := Keep.refl h0 _
      refine own_stepW (B := Tt.setTop (mkF m 185 #[.val (.int ks), .val (.int len), .val (.int byt), .val (.long tms), .second, .val (.int qb), .val (.int sel), .val (.ref kx), .val (.int (1 : Int32)), .val (.int tt), .val (.int (2 : Int32)), .val (.int (2 : Int32)), .val (.int (byt.toInt8.toInt32)), .val (.int (((byt.toUInt32 >>> ((8 : Int32) &&& 31).toUInt32).toInt32).toInt8.toInt32)), .val (.int (((byt.toUInt32 >>> ((16 : Int32) &&& 31).toUInt32).toInt32).toInt8.toInt32)), .unset, .unset, .unset, .unset, .unset, .unset, .unset, .unset] [(.int (2 : Int32))])) (fun t k => ?_) ?_
      · show Steps p.tables e below (Tt.setTop (mkF m 183 #[.val (.int ks), .val (.int len), .val (.int byt), .val (.long tms), .second, .val (.int qb), .val (.int sel), .val (.ref kx), .val (.int (1 : Int32)), .val (.int tt), .val (.int (2 : Int32)), .val (.int (2 : Int32)), .val (.int (byt.toInt8.toInt32)), .val (.int (((byt.toUInt32 >>> ((8 : Int32) &&& 31).toUInt32).toInt32).toInt8.toInt32)), .val (.int (((byt.toUInt32 >>> ((16 : Int32) &&& 31).toUInt32).toInt32).toInt8.toInt32)), .unset, .unset, .unset, .unset, .unset, .unset, .unset, .unset] [])) _
        refine XS.iload Xt.here hx rfl (hb hby at_183) rfl ?_
        exact k
      obtain ⟨T27, h27, k27, X27, e27, E27, A27, AE27, st27⟩ := newPE Xt hx hZ (hw _ (List.mem_of_getElem? (i := 4) rfl)) et (g := (mkF m 185 #[.val (.int ks), .val (.int len), .val (.int byt), .val (.long tms), .second, .val (.int qb), .val (.int sel), .val (.ref kx), .val (.int (1 : Int32)), .val (.int tt), .val (.int (2 : Int32)), .val (.int (2 : Int32)), .val (.int (byt.toInt8.toInt32)), .val (.int (((byt.toUInt32 >>> ((8 : Int32) &&& 31).toUInt32).toInt32).toInt8.toInt32)), .val (.int (((byt.toUInt32 >>> ((16 : Int32) &&& 31).toUInt32).toInt32).toInt8.toInt32)), .unset, .unset, .unset, .unset, .unset, .unset, .unset, .unset] [(.int (2 : Int32))])) rfl (hb hby at_185) rfl (by decide) (cap := 3) (by decide) (by decide) (by decide) (by decide) (ad := "[B") rfl
      obtain ⟨b27, g27⟩ : ∃ z, z = h0.size := ⟨_, rfl⟩
      rw [← g27] at A27 AE27 st27
      have g_b27 : n0 ≤ b27 := Nat.le_trans Z0 (Nat.le_of_eq g27.symm)
      have sz_b27 : h0.size ≤ b27 := Nat.le_trans KK0.1 (Nat.le_of_eq g27.symm)
      have V_b27 : Arv Z h27 b27 k27 .byte (2 : Int32) [(.int (0 : Int32)), (.int (0 : Int32))] (.int (0 : Int32)) := (Arv.new A27 (by decide)).pad (pad_rep [] (.int (0 : Int32)) 2)
      have K27 : Keep h0 h27 [] := KK0.ext E27
      refine own_stepW st27 ?_
      show own_GoW p e below s _ _ _ (T27.setTop (mkF m 187 #[.val (.int ks), .val (.int len), .val (.int byt), .val (.long tms), .second, .val (.int qb), .val (.int sel), .val (.ref kx), .val (.int (1 : Int32)), .val (.int tt), .val (.int (2 : Int32)), .val (.int (2 : Int32)), .val (.int (byt.toInt8.toInt32)), .val (.int (((byt.toUInt32 >>> ((8 : Int32) &&& 31).toUInt32).toInt32).toInt8.toInt32)), .val (.int (((byt.toUInt32 >>> ((16 : Int32) &&& 31).toUInt32).toInt32).toInt8.toInt32)), .unset, .unset, .unset, .unset, .unset, .unset, .unset, .unset] [(.ref b27)]))
      refine own_stepW (B := T27.setTop (mkF m 199 #[.val (.int ks), .val (.int len), .val (.int byt), .val (.long tms), .second, .val (.int qb), .val (.int sel), .val (.ref kx), .val (.int (1 : Int32)), .val (.int tt), .val (.int (2 : Int32)), .val (.int (2 : Int32)), .val (.int (byt.toInt8.toInt32)), .val (.int (((byt.toUInt32 >>> ((8 : Int32) &&& 31).toUInt32).toInt32).toInt8.toInt32)), .val (.int (((byt.toUInt32 >>> ((16 : Int32) &&& 31).toUInt32).toInt32).toInt8.toInt32)), .val (.ref b27), .unset, .unset, .unset, .unset, .unset, .unset, .unset] [(.int (byt.toInt8.toInt32)), (.int (0 : Int32)), (.ref b27)])) (fun t k => ?_) ?_
      · show Steps p.tables e below (T27.setTop (mkF m 187 #[.val (.int ks), .val (.int len), .val (.int byt), .val (.long tms), .second, .val (.int qb), .val (.int sel), .val (.ref kx), .val (.int (1 : Int32)), .val (.int tt), .val (.int (2 : Int32)), .val (.int (2 : Int32)), .val (.int (byt.toInt8.toInt32)), .val (.int (((byt.toUInt32 >>> ((8 : Int32) &&& 31).toUInt32).toInt32).toInt8.toInt32)), .val (.int (((byt.toUInt32 >>> ((16 : Int32) &&& 31).toUInt32).toInt32).toInt8.toInt32)), .unset, .unset, .unset, .unset, .unset, .unset, .unset, .unset] [(.ref b27)])) _
        refine XS.astore X27.here hx rfl (hb hby at_187) rfl rfl (l' := #[.val (.int ks), .val (.int len), .val (.int byt), .val (.long tms), .second, .val (.int qb), .val (.int sel), .val (.ref kx), .val (.int (1 : Int32)), .val (.int tt), .val (.int (2 : Int32)), .val (.int (2 : Int32)), .val (.int (byt.toInt8.toInt32)), .val (.int (((byt.toUInt32 >>> ((8 : Int32) &&& 31).toUInt32).toInt32).toInt8.toInt32)), .val (.int (((byt.toUInt32 >>> ((16 : Int32) &&& 31).toUInt32).toInt32).toInt8.toInt32)), .val (.ref b27), .unset, .unset, .unset, .unset, .unset, .unset, .unset]) rfl ?_
        refine XS.iload X27.here hx rfl (hb hby at_189) rfl ?_
        refine XS.ifNo X27.here hx rfl (hb hby at_191) rfl ((if0 _ _).trans (tlt (by decide : ((0 : Int32) < (2 : Int32)))).2.2.2) ?_
        refine XS.aload X27.here hx rfl (hb hby at_194) rfl rfl ?_
        refine XS.iconst X27.here hx rfl (hb hby at_196) ?_
        refine XS.iload X27.here hx rfl (hb hby at_197) rfl ?_
        exact k
      obtain ⟨cl28, Ar28, q28, S28, NN28, Hs28, G28⟩ := V_b27
      have hin28 : ¬ ((0 : Int32) < 0 ∨ cl28.slots.size ≤ ((0 : Int32)).toNatClampNeg) := inb_of S28 ⟨by decide, by decide⟩
      obtain ⟨T28, h28, X28, e28, W28, st28⟩ := stB X27 hx hZ e27 Ar28 (j := (0 : Int32)) hin28 (g := (mkF m 199 #[.val (.int ks), .val (.int len), .val (.int byt), .val (.long tms), .second, .val (.int qb), .val (.int sel), .val (.ref kx), .val (.int (1 : Int32)), .val (.int tt), .val (.int (2 : Int32)), .val (.int (2 : Int32)), .val (.int (byt.toInt8.toInt32)), .val (.int (((byt.toUInt32 >>> ((8 : Int32) &&& 31).toUInt32).toInt32).toInt8.toInt32)), .val (.int (((byt.toUInt32 >>> ((16 : Int32) &&& 31).toUInt32).toInt32).toInt8.toInt32)), .val (.ref b27), .unset, .unset, .unset, .unset, .unset, .unset, .unset] [(.int (byt.toInt8.toInt32)), (.int (0 : Int32)), (.ref b27)])) rfl rfl (hb hby at_199)
      have V28 : Arv Z h28 b27 k27 .byte (2 : Int32) [(.int (nar .byte (byt.toInt8.toInt32))), (.int (0 : Int32))] (.int (0 : Int32)) := Arv.set Ar28 q28 S28 NN28 Hs28 G28 (fits_nar_byte _) W28 0 rfl (Nat.le_of_ble_eq_true rfl)
      have N28 := Fr.snoc X28 N0 g_b27
      have K28 : Keep h0 h28 [] := K27.wr W28 (Or.inr sz_b27)
      refine own_stepW st28 ?_
      show own_GoW p e below s _ _ _ (T28.setTop (mkF m 200 #[.val (.int ks), .val (.int len), .val (.int byt), .val (.long tms), .second, .val (.int qb), .val (.int sel), .val (.ref kx), .val (.int (1 : Int32)), .val (.int tt), .val (.int (2 : Int32)), .val (.int (2 : Int32)), .val (.int (byt.toInt8.toInt32)), .val (.int (((byt.toUInt32 >>> ((8 : Int32) &&& 31).toUInt32).toInt32).toInt8.toInt32)), .val (.int (((byt.toUInt32 >>> ((16 : Int32) &&& 31).toUInt32).toInt32).toInt8.toInt32)), .val (.ref b27), .unset, .unset, .unset, .unset, .unset, .unset, .unset] []))
      refine own_stepW (B := T28.setTop (mkF m 211 #[.val (.int ks), .val (.int len), .val (.int byt), .val (.long tms), .second, .val (.int qb), .val (.int sel), .val (.ref kx), .val (.int (1 : Int32)), .val (.int tt), .val (.int (2 : Int32)), .val (.int (2 : Int32)), .val (.int (byt.toInt8.toInt32)), .val (.int (((byt.toUInt32 >>> ((8 : Int32) &&& 31).toUInt32).toInt32).toInt8.toInt32)), .val (.int (((byt.toUInt32 >>> ((16 : Int32) &&& 31).toUInt32).toInt32).toInt8.toInt32)), .val (.ref b27), .unset, .unset, .unset, .unset, .unset, .unset, .unset] [(.int (((byt.toUInt32 >>> ((8 : Int32) &&& 31).toUInt32).toInt32).toInt8.toInt32)), (.int (1 : Int32)), (.ref b27)])) (fun t k => ?_) ?_
      · show Steps p.tables e below (T28.setTop (mkF m 200 #[.val (.int ks), .val (.int len), .val (.int byt), .val (.long tms), .second, .val (.int qb), .val (.int sel), .val (.ref kx), .val (.int (1 : Int32)), .val (.int tt), .val (.int (2 : Int32)), .val (.int (2 : Int32)), .val (.int (byt.toInt8.toInt32)), .val (.int (((byt.toUInt32 >>> ((8 : Int32) &&& 31).toUInt32).toInt32).toInt8.toInt32)), .val (.int (((byt.toUInt32 >>> ((16 : Int32) &&& 31).toUInt32).toInt32).toInt8.toInt32)), .val (.ref b27), .unset, .unset, .unset, .unset, .unset, .unset, .unset] [])) _
        refine XS.iload X28.here hx rfl (hb hby at_200) rfl ?_
        refine XS.iconst X28.here hx rfl (hb hby at_202) ?_
        refine XS.icmpNo X28.here hx rfl (hb hby at_203) rfl (tlt (by decide : ((1 : Int32) < (2 : Int32)))).2.2.2 ?_
        refine XS.aload X28.here hx rfl (hb hby at_206) rfl rfl ?_
        refine XS.iconst X28.here hx rfl (hb hby at_208) ?_
        refine XS.iload X28.here hx rfl (hb hby at_209) rfl ?_
        exact k
      obtain ⟨cl29, Ar29, q29, S29, NN29, Hs29, G29⟩ := V28
      have hin29 : ¬ ((1 : Int32) < 0 ∨ cl29.slots.size ≤ ((1 : Int32)).toNatClampNeg) := inb_of S29 ⟨by decide, by decide⟩
      obtain ⟨T29, h29, X29, e29, W29, st29⟩ := stB X28 hx hZ e28 Ar29 (j := (1 : Int32)) hin29 (g := (mkF m 211 #[.val (.int ks), .val (.int len), .val (.int byt), .val (.long tms), .second, .val (.int qb), .val (.int sel), .val (.ref kx), .val (.int (1 : Int32)), .val (.int tt), .val (.int (2 : Int32)), .val (.int (2 : Int32)), .val (.int (byt.toInt8.toInt32)), .val (.int (((byt.toUInt32 >>> ((8 : Int32) &&& 31).toUInt32).toInt32).toInt8.toInt32)), .val (.int (((byt.toUInt32 >>> ((16 : Int32) &&& 31).toUInt32).toInt32).toInt8.toInt32)), .val (.ref b27), .unset, .unset, .unset, .unset, .unset, .unset, .unset] [(.int (((byt.toUInt32 >>> ((8 : Int32) &&& 31).toUInt32).toInt32).toInt8.toInt32)), (.int (1 : Int32)), (.ref b27)])) rfl rfl (hb hby at_211)
      have V29 : Arv Z h29 b27 k27 .byte (2 : Int32) [(.int (nar .byte (byt.toInt8.toInt32))), (.int (nar .byte (((byt.toUInt32 >>> ((8 : Int32) &&& 31).toUInt32).toInt32).toInt8.toInt32)))] (.int (0 : Int32)) := Arv.set Ar29 q29 S29 NN29 Hs29 G29 (fits_nar_byte _) W29 1 rfl (Nat.le_of_ble_eq_true rfl)
      have N29 := Fr.snoc X29 N28 g_b27
      have K29 : Keep h0 h29 [] := K28.wr W29 (Or.inr sz_b27)
      refine own_stepW st29 ?_
      show own_GoW p e below s _ _ _ (T29.setTop (mkF m 212 #[.val (.int ks), .val (.int len), .val (.int byt), .val (.long tms), .second, .val (.int qb), .val (.int sel), .val (.ref kx), .val (.int (1 : Int32)), .val (.int tt), .val (.int (2 : Int32)), .val (.int (2 : Int32)), .val (.int (byt.toInt8.toInt32)), .val (.int (((byt.toUInt32 >>> ((8 : Int32) &&& 31).toUInt32).toInt32).toInt8.toInt32)), .val (.int (((byt.toUInt32 >>> ((16 : Int32) &&& 31).toUInt32).toInt32).toInt8.toInt32)), .val (.ref b27), .unset, .unset, .unset, .unset, .unset, .unset, .unset] []))
      refine own_stepW (B := T29.setTop (mkF m 224 #[.val (.int ks), .val (.int len), .val (.int byt), .val (.long tms), .second, .val (.int qb), .val (.int sel), .val (.ref kx), .val (.int (1 : Int32)), .val (.int tt), .val (.int (2 : Int32)), .val (.int (2 : Int32)), .val (.int (byt.toInt8.toInt32)), .val (.int (((byt.toUInt32 >>> ((8 : Int32) &&& 31).toUInt32).toInt32).toInt8.toInt32)), .val (.int (((byt.toUInt32 >>> ((16 : Int32) &&& 31).toUInt32).toInt32).toInt8.toInt32)), .val (.ref b27), .unset, .unset, .unset, .unset, .unset, .unset, .unset] [])) (fun t k => ?_) ?_
      · show Steps p.tables e below (T29.setTop (mkF m 212 #[.val (.int ks), .val (.int len), .val (.int byt), .val (.long tms), .second, .val (.int qb), .val (.int sel), .val (.ref kx), .val (.int (1 : Int32)), .val (.int tt), .val (.int (2 : Int32)), .val (.int (2 : Int32)), .val (.int (byt.toInt8.toInt32)), .val (.int (((byt.toUInt32 >>> ((8 : Int32) &&& 31).toUInt32).toInt32).toInt8.toInt32)), .val (.int (((byt.toUInt32 >>> ((16 : Int32) &&& 31).toUInt32).toInt32).toInt8.toInt32)), .val (.ref b27), .unset, .unset, .unset, .unset, .unset, .unset, .unset] [])) _
        refine XS.iload X29.here hx rfl (hb hby at_212) rfl ?_
        refine XS.iconst X29.here hx rfl (hb hby at_214) ?_
        refine XS.icmpYes X29.here hx rfl (pc0 := 215) (pc' := 224) rfl (hb hby at_215) rfl (flt (by decide : ¬ ((2 : Int32) < (2 : Int32)))).2.2.2 (by decide) (by decide) ?_
        exact k
      exact cont_cv kx tt sel (2 : Int32) (byt.toInt8.toInt32) (((byt.toUInt32 >>> ((8 : Int32) &&& 31).toUInt32).toInt32).toInt8.toInt32) (((byt.toUInt32 >>> ((16 : Int32) &&& 31).toUInt32).toInt32).toInt8.toInt32) b27 k27 [(.int (nar .byte (byt.toInt8.toInt32))), (.int (nar .byte (((byt.toUInt32 >>> ((8 : Int32) &&& 31).toUInt32).toInt32).toInt8.toInt32)))] _ _ _ Ek Ft Fv Fs htt X29 e29 N29 K29 sz_b27 ((AE27.wr W28).wr W29) V29 (by decide) (by decide) (fun _ => congrArg Value.int (own_i8 _)) (fun _ => congrArg Value.int (own_i8 _)) (fun q => absurd (by decide) q)
    · rw [en]
      have KK0 : Keep h0 h0 [] := Keep.refl h0 _
      refine own_stepW (B := Tt.setTop (mkF m 185 #[.val (.int ks), .val (.int len), .val (.int byt), .val (.long tms), .second, .val (.int qb), .val (.int sel), .val (.ref kx), .val (.int (1 : Int32)), .val (.int tt), .val (.int (2 : Int32)), .val (.int (3 : Int32)), .val (.int (byt.toInt8.toInt32)), .val (.int (((byt.toUInt32 >>> ((8 : Int32) &&& 31).toUInt32).toInt32).toInt8.toInt32)), .val (.int (((byt.toUInt32 >>> ((16 : Int32) &&& 31).toUInt32).toInt32).toInt8.toInt32)), .unset, .unset, .unset, .unset, .unset, .unset, .unset, .unset] [(.int (3 : Int32))])) (fun t k => ?_) ?_
      · show Steps p.tables e below (Tt.setTop (mkF m 183 #[.val (.int ks), .val (.int len), .val (.int byt), .val (.long tms), .second, .val (.int qb), .val (.int sel), .val (.ref kx), .val (.int (1 : Int32)), .val (.int tt), .val (.int (2 : Int32)), .val (.int (3 : Int32)), .val (.int (byt.toInt8.toInt32)), .val (.int (((byt.toUInt32 >>> ((8 : Int32) &&& 31).toUInt32).toInt32).toInt8.toInt32)), .val (.int (((byt.toUInt32 >>> ((16 : Int32) &&& 31).toUInt32).toInt32).toInt8.toInt32)), .unset, .unset, .unset, .unset, .unset, .unset, .unset, .unset] [])) _
        refine XS.iload Xt.here hx rfl (hb hby at_183) rfl ?_
        exact k
      obtain ⟨T30, h30, k30, X30, e30, E30, A30, AE30, st30⟩ := newPE Xt hx hZ (hw _ (List.mem_of_getElem? (i := 4) rfl)) et (g := (mkF m 185 #[.val (.int ks), .val (.int len), .val (.int byt), .val (.long tms), .second, .val (.int qb), .val (.int sel), .val (.ref kx), .val (.int (1 : Int32)), .val (.int tt), .val (.int (2 : Int32)), .val (.int (3 : Int32)), .val (.int (byt.toInt8.toInt32)), .val (.int (((byt.toUInt32 >>> ((8 : Int32) &&& 31).toUInt32).toInt32).toInt8.toInt32)), .val (.int (((byt.toUInt32 >>> ((16 : Int32) &&& 31).toUInt32).toInt32).toInt8.toInt32)), .unset, .unset, .unset, .unset, .unset, .unset, .unset, .unset] [(.int (3 : Int32))])) rfl (hb hby at_185) rfl (by decide) (cap := 3) (by decide) (by decide) (by decide) (by decide) (ad := "[B") rfl
      obtain ⟨b30, g30⟩ : ∃ z, z = h0.size := ⟨_, rfl⟩
      rw [← g30] at A30 AE30 st30
      have g_b30 : n0 ≤ b30 := Nat.le_trans Z0 (Nat.le_of_eq g30.symm)
      have sz_b30 : h0.size ≤ b30 := Nat.le_trans KK0.1 (Nat.le_of_eq g30.symm)
      have V_b30 : Arv Z h30 b30 k30 .byte (3 : Int32) [(.int (0 : Int32)), (.int (0 : Int32)), (.int (0 : Int32))] (.int (0 : Int32)) := (Arv.new A30 (by decide)).pad (pad_rep [] (.int (0 : Int32)) 3)
      have K30 : Keep h0 h30 [] := KK0.ext E30
      refine own_stepW st30 ?_
      show own_GoW p e below s _ _ _ (T30.setTop (mkF m 187 #[.val (.int ks), .val (.int len), .val (.int byt), .val (.long tms), .second, .val (.int qb), .val (.int sel), .val (.ref kx), .val (.int (1 : Int32)), .val (.int tt), .val (.int (2 : Int32)), .val (.int (3 : Int32)), .val (.int (byt.toInt8.toInt32)), .val (.int (((byt.toUInt32 >>> ((8 : Int32) &&& 31).toUInt32).toInt32).toInt8.toInt32)), .val (.int (((byt.toUInt32 >>> ((16 : Int32) &&& 31).toUInt32).toInt32).toInt8.toInt32)), .unset, .unset, .unset, .unset, .unset, .unset, .unset, .unset] [(.ref b30)]))
      refine own_stepW (B := T30.setTop (mkF m 199 #[.val (.int ks), .val (.int len), .val (.int byt), .val (.long tms), .second, .val (.int qb), .val (.int sel), .val (.ref kx), .val (.int (1 : Int32)), .val (.int tt), .val (.int (2 : Int32)), .val (.int (3 : Int32)), .val (.int (byt.toInt8.toInt32)), .val (.int (((byt.toUInt32 >>> ((8 : Int32) &&& 31).toUInt32).toInt32).toInt8.toInt32)), .val (.int (((byt.toUInt32 >>> ((16 : Int32) &&& 31).toUInt32).toInt32).toInt8.toInt32)), .val (.ref b30), .unset, .unset, .unset, .unset, .unset, .unset, .unset] [(.int (byt.toInt8.toInt32)), (.int (0 : Int32)), (.ref b30)])) (fun t k => ?_) ?_
      · show Steps p.tables e below (T30.setTop (mkF m 187 #[.val (.int ks), .val (.int len), .val (.int byt), .val (.long tms), .second, .val (.int qb), .val (.int sel), .val (.ref kx), .val (.int (1 : Int32)), .val (.int tt), .val (.int (2 : Int32)), .val (.int (3 : Int32)), .val (.int (byt.toInt8.toInt32)), .val (.int (((byt.toUInt32 >>> ((8 : Int32) &&& 31).toUInt32).toInt32).toInt8.toInt32)), .val (.int (((byt.toUInt32 >>> ((16 : Int32) &&& 31).toUInt32).toInt32).toInt8.toInt32)), .unset, .unset, .unset, .unset, .unset, .unset, .unset, .unset] [(.ref b30)])) _
        refine XS.astore X30.here hx rfl (hb hby at_187) rfl rfl (l' := #[.val (.int ks), .val (.int len), .val (.int byt), .val (.long tms), .second, .val (.int qb), .val (.int sel), .val (.ref kx), .val (.int (1 : Int32)), .val (.int tt), .val (.int (2 : Int32)), .val (.int (3 : Int32)), .val (.int (byt.toInt8.toInt32)), .val (.int (((byt.toUInt32 >>> ((8 : Int32) &&& 31).toUInt32).toInt32).toInt8.toInt32)), .val (.int (((byt.toUInt32 >>> ((16 : Int32) &&& 31).toUInt32).toInt32).toInt8.toInt32)), .val (.ref b30), .unset, .unset, .unset, .unset, .unset, .unset, .unset]) rfl ?_
        refine XS.iload X30.here hx rfl (hb hby at_189) rfl ?_
        refine XS.ifNo X30.here hx rfl (hb hby at_191) rfl ((if0 _ _).trans (tlt (by decide : ((0 : Int32) < (3 : Int32)))).2.2.2) ?_
        refine XS.aload X30.here hx rfl (hb hby at_194) rfl rfl ?_
        refine XS.iconst X30.here hx rfl (hb hby at_196) ?_
        refine XS.iload X30.here hx rfl (hb hby at_197) rfl ?_
        exact k
      obtain ⟨cl31, Ar31, q31, S31, NN31, Hs31, G31⟩ := V_b30
      have hin31 : ¬ ((0 : Int32) < 0 ∨ cl31.slots.size ≤ ((0 : Int32)).toNatClampNeg) := inb_of S31 ⟨by decide, by decide⟩
      obtain ⟨T31, h31, X31, e31, W31, st31⟩ := stB X30 hx hZ e30 Ar31 (j := (0 : Int32)) hin31 (g := (mkF m 199 #[.val (.int ks), .val (.int len), .val (.int byt), .val (.long tms), .second, .val (.int qb), .val (.int sel), .val (.ref kx), .val (.int (1 : Int32)), .val (.int tt), .val (.int (2 : Int32)), .val (.int (3 : Int32)), .val (.int (byt.toInt8.toInt32)), .val (.int (((byt.toUInt32 >>> ((8 : Int32) &&& 31).toUInt32).toInt32).toInt8.toInt32)), .val (.int (((byt.toUInt32 >>> ((16 : Int32) &&& 31).toUInt32).toInt32).toInt8.toInt32)), .val (.ref b30), .unset, .unset, .unset, .unset, .unset, .unset, .unset] [(.int (byt.toInt8.toInt32)), (.int (0 : Int32)), (.ref b30)])) rfl rfl (hb hby at_199)
      have V31 : Arv Z h31 b30 k30 .byte (3 : Int32) [(.int (nar .byte (byt.toInt8.toInt32))), (.int (0 : Int32)), (.int (0 : Int32))] (.int (0 : Int32)) := Arv.set Ar31 q31 S31 NN31 Hs31 G31 (fits_nar_byte _) W31 0 rfl (Nat.le_of_ble_eq_true rfl)
      have N31 := Fr.snoc X31 N0 g_b30
      have K31 : Keep h0 h31 [] := K30.wr W31 (Or.inr sz_b30)
      refine own_stepW st31 ?_
      show own_GoW p e below s _ _ _ (T31.setTop (mkF m 200 #[.val (.int ks), .val (.int len), .val (.int byt), .val (.long tms), .second, .val (.int qb), .val (.int sel), .val (.ref kx), .val (.int (1 : Int32)), .val (.int tt), .val (.int (2 : Int32)), .val (.int (3 : Int32)), .val (.int (byt.toInt8.toInt32)), .val (.int (((byt.toUInt32 >>> ((8 : Int32) &&& 31).toUInt32).toInt32).toInt8.toInt32)), .val (.int (((byt.toUInt32 >>> ((16 : Int32) &&& 31).toUInt32).toInt32).toInt8.toInt32)), .val (.ref b30), .unset, .unset, .unset, .unset, .unset, .unset, .unset] []))
      refine own_stepW (B := T31.setTop (mkF m 211 #[.val (.int ks), .val (.int len), .val (.int byt), .val (.long tms), .second, .val (.int qb), .val (.int sel), .val (.ref kx), .val (.int (1 : Int32)), .val (.int tt), .val (.int (2 : Int32)), .val (.int (3 : Int32)), .val (.int (byt.toInt8.toInt32)), .val (.int (((byt.toUInt32 >>> ((8 : Int32) &&& 31).toUInt32).toInt32).toInt8.toInt32)), .val (.int (((byt.toUInt32 >>> ((16 : Int32) &&& 31).toUInt32).toInt32).toInt8.toInt32)), .val (.ref b30), .unset, .unset, .unset, .unset, .unset, .unset, .unset] [(.int (((byt.toUInt32 >>> ((8 : Int32) &&& 31).toUInt32).toInt32).toInt8.toInt32)), (.int (1 : Int32)), (.ref b30)])) (fun t k => ?_) ?_
      · show Steps p.tables e below (T31.setTop (mkF m 200 #[.val (.int ks), .val (.int len), .val (.int byt), .val (.long tms), .second, .val (.int qb), .val (.int sel), .val (.ref kx), .val (.int (1 : Int32)), .val (.int tt), .val (.int (2 : Int32)), .val (.int (3 : Int32)), .val (.int (byt.toInt8.toInt32)), .val (.int (((byt.toUInt32 >>> ((8 : Int32) &&& 31).toUInt32).toInt32).toInt8.toInt32)), .val (.int (((byt.toUInt32 >>> ((16 : Int32) &&& 31).toUInt32).toInt32).toInt8.toInt32)), .val (.ref b30), .unset, .unset, .unset, .unset, .unset, .unset, .unset] [])) _
        refine XS.iload X31.here hx rfl (hb hby at_200) rfl ?_
        refine XS.iconst X31.here hx rfl (hb hby at_202) ?_
        refine XS.icmpNo X31.here hx rfl (hb hby at_203) rfl (tlt (by decide : ((1 : Int32) < (3 : Int32)))).2.2.2 ?_
        refine XS.aload X31.here hx rfl (hb hby at_206) rfl rfl ?_
        refine XS.iconst X31.here hx rfl (hb hby at_208) ?_
        refine XS.iload X31.here hx rfl (hb hby at_209) rfl ?_
        exact k
      obtain ⟨cl32, Ar32, q32, S32, NN32, Hs32, G32⟩ := V31
      have hin32 : ¬ ((1 : Int32) < 0 ∨ cl32.slots.size ≤ ((1 : Int32)).toNatClampNeg) := inb_of S32 ⟨by decide, by decide⟩
      obtain ⟨T32, h32, X32, e32, W32, st32⟩ := stB X31 hx hZ e31 Ar32 (j := (1 : Int32)) hin32 (g := (mkF m 211 #[.val (.int ks), .val (.int len), .val (.int byt), .val (.long tms), .second, .val (.int qb), .val (.int sel), .val (.ref kx), .val (.int (1 : Int32)), .val (.int tt), .val (.int (2 : Int32)), .val (.int (3 : Int32)), .val (.int (byt.toInt8.toInt32)), .val (.int (((byt.toUInt32 >>> ((8 : Int32) &&& 31).toUInt32).toInt32).toInt8.toInt32)), .val (.int (((byt.toUInt32 >>> ((16 : Int32) &&& 31).toUInt32).toInt32).toInt8.toInt32)), .val (.ref b30), .unset, .unset, .unset, .unset, .unset, .unset, .unset] [(.int (((byt.toUInt32 >>> ((8 : Int32) &&& 31).toUInt32).toInt32).toInt8.toInt32)), (.int (1 : Int32)), (.ref b30)])) rfl rfl (hb hby at_211)
      have V32 : Arv Z h32 b30 k30 .byte (3 : Int32) [(.int (nar .byte (byt.toInt8.toInt32))), (.int (nar .byte (((byt.toUInt32 >>> ((8 : Int32) &&& 31).toUInt32).toInt32).toInt8.toInt32))), (.int (0 : Int32))] (.int (0 : Int32)) := Arv.set Ar32 q32 S32 NN32 Hs32 G32 (fits_nar_byte _) W32 1 rfl (Nat.le_of_ble_eq_true rfl)
      have N32 := Fr.snoc X32 N31 g_b30
      have K32 : Keep h0 h32 [] := K31.wr W32 (Or.inr sz_b30)
      refine own_stepW st32 ?_
      show own_GoW p e below s _ _ _ (T32.setTop (mkF m 212 #[.val (.int ks), .val (.int len), .val (.int byt), .val (.long tms), .second, .val (.int qb), .val (.int sel), .val (.ref kx), .val (.int (1 : Int32)), .val (.int tt), .val (.int (2 : Int32)), .val (.int (3 : Int32)), .val (.int (byt.toInt8.toInt32)), .val (.int (((byt.toUInt32 >>> ((8 : Int32) &&& 31).toUInt32).toInt32).toInt8.toInt32)), .val (.int (((byt.toUInt32 >>> ((16 : Int32) &&& 31).toUInt32).toInt32).toInt8.toInt32)), .val (.ref b30), .unset, .unset, .unset, .unset, .unset, .unset, .unset] []))
      refine own_stepW (B := T32.setTop (mkF m 223 #[.val (.int ks), .val (.int len), .val (.int byt), .val (.long tms), .second, .val (.int qb), .val (.int sel), .val (.ref kx), .val (.int (1 : Int32)), .val (.int tt), .val (.int (2 : Int32)), .val (.int (3 : Int32)), .val (.int (byt.toInt8.toInt32)), .val (.int (((byt.toUInt32 >>> ((8 : Int32) &&& 31).toUInt32).toInt32).toInt8.toInt32)), .val (.int (((byt.toUInt32 >>> ((16 : Int32) &&& 31).toUInt32).toInt32).toInt8.toInt32)), .val (.ref b30), .unset, .unset, .unset, .unset, .unset, .unset, .unset] [(.int (((byt.toUInt32 >>> ((16 : Int32) &&& 31).toUInt32).toInt32).toInt8.toInt32)), (.int (2 : Int32)), (.ref b30)])) (fun t k => ?_) ?_
      · show Steps p.tables e below (T32.setTop (mkF m 212 #[.val (.int ks), .val (.int len), .val (.int byt), .val (.long tms), .second, .val (.int qb), .val (.int sel), .val (.ref kx), .val (.int (1 : Int32)), .val (.int tt), .val (.int (2 : Int32)), .val (.int (3 : Int32)), .val (.int (byt.toInt8.toInt32)), .val (.int (((byt.toUInt32 >>> ((8 : Int32) &&& 31).toUInt32).toInt32).toInt8.toInt32)), .val (.int (((byt.toUInt32 >>> ((16 : Int32) &&& 31).toUInt32).toInt32).toInt8.toInt32)), .val (.ref b30), .unset, .unset, .unset, .unset, .unset, .unset, .unset] [])) _
        refine XS.iload X32.here hx rfl (hb hby at_212) rfl ?_
        refine XS.iconst X32.here hx rfl (hb hby at_214) ?_
        refine XS.icmpNo X32.here hx rfl (hb hby at_215) rfl (tlt (by decide : ((2 : Int32) < (3 : Int32)))).2.2.2 ?_
        refine XS.aload X32.here hx rfl (hb hby at_218) rfl rfl ?_
        refine XS.iconst X32.here hx rfl (hb hby at_220) ?_
        refine XS.iload X32.here hx rfl (hb hby at_221) rfl ?_
        exact k
      obtain ⟨cl33, Ar33, q33, S33, NN33, Hs33, G33⟩ := V32
      have hin33 : ¬ ((2 : Int32) < 0 ∨ cl33.slots.size ≤ ((2 : Int32)).toNatClampNeg) := inb_of S33 ⟨by decide, by decide⟩
      obtain ⟨T33, h33, X33, e33, W33, st33⟩ := stB X32 hx hZ e32 Ar33 (j := (2 : Int32)) hin33 (g := (mkF m 223 #[.val (.int ks), .val (.int len), .val (.int byt), .val (.long tms), .second, .val (.int qb), .val (.int sel), .val (.ref kx), .val (.int (1 : Int32)), .val (.int tt), .val (.int (2 : Int32)), .val (.int (3 : Int32)), .val (.int (byt.toInt8.toInt32)), .val (.int (((byt.toUInt32 >>> ((8 : Int32) &&& 31).toUInt32).toInt32).toInt8.toInt32)), .val (.int (((byt.toUInt32 >>> ((16 : Int32) &&& 31).toUInt32).toInt32).toInt8.toInt32)), .val (.ref b30), .unset, .unset, .unset, .unset, .unset, .unset, .unset] [(.int (((byt.toUInt32 >>> ((16 : Int32) &&& 31).toUInt32).toInt32).toInt8.toInt32)), (.int (2 : Int32)), (.ref b30)])) rfl rfl (hb hby at_223)
      have V33 : Arv Z h33 b30 k30 .byte (3 : Int32) [(.int (nar .byte (byt.toInt8.toInt32))), (.int (nar .byte (((byt.toUInt32 >>> ((8 : Int32) &&& 31).toUInt32).toInt32).toInt8.toInt32))), (.int (nar .byte (((byt.toUInt32 >>> ((16 : Int32) &&& 31).toUInt32).toInt32).toInt8.toInt32)))] (.int (0 : Int32)) := Arv.set Ar33 q33 S33 NN33 Hs33 G33 (fits_nar_byte _) W33 2 rfl (Nat.le_of_ble_eq_true rfl)
      have N33 := Fr.snoc X33 N32 g_b30
      have K33 : Keep h0 h33 [] := K32.wr W33 (Or.inr sz_b30)
      refine own_stepW st33 ?_
      show own_GoW p e below s _ _ _ (T33.setTop (mkF m 224 #[.val (.int ks), .val (.int len), .val (.int byt), .val (.long tms), .second, .val (.int qb), .val (.int sel), .val (.ref kx), .val (.int (1 : Int32)), .val (.int tt), .val (.int (2 : Int32)), .val (.int (3 : Int32)), .val (.int (byt.toInt8.toInt32)), .val (.int (((byt.toUInt32 >>> ((8 : Int32) &&& 31).toUInt32).toInt32).toInt8.toInt32)), .val (.int (((byt.toUInt32 >>> ((16 : Int32) &&& 31).toUInt32).toInt32).toInt8.toInt32)), .val (.ref b30), .unset, .unset, .unset, .unset, .unset, .unset, .unset] []))
      exact cont_cv kx tt sel (3 : Int32) (byt.toInt8.toInt32) (((byt.toUInt32 >>> ((8 : Int32) &&& 31).toUInt32).toInt32).toInt8.toInt32) (((byt.toUInt32 >>> ((16 : Int32) &&& 31).toUInt32).toInt32).toInt8.toInt32) b30 k30 [(.int (nar .byte (byt.toInt8.toInt32))), (.int (nar .byte (((byt.toUInt32 >>> ((8 : Int32) &&& 31).toUInt32).toInt32).toInt8.toInt32))), (.int (nar .byte (((byt.toUInt32 >>> ((16 : Int32) &&& 31).toUInt32).toInt32).toInt8.toInt32)))] _ _ _ Ek Ft Fv Fs htt X33 e33 N33 K33 sz_b30 (((AE30.wr W31).wr W32).wr W33) V33 (by decide) (by decide) (fun _ => congrArg Value.int (own_i8 _)) (fun _ => congrArg Value.int (own_i8 _)) (fun _ => congrArg Value.int (own_i8 _))
  have cont_cn : ∀ (kx : Addr) (tt sel NN c0 c1 c2 : Int32) (vb : Addr) (kv : ClassId) (vs : List Value) (Tc : State) (hc : Heap) (lc : List Loc), (Exa Z h0 kx "com/example/nests/nests/model/Mutation$Kind") → (Fld Z h0 kx "com/example/nests/nests/model/Mutation$Kind" "target" "Lcom/example/nests/nests/model/Mutation$Target;" (.ref tC)) → (Fld Z h0 kx "com/example/nests/nests/model/Mutation$Kind" "takesValue" "Z" (.int (0 : Int32))) → (Fld Z h0 kx "com/example/nests/nests/model/Mutation$Kind" "takesTimestamp" "Z" (.int tt)) → (tt = 0 ∨ tt = 1) → Stand p l e room_1 (s.setVm s.vm) m #[(.int ks), (.int len), (.int byt), (.long tms), (.int qb)] below meth c Tc lc 1 3 → Tc.heap = hc → Fr n0 lc → Keep h0 hc [] → h0.size ≤ vb → Exa Z hc vb "[B" → Arv Z hc vb kv .byte NN vs (.int (0 : Int32)) → NN.toNatClampNeg ≤ 3 → ¬ (NN < 0) → (¬ (NN < (1 : Int32)) → vs.getD 0 (.int (0 : Int32)) = .int c0) → (¬ (NN < (2 : Int32)) → vs.getD 1 (.int (0 : Int32)) = .int c1) → (¬ (NN < (3 : Int32)) → vs.getD 2 (.int (0 : Int32)) = .int c2) → own_GoW p e below s (Q0 Z ks len byt tms qb x0 x1 x2 x3 x4 x5 x6 tC tF tR cs vf h0 n0) room_1.cells room_1.slots (Tc.setTop (mkF m 224 #[.val (.int ks), .val (.int len), .val (.int byt), .val (.long tms), .second, .val (.int qb), .val (.int sel), .val (.ref kx), .val (.int (0 : Int32)), .val (.int tt), .val (.int (2 : Int32)), .val (.int NN), .val (.int c0), .val (.int c1), .val (.int c2), .val (.ref vb), .unset, .unset, .unset, .unset, .unset, .unset, .unset] [])) := by
    intro kx tt sel NN c0 c1 c2 vb kv vs Tc hc lc Ek Ft Fv Fs htt Xc ec Nc Kc szv Ev Vv hN3 hN0 w0 w1 w2
    clear cont_cv tail_cv
    clear S_SET E_SET Ft_SET Fv_SET Fs_SET S_SET_AT E_SET_AT Ft_SET_AT Fv_SET_AT Fs_SET_AT S_DELETE E_DELETE Ft_DELETE Fv_DELETE Fs_DELETE S_DELETE_AT E_DELETE_AT Ft_DELETE_AT Fv_DELETE_AT Fs_DELETE_AT S_DELETE_UPTO E_DELETE_UPTO Ft_DELETE_UPTO Fv_DELETE_UPTO Fs_DELETE_UPTO S_DELETE_FAMILY E_DELETE_FAMILY Ft_DELETE_FAMILY Fv_DELETE_FAMILY Fs_DELETE_FAMILY S_DELETE_ROW E_DELETE_ROW Ft_DELETE_ROW Fv_DELETE_ROW Fs_DELETE_ROW
    have g_vb : n0 ≤ vb := Nat.le_trans Z0 szv
    refine own_stepW (B := Tc.setTop (mkF m 233 #[.val (.int ks), .val (.int len), .val (.int byt), .val (.long tms), .second, .val (.int qb), .val (.int sel), .val (.ref kx), .val (.int (0 : Int32)), .val (.int tt), .val (.int (2 : Int32)), .val (.int NN), .val (.int c0), .val (.int c1), .val (.int c2), .val (.ref vb), .unset, .unset, .unset, .unset, .unset, .unset, .unset] [])) (fun t k => ?_) ?_
    · show Steps p.tables e below (Tc.setTop (mkF m 224 #[.val (.int ks), .val (.int len), .val (.int byt), .val (.long tms), .second, .val (.int qb), .val (.int sel), .val (.ref kx), .val (.int (0 : Int32)), .val (.int tt), .val (.int (2 : Int32)), .val (.int NN), .val (.int c0), .val (.int c1), .val (.int c2), .val (.ref vb), .unset, .unset, .unset, .unset, .unset, .unset, .unset] [])) _
      refine XS.iload Xc.here hx rfl (hb hby at_224) rfl ?_
      refine XS.ifYes Xc.here hx rfl (pc0 := 226) (pc' := 233) rfl (hb hby at_226) rfl ((if0 _ _).trans (feq (by decide : ¬ ((2 : Int32) = (0 : Int32)))).2) (by decide) (by decide) ?_
      exact k
    obtain ⟨sa34, T34, h34, kn34, sb34, sk34, X34, e34, E34, hS34, hk34, hZ, hown, Es34, Fc34, Fv34, Vs34, la34, lb34, I34, Lt34, st34⟩ := ldcSVL Xc hx hZ hown (hw _ (List.mem_of_getElem? (i := 5) rfl)) wS ec hS0 (Nat.le_trans hk0 Kc.1) (by rw [hh, ← hn0]; exact Nc) hkeep I0 (by decide) hh0 hcw (vs := [(.int (102 : Int32))]) (z := (1 : Int32)) ⟨by decide, by decide⟩ (by decide) rfl (g := (mkF m 233 #[.val (.int ks), .val (.int len), .val (.int byt), .val (.long tms), .second, .val (.int qb), .val (.int sel), .val (.ref kx), .val (.int (0 : Int32)), .val (.int tt), .val (.int (2 : Int32)), .val (.int NN), .val (.int c0), .val (.int c1), .val (.int c2), .val (.ref vb), .unset, .unset, .unset, .unset, .unset, .unset, .unset] [])) rfl (hb hby at_233) (n := 4) (by decide) (by decide) (by decide) (by decide)
    refine own_stepW st34 ?_
    show own_GoW p e below s _ _ _ (T34.setTop (mkF m 235 #[.val (.int ks), .val (.int len), .val (.int byt), .val (.long tms), .second, .val (.int qb), .val (.int sel), .val (.ref kx), .val (.int (0 : Int32)), .val (.int tt), .val (.int (2 : Int32)), .val (.int NN), .val (.int c0), .val (.int c1), .val (.int c2), .val (.ref vb), .unset, .unset, .unset, .unset, .unset, .unset, .unset] [(.ref sa34)]))
    refine own_stepW (B := T34.setTop (mkF m 244 #[.val (.int ks), .val (.int len), .val (.int byt), .val (.long tms), .second, .val (.int qb), .val (.int sel), .val (.ref kx), .val (.int (0 : Int32)), .val (.int tt), .val (.int (2 : Int32)), .val (.int NN), .val (.int c0), .val (.int c1), .val (.int c2), .val (.ref vb), .val (.ref sa34), .unset, .unset, .unset, .unset, .unset, .unset] [(.int (1 : Int32))])) (fun t k => ?_) ?_
    · show Steps p.tables e below (T34.setTop (mkF m 235 #[.val (.int ks), .val (.int len), .val (.int byt), .val (.long tms), .second, .val (.int qb), .val (.int sel), .val (.ref kx), .val (.int (0 : Int32)), .val (.int tt), .val (.int (2 : Int32)), .val (.int NN), .val (.int c0), .val (.int c1), .val (.int c2), .val (.ref vb), .unset, .unset, .unset, .unset, .unset, .unset, .unset] [(.ref sa34)])) _
      refine XS.astore X34.here hx rfl (hb hby at_235) rfl rfl (l' := #[.val (.int ks), .val (.int len), .val (.int byt), .val (.long tms), .second, .val (.int qb), .val (.int sel), .val (.ref kx), .val (.int (0 : Int32)), .val (.int tt), .val (.int (2 : Int32)), .val (.int NN), .val (.int c0), .val (.int c1), .val (.int c2), .val (.ref vb), .val (.ref sa34), .unset, .unset, .unset, .unset, .unset, .unset]) rfl ?_
      refine XS.iload X34.here hx rfl (hb hby at_237) rfl ?_
      refine XS.iconst X34.here hx rfl (hb hby at_239) ?_
      refine XS.icmpNo X34.here hx rfl (hb hby at_240) rfl (teq (by decide : ((2 : Int32) = (2 : Int32)))).2 ?_
      refine XS.iconst X34.here hx rfl (hb hby at_243) ?_
      exact k
    obtain ⟨T35, h35, k35, X35, e35, E35, A35, AE35, st35⟩ := newPE X34 hx hZ (hw _ (List.mem_of_getElem? (i := 4) rfl)) e34 (g := (mkF m 244 #[.val (.int ks), .val (.int len), .val (.int byt), .val (.long tms), .second, .val (.int qb), .val (.int sel), .val (.ref kx), .val (.int (0 : Int32)), .val (.int tt), .val (.int (2 : Int32)), .val (.int NN), .val (.int c0), .val (.int c1), .val (.int c2), .val (.ref vb), .val (.ref sa34), .unset, .unset, .unset, .unset, .unset, .unset] [(.int (1 : Int32))])) rfl (hb hby at_244) rfl (by decide) (cap := 1) (by decide) (by decide) (by decide) (by decide) (ad := "[B") rfl
    obtain ⟨b35, g35⟩ : ∃ z, z = h34.size := ⟨_, rfl⟩
    rw [← g35] at A35 AE35 st35
    have g_b35 : n0 ≤ b35 := Nat.le_trans (Nat.le_trans (Nat.le_trans Z0 Kc.1) E34.1) (Nat.le_of_eq g35.symm)
    have ne_kx_b35 : kx ≠ b35 := Nat.ne_of_lt (Nat.lt_of_lt_of_le ((Ek.keep Kc).ext E34).lt (Nat.le_of_eq g35.symm))
    have ne_vb_b35 : vb ≠ b35 := Nat.ne_of_lt (Nat.lt_of_lt_of_le (Ev.ext E34).lt (Nat.le_of_eq g35.symm))
    have ne_sa34_b35 : sa34 ≠ b35 := Nat.ne_of_lt (Nat.lt_of_lt_of_le Es34.lt (Nat.le_of_eq g35.symm))
    have ne_sb34_b35 : sb34 ≠ b35 := Nat.ne_of_lt (Nat.lt_of_lt_of_le Vs34.lt (Nat.le_of_eq g35.symm))
    have V_b35 : Arv Z h35 b35 k35 .byte (1 : Int32) [(.int (0 : Int32))] (.int (0 : Int32)) := (Arv.new A35 (by decide)).pad (pad_rep [] (.int (0 : Int32)) 1)
    refine own_stepW st35 ?_
    show own_GoW p e below s _ _ _ (T35.setTop (mkF m 246 #[.val (.int ks), .val (.int len), .val (.int byt), .val (.long tms), .second, .val (.int qb), .val (.int sel), .val (.ref kx), .val (.int (0 : Int32)), .val (.int tt), .val (.int (2 : Int32)), .val (.int NN), .val (.int c0), .val (.int c1), .val (.int c2), .val (.ref vb), .val (.ref sa34), .unset, .unset, .unset, .unset, .unset, .unset] [(.ref b35)]))
    refine own_stepW (B := T35.setTop (mkF m 251 #[.val (.int ks), .val (.int len), .val (.int byt), .val (.long tms), .second, .val (.int qb), .val (.int sel), .val (.ref kx), .val (.int (0 : Int32)), .val (.int tt), .val (.int (2 : Int32)), .val (.int NN), .val (.int c0), .val (.int c1), .val (.int c2), .val (.ref vb), .val (.ref sa34), .unset, .unset, .unset, .unset, .unset, .unset] [(.int (qb.toInt8.toInt32)), (.int (0 : Int32)), (.ref b35), (.ref b35)])) (fun t k => ?_) ?_
    · show Steps p.tables e below (T35.setTop (mkF m 246 #[.val (.int ks), .val (.int len), .val (.int byt), .val (.long tms), .second, .val (.int qb), .val (.int sel), .val (.ref kx), .val (.int (0 : Int32)), .val (.int tt), .val (.int (2 : Int32)), .val (.int NN), .val (.int c0), .val (.int c1), .val (.int c2), .val (.ref vb), .val (.ref sa34), .unset, .unset, .unset, .unset, .unset, .unset] [(.ref b35)])) _
      refine XS.dup X35.here hx rfl (hb hby at_246) rfl rfl ?_
      refine XS.iconst X35.here hx rfl (hb hby at_247) ?_
      refine XS.iload X35.here hx rfl (hb hby at_248) rfl ?_
      refine XS.i2b X35.here hx rfl (hb hby at_250) rfl ?_
      exact k
    obtain ⟨cl36, Ar36, q36, S36, NN36, Hs36, G36⟩ := V_b35
    have hin36 : ¬ ((0 : Int32) < 0 ∨ cl36.slots.size ≤ ((0 : Int32)).toNatClampNeg) := inb_of S36 ⟨by decide, by decide⟩
    obtain ⟨T36, h36, X36, e36, W36, st36⟩ := stB X35 hx hZ e35 Ar36 (j := (0 : Int32)) hin36 (g := (mkF m 251 #[.val (.int ks), .val (.int len), .val (.int byt), .val (.long tms), .second, .val (.int qb), .val (.int sel), .val (.ref kx), .val (.int (0 : Int32)), .val (.int tt), .val (.int (2 : Int32)), .val (.int NN), .val (.int c0), .val (.int c1), .val (.int c2), .val (.ref vb), .val (.ref sa34), .unset, .unset, .unset, .unset, .unset, .unset] [(.int (qb.toInt8.toInt32)), (.int (0 : Int32)), (.ref b35), (.ref b35)])) rfl rfl (hb hby at_251)
    have V36 : Arv Z h36 b35 k35 .byte (1 : Int32) [(.int (nar .byte (qb.toInt8.toInt32)))] (.int (0 : Int32)) := Arv.set Ar36 q36 S36 NN36 Hs36 G36 (fits_nar_byte _) W36 0 rfl (Nat.le_of_ble_eq_true rfl)
    have N36 := Fr.snoc X36 Nc g_b35
    refine own_stepW st36 ?_
    show own_GoW p e below s _ _ _ (T36.setTop (mkF m 252 #[.val (.int ks), .val (.int len), .val (.int byt), .val (.long tms), .second, .val (.int qb), .val (.int sel), .val (.ref kx), .val (.int (0 : Int32)), .val (.int tt), .val (.int (2 : Int32)), .val (.int NN), .val (.int c0), .val (.int c1), .val (.int c2), .val (.ref vb), .val (.ref sa34), .unset, .unset, .unset, .unset, .unset, .unset] [(.ref b35)]))
    refine own_stepW (B := T36.setTop (mkF m 258 #[.val (.int ks), .val (.int len), .val (.int byt), .val (.long tms), .second, .val (.int qb), .val (.int sel), .val (.ref kx), .val (.int (0 : Int32)), .val (.int tt), .val (.int (2 : Int32)), .val (.int NN), .val (.int c0), .val (.int c1), .val (.int c2), .val (.ref vb), .val (.ref sa34), .val (.ref b35), .unset, .unset, .unset, .unset, .unset] [])) (fun t k => ?_) ?_
    · show Steps p.tables e below (T36.setTop (mkF m 252 #[.val (.int ks), .val (.int len), .val (.int byt), .val (.long tms), .second, .val (.int qb), .val (.int sel), .val (.ref kx), .val (.int (0 : Int32)), .val (.int tt), .val (.int (2 : Int32)), .val (.int NN), .val (.int c0), .val (.int c1), .val (.int c2), .val (.ref vb), .val (.ref sa34), .unset, .unset, .unset, .unset, .unset, .unset] [(.ref b35)])) _
      refine XS.goto X36.here hx rfl (pc0 := 252) (pc' := 256) rfl (hb hby at_252) (by decide) (by decide) ?_
      refine XS.astore X36.here hx rfl (hb hby at_256) rfl rfl (l' := #[.val (.int ks), .val (.int len), .val (.int byt), .val (.long tms), .second, .val (.int qb), .val (.int sel), .val (.ref kx), .val (.int (0 : Int32)), .val (.int tt), .val (.int (2 : Int32)), .val (.int NN), .val (.int c0), .val (.int c1), .val (.int c2), .val (.ref vb), .val (.ref sa34), .val (.ref b35), .unset, .unset, .unset, .unset, .unset]) rfl ?_
      exact k
    refine own_stepW (B := T36.setTop (mkF m 268 #[.val (.int ks), .val (.int len), .val (.int byt), .val (.long tms), .second, .val (.int qb), .val (.int sel), .val (.ref kx), .val (.int (0 : Int32)), .val (.int tt), .val (.int (2 : Int32)), .val (.int NN), .val (.int c0), .val (.int c1), .val (.int c2), .val (.ref vb), .val (.ref sa34), .val (.ref b35), .unset, .unset, .unset, .unset, .unset] [(.long (if tt = (0 : Int32) then (0 : Int64) else tms))])) (fun t k => ?_) ?_
    · show Steps p.tables e below (T36.setTop (mkF m 258 #[.val (.int ks), .val (.int len), .val (.int byt), .val (.long tms), .second, .val (.int qb), .val (.int sel), .val (.ref kx), .val (.int (0 : Int32)), .val (.int tt), .val (.int (2 : Int32)), .val (.int NN), .val (.int c0), .val (.int c1), .val (.int c2), .val (.ref vb), .val (.ref sa34), .val (.ref b35), .unset, .unset, .unset, .unset, .unset] [])) _
      refine XS.iload X36.here hx rfl (hb hby at_258) rfl ?_
      by_cases hc260 : tt = (0 : Int32)
      · show Steps p.tables e below (T36.setTop (mkF m 260 #[.val (.int ks), .val (.int len), .val (.int byt), .val (.long tms), .second, .val (.int qb), .val (.int sel), .val (.ref kx), .val (.int (0 : Int32)), .val (.int tt), .val (.int (2 : Int32)), .val (.int NN), .val (.int c0), .val (.int c1), .val (.int c2), .val (.ref vb), .val (.ref sa34), .val (.ref b35), .unset, .unset, .unset, .unset, .unset] [(.int tt)])) _
        refine XS.ifYes X36.here hx rfl (pc0 := 260) (pc' := 267) rfl (hb hby at_260) rfl ((if0 _ _).trans (teq hc260).1) (by decide) (by decide) ?_
        show Steps p.tables e below (T36.setTop (mkF m 267 #[.val (.int ks), .val (.int len), .val (.int byt), .val (.long tms), .second, .val (.int qb), .val (.int sel), .val (.ref kx), .val (.int (0 : Int32)), .val (.int tt), .val (.int (2 : Int32)), .val (.int NN), .val (.int c0), .val (.int c1), .val (.int c2), .val (.ref vb), .val (.ref sa34), .val (.ref b35), .unset, .unset, .unset, .unset, .unset] [])) _
        refine XS.lconst X36.here hx rfl (hb hby at_267) ?_
        show Steps p.tables e below (T36.setTop (mkF m 268 #[.val (.int ks), .val (.int len), .val (.int byt), .val (.long tms), .second, .val (.int qb), .val (.int sel), .val (.ref kx), .val (.int (0 : Int32)), .val (.int tt), .val (.int (2 : Int32)), .val (.int NN), .val (.int c0), .val (.int c1), .val (.int c2), .val (.ref vb), .val (.ref sa34), .val (.ref b35), .unset, .unset, .unset, .unset, .unset] [(.long (0 : Int64))])) _
        have q37 : (if tt = (0 : Int32) then (0 : Int64) else tms) = (0 : Int64) := by simp [hc260]
        rw [q37] at k
        exact k
      · show Steps p.tables e below (T36.setTop (mkF m 260 #[.val (.int ks), .val (.int len), .val (.int byt), .val (.long tms), .second, .val (.int qb), .val (.int sel), .val (.ref kx), .val (.int (0 : Int32)), .val (.int tt), .val (.int (2 : Int32)), .val (.int NN), .val (.int c0), .val (.int c1), .val (.int c2), .val (.ref vb), .val (.ref sa34), .val (.ref b35), .unset, .unset, .unset, .unset, .unset] [(.int tt)])) _
        refine XS.ifNo X36.here hx rfl (hb hby at_260) rfl ((if0 _ _).trans (feq hc260).1) ?_
        show Steps p.tables e below (T36.setTop (mkF m 263 #[.val (.int ks), .val (.int len), .val (.int byt), .val (.long tms), .second, .val (.int qb), .val (.int sel), .val (.ref kx), .val (.int (0 : Int32)), .val (.int tt), .val (.int (2 : Int32)), .val (.int NN), .val (.int c0), .val (.int c1), .val (.int c2), .val (.ref vb), .val (.ref sa34), .val (.ref b35), .unset, .unset, .unset, .unset, .unset] [])) _
        refine XS.lloadN X36.here hx rfl (hb hby at_263) rfl ?_
        show Steps p.tables e below (T36.setTop (mkF m 264 #[.val (.int ks), .val (.int len), .val (.int byt), .val (.long tms), .second, .val (.int qb), .val (.int sel), .val (.ref kx), .val (.int (0 : Int32)), .val (.int tt), .val (.int (2 : Int32)), .val (.int NN), .val (.int c0), .val (.int c1), .val (.int c2), .val (.ref vb), .val (.ref sa34), .val (.ref b35), .unset, .unset, .unset, .unset, .unset] [(.long tms)])) _
        refine XS.goto X36.here hx rfl (pc0 := 264) (pc' := 268) rfl (hb hby at_264) (by decide) (by decide) ?_
        show Steps p.tables e below (T36.setTop (mkF m 268 #[.val (.int ks), .val (.int len), .val (.int byt), .val (.long tms), .second, .val (.int qb), .val (.int sel), .val (.ref kx), .val (.int (0 : Int32)), .val (.int tt), .val (.int (2 : Int32)), .val (.int NN), .val (.int c0), .val (.int c1), .val (.int c2), .val (.ref vb), .val (.ref sa34), .val (.ref b35), .unset, .unset, .unset, .unset, .unset] [(.long tms)])) _
        have q38 : (if tt = (0 : Int32) then (0 : Int64) else tms) = tms := by simp [hc260]
        rw [q38] at k
        exact k
    refine own_stepW (B := T36.setTop (mkF m 270 #[.val (.int ks), .val (.int len), .val (.int byt), .val (.long tms), .second, .val (.int qb), .val (.int sel), .val (.ref kx), .val (.int (0 : Int32)), .val (.int tt), .val (.int (2 : Int32)), .val (.int NN), .val (.int c0), .val (.int c1), .val (.int c2), .val (.ref vb), .val (.ref sa34), .val (.ref b35), .val (.long (if tt = (0 : Int32) then (0 : Int64) else tms)), .second, .unset, .unset, .unset] [])) (fun t k => ?_) ?_
    · show Steps p.tables e below (T36.setTop (mkF m 268 #[.val (.int ks), .val (.int len), .val (.int byt), .val (.long tms), .second, .val (.int qb), .val (.int sel), .val (.ref kx), .val (.int (0 : Int32)), .val (.int tt), .val (.int (2 : Int32)), .val (.int NN), .val (.int c0), .val (.int c1), .val (.int c2), .val (.ref vb), .val (.ref sa34), .val (.ref b35), .unset, .unset, .unset, .unset, .unset] [(.long (if tt = (0 : Int32) then (0 : Int64) else tms))])) _
      refine XS.lstore X36.here hx rfl (hb hby at_268) rfl (l' := #[.val (.int ks), .val (.int len), .val (.int byt), .val (.long tms), .second, .val (.int qb), .val (.int sel), .val (.ref kx), .val (.int (0 : Int32)), .val (.int tt), .val (.int (2 : Int32)), .val (.int NN), .val (.int c0), .val (.int c1), .val (.int c2), .val (.ref vb), .val (.ref sa34), .val (.ref b35), .val (.long (if tt = (0 : Int32) then (0 : Int64) else tms)), .second, .unset, .unset, .unset]) rfl ?_
      exact k
    obtain ⟨T39, h39, X39, e39, E39, A39, D39, -, st39⟩ := newO X36 hx hZ hown (hw _ (List.mem_of_getElem? (i := 12) rfl)) (hw _ (List.mem_of_getElem? (i := 13) rfl)) (hw _ (List.mem_of_getElem? (i := 14) rfl)) e36 (g := (mkF m 270 #[.val (.int ks), .val (.int len), .val (.int byt), .val (.long tms), .second, .val (.int qb), .val (.int sel), .val (.ref kx), .val (.int (0 : Int32)), .val (.int tt), .val (.int (2 : Int32)), .val (.int NN), .val (.int c0), .val (.int c1), .val (.int c2), .val (.ref vb), .val (.ref sa34), .val (.ref b35), .val (.long (if tt = (0 : Int32) then (0 : Int64) else tms)), .second, .unset, .unset, .unset] [])) rfl (hb hby at_270) (by decide) (by decide)
    obtain ⟨b39, g39⟩ : ∃ z, z = h36.size := ⟨_, rfl⟩
    rw [← g39] at A39 D39 st39
    have g_b39 : n0 ≤ b39 := Nat.le_trans (Nat.le_trans (Nat.le_trans (Nat.le_trans (Nat.le_trans Z0 Kc.1) E34.1) E35.1) (Keep.of_wr W36).1) (Nat.le_of_eq g39.symm)
    have ne_kx_b39 : kx ≠ b39 := Nat.ne_of_lt (Nat.lt_of_lt_of_le ((((Ek.keep Kc).ext E34).ext E35).wr W36).lt (Nat.le_of_eq g39.symm))
    have ne_vb_b39 : vb ≠ b39 := Nat.ne_of_lt (Nat.lt_of_lt_of_le (((Ev.ext E34).ext E35).wr W36).lt (Nat.le_of_eq g39.symm))
    have ne_sa34_b39 : sa34 ≠ b39 := Nat.ne_of_lt (Nat.lt_of_lt_of_le ((Es34.ext E35).wr W36).lt (Nat.le_of_eq g39.symm))
    have ne_sb34_b39 : sb34 ≠ b39 := Nat.ne_of_lt (Nat.lt_of_lt_of_le ((Vs34.ext E35).other W36 ne_sb34_b35).lt (Nat.le_of_eq g39.symm))
    have ne_b35_b39 : b35 ≠ b39 := Nat.ne_of_lt (Nat.lt_of_lt_of_le V36.lt (Nat.le_of_eq g39.symm))
    have F_kind_b39 : Fld Z h39 b39 "com/example/nests/nests/model/Mutation" "kind" "Lcom/example/nests/nests/model/Mutation$Kind;" .null := D39 (Or.inr (hw _ (List.mem_of_getElem? (i := 93) rfl))) (ty := (.object "com/example/nests/nests/model/Mutation$Kind")) (by decide)
    have F_family_b39 : Fld Z h39 b39 "com/example/nests/nests/model/Mutation" "family" "Ljava/lang/String;" .null := D39 (Or.inr (hw _ (List.mem_of_getElem? (i := 95) rfl))) (ty := (.object "java/lang/String")) (by decide)
    have F_qualifier_b39 : Fld Z h39 b39 "com/example/nests/nests/model/Mutation" "qualifier" "[B" .null := D39 (Or.inr (hw _ (List.mem_of_getElem? (i := 106) rfl))) (ty := (.array .byte)) (by decide)
    have F_timestamp_b39 : Fld Z h39 b39 "com/example/nests/nests/model/Mutation" "timestamp" "J" (.long (0 : Int64)) := D39 (Or.inr (hw _ (List.mem_of_getElem? (i := 108) rfl))) (ty := .long) (by decide)
    have F_value_b39 : Fld Z h39 b39 "com/example/nests/nests/model/Mutation" "value" "[B" .null := D39 (Or.inr (hw _ (List.mem_of_getElem? (i := 110) rfl))) (ty := (.array .byte)) (by decide)
    refine own_stepW st39 ?_
    show own_GoW p e below s _ _ _ (T39.setTop (mkF m 273 #[.val (.int ks), .val (.int len), .val (.int byt), .val (.long tms), .second, .val (.int qb), .val (.int sel), .val (.ref kx), .val (.int (0 : Int32)), .val (.int tt), .val (.int (2 : Int32)), .val (.int NN), .val (.int c0), .val (.int c1), .val (.int c2), .val (.ref vb), .val (.ref sa34), .val (.ref b35), .val (.long (if tt = (0 : Int32) then (0 : Int64) else tms)), .second, .unset, .unset, .unset] [(.ref b39)]))
    refine own_stepW (B := T39.setTop (mkF m 293 #[.val (.int ks), .val (.int len), .val (.int byt), .val (.long tms), .second, .val (.int qb), .val (.int sel), .val (.ref kx), .val (.int (0 : Int32)), .val (.int tt), .val (.int (2 : Int32)), .val (.int NN), .val (.int c0), .val (.int c1), .val (.int c2), .val (.ref vb), .val (.ref sa34), .val (.ref b35), .val (.long (if tt = (0 : Int32) then (0 : Int64) else tms)), .second, .unset, .unset, .unset] [.null, (.long (if tt = (0 : Int32) then (0 : Int64) else tms)), (.ref b35), (.ref sa34), (.ref kx), (.ref b39), (.ref b39)])) (fun t k => ?_) ?_
    · show Steps p.tables e below (T39.setTop (mkF m 273 #[.val (.int ks), .val (.int len), .val (.int byt), .val (.long tms), .second, .val (.int qb), .val (.int sel), .val (.ref kx), .val (.int (0 : Int32)), .val (.int tt), .val (.int (2 : Int32)), .val (.int NN), .val (.int c0), .val (.int c1), .val (.int c2), .val (.ref vb), .val (.ref sa34), .val (.ref b35), .val (.long (if tt = (0 : Int32) then (0 : Int64) else tms)), .second, .unset, .unset, .unset] [(.ref b39)])) _
      refine XS.dup X39.here hx rfl (hb hby at_273) rfl rfl ?_
      refine XS.aload X39.here hx rfl (hb hby at_274) rfl rfl ?_
      refine XS.aload X39.here hx rfl (hb hby at_276) rfl rfl ?_
      refine XS.aload X39.here hx rfl (hb hby at_278) rfl rfl ?_
      refine XS.lload X39.here hx rfl (hb hby at_280) rfl ?_
      refine XS.iload X39.here hx rfl (hb hby at_282) rfl ?_
      refine XS.ifYes X39.here hx rfl (pc0 := 284) (pc' := 292) rfl (hb hby at_284) rfl ((if0 _ _).trans (teq (by decide : ((0 : Int32) = (0 : Int32)))).1) (by decide) (by decide) ?_
      refine XS.aconstNull X39.here hx rfl (hb hby at_292) ?_
      exact k
    obtain ⟨_, _, ⟨T40, L40, k40, n40⟩, -, X40, hSx40, gx40, ⟨Lc40, hQ40, l40, y40, z40⟩, st40⟩ := X39.specialBackS hx (y := (⟨"com/example/nests/nests/model/Mutation", "<init>", "(Lcom/example/nests/nests/model/Mutation$Kind;Ljava/lang/String;[BJ[B)V"⟩ : MethodName)) rfl hown (mvT hZ (hw _ (List.mem_of_getElem? (i := 15) rfl))) (mvT hZ (hw _ (List.mem_of_getElem? (i := 16) rfl))) (mvT hZ (hw _ (List.mem_of_getElem? (i := 17) rfl))) (by decide) (backOfS (W := 1) (rm1cn l Z a0 hw [] b39 kx sa34 b35 (if tt = (0 : Int32) then (0 : Int64) else tms) _ _ _ _ _ tC tF tR tt cs vf sb34 sk34 k35 (1 : Int32) [(.int (nar .byte (qb.toInt8.toInt32)))] h39 n0 (Nat.le_trans (Nat.le_trans (Nat.le_trans (Nat.le_trans (Nat.le_trans Z0 Kc.1) E34.1) E35.1) (Keep.of_wr W36).1) E39.1) A39 F_kind_b39 F_family_b39 F_qualifier_b39 F_timestamp_b39 F_value_b39 g_b39 (((((Ek.keep Kc).ext E34).ext E35).wr W36).ext E39) (((((Ft.keep Kc nin0).ext E34).ext E35).other W36 (Or.inl ne_kx_b35)).ext E39) (((((Fv.keep Kc nin0).ext E34).ext E35).other W36 (Or.inl ne_kx_b35)).ext E39) (((((Fs.keep Kc nin0).ext E34).ext E35).other W36 (Or.inl ne_kx_b35)).ext E39) (((((own_staKeep S_R Kc ns0).ext E34).ext E35).wr W36).ext E39) (((((own_staKeep S_L Kc ns0).ext E34).ext E35).wr W36).ext E39) nCR nFR nFC (by rcases htt with z | z; exact Or.inl (if_pos z); exact Or.inr z) (by rcases htt with rfl | rfl <;> rfl) (((Es34.ext E35).wr W36).ext E39) (((Fc34.ext E35).other W36 (Or.inl ne_sa34_b35)).ext E39) (((Fv34.ext E35).other W36 (Or.inl ne_sa34_b35)).ext E39) (((Vs34.ext E35).other W36 ne_sb34_b35).ext E39) (((((own_staKeep S_C Kc ns0).ext E34).ext E35).wr W36).ext E39) hcs (((((own_staKeep S_F Kc ns0).ext E34).ext E35).wr W36).ext E39) hvf (V36.ext E39) ((AE35.wr W36).ext E39) (by decide)) hZ (hw _ (List.mem_of_getElem? (i := 17) rfl)) (hw _ (List.mem_of_getElem? (i := 14) rfl)) (by decide) (by decide)) (g := (mkF m 293 #[.val (.int ks), .val (.int len), .val (.int byt), .val (.long tms), .second, .val (.int qb), .val (.int sel), .val (.ref kx), .val (.int (0 : Int32)), .val (.int tt), .val (.int (2 : Int32)), .val (.int NN), .val (.int c0), .val (.int c1), .val (.int c2), .val (.ref vb), .val (.ref sa34), .val (.ref b35), .val (.long (if tt = (0 : Int32) then (0 : Int64) else tms)), .second, .unset, .unset, .unset] [.null, (.long (if tt = (0 : Int32) then (0 : Int64) else tms)), (.ref b35), (.ref sa34), (.ref kx), (.ref b39), (.ref b39)])) rfl (by rw [hml]; rfl) (Steps.refl _) (a := b39) (argsL := [(.ref kx), (.ref sa34), (.ref b35), (.long (if tt = (0 : Int32) then (0 : Int64) else tms)), .null]) (rest := [(.ref b39)]) (lenOf pd_21 rfl) rfl (by show 2 * 0 + _ ≤ _; exact Nat.le_of_eq rfl) (hb hby at_293) (fun _ _ => ⟨rfl, e39, (by decide : 5 + 3 ≤ _), (by decide : 17 + 31 ≤ _)⟩)
    dsimp only [Pt.U, Pt.locs, Pt.cells, Pt.slots] at X40 l40 y40 z40 st40 hQ40 hSx40 gx40
    subst l40 y40 z40
    obtain ⟨rfl, N40q, K40, Em40, ⟨rq40, Fq40, Eq40, Vq40, sq40⟩, Fv40⟩ := hQ40
    have N40 := Fr.app N36 N40q
    refine own_viaW st40 ?_
    obtain ⟨X40, hS40, hZ, hown⟩ := rebS hS34 (by rw [e39]; exact (Nat.le_trans (Nat.le_trans (Nat.le_trans hk34 E35.1) (Keep.of_wr W36).1) E39.1)) X40 hSx40 gx40 hZ hown
    show own_GoW p e below s _ _ _ (T40.setTop (mkF m 296 #[.val (.int ks), .val (.int len), .val (.int byt), .val (.long tms), .second, .val (.int qb), .val (.int sel), .val (.ref kx), .val (.int (0 : Int32)), .val (.int tt), .val (.int (2 : Int32)), .val (.int NN), .val (.int c0), .val (.int c1), .val (.int c2), .val (.ref vb), .val (.ref sa34), .val (.ref b35), .val (.long (if tt = (0 : Int32) then (0 : Int64) else tms)), .second, .unset, .unset, .unset] [(.ref b39)]))
    refine own_stepW (B := T40.setTop (mkF m 305 #[.val (.int ks), .val (.int len), .val (.int byt), .val (.long tms), .second, .val (.int qb), .val (.int sel), .val (.ref kx), .val (.int (0 : Int32)), .val (.int tt), .val (.int (2 : Int32)), .val (.int NN), .val (.int c0), .val (.int c1), .val (.int c2), .val (.ref vb), .val (.ref sa34), .val (.ref b35), .val (.long (if tt = (0 : Int32) then (0 : Int64) else tms)), .second, .val (.ref b39), .unset, .unset] [(.ref b39)])) (fun t k => ?_) ?_
    · show Steps p.tables e below (T40.setTop (mkF m 296 #[.val (.int ks), .val (.int len), .val (.int byt), .val (.long tms), .second, .val (.int qb), .val (.int sel), .val (.ref kx), .val (.int (0 : Int32)), .val (.int tt), .val (.int (2 : Int32)), .val (.int NN), .val (.int c0), .val (.int c1), .val (.int c2), .val (.ref vb), .val (.ref sa34), .val (.ref b35), .val (.long (if tt = (0 : Int32) then (0 : Int64) else tms)), .second, .unset, .unset, .unset] [(.ref b39)])) _
      refine XS.astore X40.here hx rfl (hb hby at_296) rfl rfl (l' := #[.val (.int ks), .val (.int len), .val (.int byt), .val (.long tms), .second, .val (.int qb), .val (.int sel), .val (.ref kx), .val (.int (0 : Int32)), .val (.int tt), .val (.int (2 : Int32)), .val (.int NN), .val (.int c0), .val (.int c1), .val (.int c2), .val (.ref vb), .val (.ref sa34), .val (.ref b35), .val (.long (if tt = (0 : Int32) then (0 : Int64) else tms)), .second, .val (.ref b39), .unset, .unset]) rfl ?_
      refine XS.iload X40.here hx rfl (hb hby at_298) rfl ?_
      refine XS.ifNo X40.here hx rfl (hb hby at_300) rfl ((if0 _ _).trans (teq (by decide : ((0 : Int32) = (0 : Int32)))).2) ?_
      refine XS.aload X40.here hx rfl (hb hby at_303) rfl rfl ?_
      exact k
    obtain ⟨cq41, kq41, q41a, q41b, q41c⟩ := isOf hZ rfl Em40
    obtain ⟨_, _, ⟨T41, L41, k41, n41⟩, -, X41, ⟨Lc41, hQ41, l41, y41, z41⟩, st41⟩ := X40.virtualBack hx (y := (⟨"com/example/nests/nests/model/Mutation", "getValue", "()[B"⟩ : MethodName)) (z := (⟨"com/example/nests/nests/model/Mutation", "getValue", "()[B"⟩ : MethodName)) hown (mvT hZ (hw _ (List.mem_of_getElem? (i := 111) rfl))) (mvT hZ (hw _ (List.mem_of_getElem? (i := 112) rfl))) (notFace_of_selects (args := #[]) (mvT hZ (hw _ (List.mem_of_getElem? (i := 114) rfl)))) (mvT hZ (hw _ (List.mem_of_getElem? (i := 114) rfl))) (mvT hZ (hw _ (List.mem_of_getElem? (i := 113) rfl))) (by decide) (backOf (W := 0) (rm16n l Z a0 hw [] b39  T40.heap n0 (Nat.le_trans (Nat.le_trans (Nat.le_trans (Nat.le_trans (Nat.le_trans (Nat.le_trans Z0 Kc.1) E34.1) E35.1) (Keep.of_wr W36).1) E39.1) K40.1) Fv40) hZ (hw _ (List.mem_of_getElem? (i := 115) rfl)) (hw _ (List.mem_of_getElem? (i := 14) rfl)) (by decide) (by decide)) q41a q41c (g := (mkF m 305 #[.val (.int ks), .val (.int len), .val (.int byt), .val (.long tms), .second, .val (.int qb), .val (.int sel), .val (.ref kx), .val (.int (0 : Int32)), .val (.int tt), .val (.int (2 : Int32)), .val (.int NN), .val (.int c0), .val (.int c1), .val (.int c2), .val (.ref vb), .val (.ref sa34), .val (.ref b35), .val (.long (if tt = (0 : Int32) then (0 : Int64) else tms)), .second, .val (.ref b39), .unset, .unset] [(.ref b39)])) rfl (by rw [hml]; rfl) (Steps.refl _) (argsL := []) (rest := []) (lenOf pd_22 rfl) rfl (by show 2 * 0 + _ ≤ _; exact Nat.le_of_eq rfl) (hb hby at_305) (fun _ _ => ⟨rfl, rfl, (by decide : 8 + 0 ≤ _), (by decide : 48 + 0 ≤ _)⟩)
    dsimp only [Pt.U, Pt.locs, Pt.cells, Pt.slots] at X41 l41 y41 z41 st41 hQ41
    subst l41 y41 z41
    obtain ⟨rfl, N41q, e41⟩ := hQ41
    have N41 := Fr.app N40 N41q
    refine own_viaW st41 ?_
    show own_GoW p e below s _ _ _ (T41.setTop (mkF m 308 #[.val (.int ks), .val (.int len), .val (.int byt), .val (.long tms), .second, .val (.int qb), .val (.int sel), .val (.ref kx), .val (.int (0 : Int32)), .val (.int tt), .val (.int (2 : Int32)), .val (.int NN), .val (.int c0), .val (.int c1), .val (.int c2), .val (.ref vb), .val (.ref sa34), .val (.ref b35), .val (.long (if tt = (0 : Int32) then (0 : Int64) else tms)), .second, .val (.ref b39), .unset, .unset] [.null]))
    refine own_stepW (B := T41.setTop (mkF m 316 #[.val (.int ks), .val (.int len), .val (.int byt), .val (.long tms), .second, .val (.int qb), .val (.int sel), .val (.ref kx), .val (.int (0 : Int32)), .val (.int tt), .val (.int (2 : Int32)), .val (.int NN), .val (.int c0), .val (.int c1), .val (.int c2), .val (.ref vb), .val (.ref sa34), .val (.ref b35), .val (.long (if tt = (0 : Int32) then (0 : Int64) else tms)), .second, .val (.ref b39), .unset, .unset] [(.int (1 : Int32))])) (fun t k => ?_) ?_
    · show Steps p.tables e below (T41.setTop (mkF m 308 #[.val (.int ks), .val (.int len), .val (.int byt), .val (.long tms), .second, .val (.int qb), .val (.int sel), .val (.ref kx), .val (.int (0 : Int32)), .val (.int tt), .val (.int (2 : Int32)), .val (.int NN), .val (.int c0), .val (.int c1), .val (.int c2), .val (.ref vb), .val (.ref sa34), .val (.ref b35), .val (.long (if tt = (0 : Int32) then (0 : Int64) else tms)), .second, .val (.ref b39), .unset, .unset] [.null])) _
      refine XS.ifnonnullNo X41.here hx rfl (hb hby at_308) rfl ?_
      refine XS.iconst X41.here hx rfl (hb hby at_311) ?_
      refine XS.goto X41.here hx rfl (pc0 := 312) (pc' := 316) rfl (hb hby at_312) (by decide) (by decide) ?_
      exact k
    exact own_retNW X41 hS40 (by rw [e41]; exact (Nat.le_refl T40.heap.size)) hx Bd.notSynchronized (t := .boolean) Bd.returns (by simp) (hb hby at_316) ⟨rfl, N41⟩ (by decide) (by decide)
  have tail_cn : ∀ (kx : Addr) (tt sel : Int32) (Tt : State), (Exa Z h0 kx "com/example/nests/nests/model/Mutation$Kind") → (Fld Z h0 kx "com/example/nests/nests/model/Mutation$Kind" "target" "Lcom/example/nests/nests/model/Mutation$Target;" (.ref tC)) → (Fld Z h0 kx "com/example/nests/nests/model/Mutation$Kind" "takesValue" "Z" (.int (0 : Int32))) → (Fld Z h0 kx "com/example/nests/nests/model/Mutation$Kind" "takesTimestamp" "Z" (.int tt)) → (tt = 0 ∨ tt = 1) → Stand p l e room_1 (s.setVm s.vm) m #[(.int ks), (.int len), (.int byt), (.long tms), (.int qb)] below meth c Tt [] 0 0 → Tt.heap = h0 → own_GoW p e below s (Q0 Z ks len byt tms qb x0 x1 x2 x3 x4 x5 x6 tC tF tR cs vf h0 n0) room_1.cells room_1.slots (Tt.setTop (mkF m 160 #[.val (.int ks), .val (.int len), .val (.int byt), .val (.long tms), .second, .val (.int qb), .val (.int sel), .val (.ref kx), .val (.int (0 : Int32)), .val (.int tt), .val (.int (2 : Int32)), .unset, .unset, .unset, .unset, .unset, .unset, .unset, .unset, .unset, .unset, .unset, .unset] [])) := by
    intro kx tt sel Tt Ek Ft Fv Fs htt Xt et
    clear S_SET E_SET Ft_SET Fv_SET Fs_SET S_SET_AT E_SET_AT Ft_SET_AT Fv_SET_AT Fs_SET_AT S_DELETE E_DELETE Ft_DELETE Fv_DELETE Fs_DELETE S_DELETE_AT E_DELETE_AT Ft_DELETE_AT Fv_DELETE_AT Fs_DELETE_AT S_DELETE_UPTO E_DELETE_UPTO Ft_DELETE_UPTO Fv_DELETE_UPTO Fs_DELETE_UPTO S_DELETE_FAMILY E_DELETE_FAMILY Ft_DELETE_FAMILY Fv_DELETE_FAMILY Fs_DELETE_FAMILY S_DELETE_ROW E_DELETE_ROW Ft_DELETE_ROW Fv_DELETE_ROW Fs_DELETE_ROW
    refine own_stepW (B := Tt.setTop (mkF m 183 #[.val (.int ks), .val (.int len), .val (.int byt), .val (.long tms), .second, .val (.int qb), .val (.int sel), .val (.ref kx), .val (.int (0 : Int32)), .val (.int tt), .val (.int (2 : Int32)), .val (.int (len &&& (3 : Int32))), .val (.int (byt.toInt8.toInt32)), .val (.int (((byt.toUInt32 >>> ((8 : Int32) &&& 31).toUInt32).toInt32).toInt8.toInt32)), .val (.int (((byt.toUInt32 >>> ((16 : Int32) &&& 31).toUInt32).toInt32).toInt8.toInt32)), .unset, .unset, .unset, .unset, .unset, .unset, .unset, .unset] [])) (fun t k => ?_) ?_
    · show Steps p.tables e below (Tt.setTop (mkF m 160 #[.val (.int ks), .val (.int len), .val (.int byt), .val (.long tms), .second, .val (.int qb), .val (.int sel), .val (.ref kx), .val (.int (0 : Int32)), .val (.int tt), .val (.int (2 : Int32)), .unset, .unset, .unset, .unset, .unset, .unset, .unset, .unset, .unset, .unset, .unset, .unset] [])) _
      refine XS.iloadN Xt.here hx rfl (hb hby at_160) rfl ?_
      refine XS.iconst Xt.here hx rfl (hb hby at_161) ?_
      refine XS.iand Xt.here hx rfl (hb hby at_162) rfl ?_
      refine XS.istore Xt.here hx rfl (hb hby at_163) rfl (l' := #[.val (.int ks), .val (.int len), .val (.int byt), .val (.long tms), .second, .val (.int qb), .val (.int sel), .val (.ref kx), .val (.int (0 : Int32)), .val (.int tt), .val (.int (2 : Int32)), .val (.int (len &&& (3 : Int32))), .unset, .unset, .unset, .unset, .unset, .unset, .unset, .unset, .unset, .unset, .unset]) rfl ?_
      refine XS.iloadN Xt.here hx rfl (hb hby at_165) rfl ?_
      refine XS.i2b Xt.here hx rfl (hb hby at_166) rfl ?_
      refine XS.istore Xt.here hx rfl (hb hby at_167) rfl (l' := #[.val (.int ks), .val (.int len), .val (.int byt), .val (.long tms), .second, .val (.int qb), .val (.int sel), .val (.ref kx), .val (.int (0 : Int32)), .val (.int tt), .val (.int (2 : Int32)), .val (.int (len &&& (3 : Int32))), .val (.int (byt.toInt8.toInt32)), .unset, .unset, .unset, .unset, .unset, .unset, .unset, .unset, .unset, .unset]) rfl ?_
      refine XS.iloadN Xt.here hx rfl (hb hby at_169) rfl ?_
      refine XS.bipush Xt.here hx rfl (hb hby at_170) ?_
      refine XS.iushr Xt.here hx rfl (hb hby at_172) rfl ?_
      refine XS.i2b Xt.here hx rfl (hb hby at_173) rfl ?_
      refine XS.istore Xt.here hx rfl (hb hby at_174) rfl (l' := #[.val (.int ks), .val (.int len), .val (.int byt), .val (.long tms), .second, .val (.int qb), .val (.int sel), .val (.ref kx), .val (.int (0 : Int32)), .val (.int tt), .val (.int (2 : Int32)), .val (.int (len &&& (3 : Int32))), .val (.int (byt.toInt8.toInt32)), .val (.int (((byt.toUInt32 >>> ((8 : Int32) &&& 31).toUInt32).toInt32).toInt8.toInt32)), .unset, .unset, .unset, .unset, .unset, .unset, .unset, .unset, .unset]) rfl ?_
      refine XS.iloadN Xt.here hx rfl (hb hby at_176) rfl ?_
      refine XS.bipush Xt.here hx rfl (hb hby at_177) ?_
      refine XS.iushr Xt.here hx rfl (hb hby at_179) rfl ?_
      refine XS.i2b Xt.here hx rfl (hb hby at_180) rfl ?_
      refine XS.istore Xt.here hx rfl (hb hby at_181) rfl (l' := #[.val (.int ks), .val (.int len), .val (.int byt), .val (.long tms), .second, .val (.int qb), .val (.int sel), .val (.ref kx), .val (.int (0 : Int32)), .val (.int tt), .val (.int (2 : Int32)), .val (.int (len &&& (3 : Int32))), .val (.int (byt.toInt8.toInt32)), .val (.int (((byt.toUInt32 >>> ((8 : Int32) &&& 31).toUInt32).toInt32).toInt8.toInt32)), .val (.int (((byt.toUInt32 >>> ((16 : Int32) &&& 31).toUInt32).toInt32).toInt8.toInt32)), .unset, .unset, .unset, .unset, .unset, .unset, .unset, .unset]) rfl ?_
      exact k
    rcases own_n3 len with en | en | en | en
    · rw [en]
      have KK0 : Keep h0 h0 [] := Keep.refl h0 _
      refine own_stepW (B := Tt.setTop (mkF m 185 #[.val (.int ks), .val (.int len), .val (.int byt), .val (.long tms), .second, .val (.int qb), .val (.int sel), .val (.ref kx), .val (.int (0 : Int32)), .val (.int tt), .val (.int (2 : Int32)), .val (.int (0 : Int32)), .val (.int (byt.toInt8.toInt32)), .val (.int (((byt.toUInt32 >>> ((8 : Int32) &&& 31).toUInt32).toInt32).toInt8.toInt32)), .val (.int (((byt.toUInt32 >>> ((16 : Int32) &&& 31).toUInt32).toInt32).toInt8.toInt32)), .unset, .unset, .unset, .unset, .unset, .unset, .unset, .unset] [(.int (0 : Int32))])) (fun t k => ?_) ?_
      · show Steps p.tables e below (Tt.setTop (mkF m 183 #[.val (.int ks), .val (.int len), .val (.int byt), .val (.long tms), .second, .val (.int qb), .val (.int sel), .val (.ref kx), .val (.int (0 : Int32)), .val (.int tt), .val (.int (2 : Int32)), .val (.int (0 : Int32)), .val (.int (byt.toInt8.toInt32)), .val (.int (((byt.toUInt32 >>> ((8 : Int32) &&& 31).toUInt32).toInt32).toInt8.toInt32)), .val (.int (((byt.toUInt32 >>> ((16 : Int32) &&& 31).toUInt32).toInt32).toInt8.toInt32)), .unset, .unset, .unset, .unset, .unset, .unset, .unset, .unset] [])) _
        refine XS.iload Xt.here hx rfl (hb hby at_183) rfl ?_
        exact k
      obtain ⟨T42, h42, k42, X42, e42, E42, A42, AE42, st42⟩ := newPE Xt hx hZ (hw _ (List.mem_of_getElem? (i := 4) rfl)) et (g := (mkF m 185 #[.val (.int ks), .val (.int len), .val (.int byt), .val (.long tms), .second, .val (.int qb), .val (.int sel), .val (.ref kx), .val (.int (0 : Int32)), .val (.int tt), .val (.int (2 : Int32)), .val (.int (0 : Int32)), .val (.int (byt.toInt8.toInt32)), .val (.int (((byt.toUInt32 >>> ((8 : Int32) &&& 31).toUInt32).toInt32).toInt8.toInt32)), .val (.int (((byt.toUInt32 >>> ((16 : Int32) &&& 31).toUInt32).toInt32).toInt8.toInt32)), .unset, .unset, .unset, .unset, .unset, .unset, .unset, .unset] [(.int (0 : Int32))])) rfl (hb hby at_185) rfl (by decide) (cap := 3) (by decide) (by decide) (by decide) (by decide) (ad := "[B") rfl
      obtain ⟨b42, g42⟩ : ∃ z, z = h0.size := ⟨_, rfl⟩
      rw [← g42] at A42 AE42 st42
      have g_b42 : n0 ≤ b42 := Nat.le_trans Z0 (Nat.le_of_eq g42.symm)
      have sz_b42 : h0.size ≤ b42 := Nat.le_trans KK0.1 (Nat.le_of_eq g42.symm)
      have V_b42 : Arv Z h42 b42 k42 .byte (0 : Int32) [] (.int (0 : Int32)) := (Arv.new A42 (by decide)).pad (pad_rep [] (.int (0 : Int32)) 0)
      have K42 : Keep h0 h42 [] := KK0.ext E42
      refine own_stepW st42 ?_
      show own_GoW p e below s _ _ _ (T42.setTop (mkF m 187 #[.val (.int ks), .val (.int len), .val (.int byt), .val (.long tms), .second, .val (.int qb), .val (.int sel), .val (.ref kx), .val (.int (0 : Int32)), .val (.int tt), .val (.int (2 : Int32)), .val (.int (0 : Int32)), .val (.int (byt.toInt8.toInt32)), .val (.int (((byt.toUInt32 >>> ((8 : Int32) &&& 31).toUInt32).toInt32).toInt8.toInt32)), .val (.int (((byt.toUInt32 >>> ((16 : Int32) &&& 31).toUInt32).toInt32).toInt8.toInt32)), .unset, .unset, .unset, .unset, .unset, .unset, .unset, .unset] [(.ref b42)]))
      refine own_stepW (B := T42.setTop (mkF m 224 #[.val (.int ks), .val (.int len), .val (.int byt), .val (.long tms), .second, .val (.int qb), .val (.int sel), .val (.ref kx), .val (.int (0 : Int32)), .val (.int tt), .val (.int (2 : Int32)), .val (.int (0 : Int32)), .val (.int (byt.toInt8.toInt32)), .val (.int (((byt.toUInt32 >>> ((8 : Int32) &&& 31).toUInt32).toInt32).toInt8.toInt32)), .val (.int (((byt.toUInt32 >>> ((16 : Int32) &&& 31).toUInt32).toInt32).toInt8.toInt32)), .val (.ref b42), .unset, .unset, .unset, .unset, .unset, .unset, .unset] [])) (fun t k => ?_) ?_
      · show Steps p.tables e below (T42.setTop (mkF m 187 #[.val (.int ks), .val (.int len), .val (.int byt), .val (.long tms), .second, .val (.int qb), .val (.int sel), .val (.ref kx), .val (.int (0 : Int32)), .val (.int tt), .val (.int (2 : Int32)), .val (.int (0 : Int32)), .val (.int (byt.toInt8.toInt32)), .val (.int (((byt.toUInt32 >>> ((8 : Int32) &&& 31).toUInt32).toInt32).toInt8.toInt32)), .val (.int (((byt.toUInt32 >>> ((16 : Int32) &&& 31).toUInt32).toInt32).toInt8.toInt32)), .unset, .unset, .unset, .unset, .unset, .unset, .unset, .unset] [(.ref b42)])) _
        refine XS.astore X42.here hx rfl (hb hby at_187) rfl rfl (l' := #[.val (.int ks), .val (.int len), .val (.int byt), .val (.long tms), .second, .val (.int qb), .val (.int sel), .val (.ref kx), .val (.int (0 : Int32)), .val (.int tt), .val (.int (2 : Int32)), .val (.int (0 : Int32)), .val (.int (byt.toInt8.toInt32)), .val (.int (((byt.toUInt32 >>> ((8 : Int32) &&& 31).toUInt32).toInt32).toInt8.toInt32)), .val (.int (((byt.toUInt32 >>> ((16 : Int32) &&& 31).toUInt32).toInt32).toInt8.toInt32)), .val (.ref b42), .unset, .unset, .unset, .unset, .unset, .unset, .unset]) rfl ?_
        refine XS.iload X42.here hx rfl (hb hby at_189) rfl ?_
        refine XS.ifYes X42.here hx rfl (pc0 := 191) (pc' := 200) rfl (hb hby at_191) rfl ((if0 _ _).trans (flt (by decide : ¬ ((0 : Int32) < (0 : Int32)))).2.2.2) (by decide) (by decide) ?_
        refine XS.iload X42.here hx rfl (hb hby at_200) rfl ?_
        refine XS.iconst X42.here hx rfl (hb hby at_202) ?_
        refine XS.icmpYes X42.here hx rfl (pc0 := 203) (pc' := 212) rfl (hb hby at_203) rfl (flt (by decide : ¬ ((1 : Int32) < (0 : Int32)))).2.2.2 (by decide) (by decide) ?_
        refine XS.iload X42.here hx rfl (hb hby at_212) rfl ?_
        refine XS.iconst X42.here hx rfl (hb hby at_214) ?_
        refine XS.icmpYes X42.here hx rfl (pc0 := 215) (pc' := 224) rfl (hb hby at_215) rfl (flt (by decide : ¬ ((2 : Int32) < (0 : Int32)))).2.2.2 (by decide) (by decide) ?_
        exact k
      exact cont_cn kx tt sel (0 : Int32) (byt.toInt8.toInt32) (((byt.toUInt32 >>> ((8 : Int32) &&& 31).toUInt32).toInt32).toInt8.toInt32) (((byt.toUInt32 >>> ((16 : Int32) &&& 31).toUInt32).toInt32).toInt8.toInt32) b42 k42 [] _ _ _ Ek Ft Fv Fs htt X42 e42 N0 K42 sz_b42 AE42 V_b42 (by decide) (by decide) (fun q => absurd (by decide) q) (fun q => absurd (by decide) q) (fun q => absurd (by decide) q)
    · rw [en]
      have KK0 : Keep h0 h0 [] := Keep.refl h0 _
      refine own_stepW (B := Tt.setTop (mkF m 185 #[.val (.int ks), .val (.int len), .val (.int byt), .val (.long tms), .second, .val (.int qb), .val (.int sel), .val (.ref kx), .val (.int (0 : Int32)), .val (.int tt), .val (.int (2 : Int32)), .val (.int (1 : Int32)), .val (.int (byt.toInt8.toInt32)), .val (.int (((byt.toUInt32 >>> ((8 : Int32) &&& 31).toUInt32).toInt32).toInt8.toInt32)), .val (.int (((byt.toUInt32 >>> ((16 : Int32) &&& 31).toUInt32).toInt32).toInt8.toInt32)), .unset, .unset, .unset, .unset, .unset, .unset, .unset, .unset] [(.int (1 : Int32))])) (fun t k => ?_) ?_
      · show Steps p.tables e below (Tt.setTop (mkF m 183 #[.val (.int ks), .val (.int len), .val (.int byt), .val (.long tms), .second, .val (.int qb), .val (.int sel), .val (.ref kx), .val (.int (0 : Int32)), .val (.int tt), .val (.int (2 : Int32)), .val (.int (1 : Int32)), .val (.int (byt.toInt8.toInt32)), .val (.int (((byt.toUInt32 >>> ((8 : Int32) &&& 31).toUInt32).toInt32).toInt8.toInt32)), .val (.int (((byt.toUInt32 >>> ((16 : Int32) &&& 31).toUInt32).toInt32).toInt8.toInt32)), .unset, .unset, .unset, .unset, .unset, .unset, .unset, .unset] [])) _
        refine XS.iload Xt.here hx rfl (hb hby at_183) rfl ?_
        exact k
      obtain ⟨T43, h43, k43, X43, e43, E43, A43, AE43, st43⟩ := newPE Xt hx hZ (hw _ (List.mem_of_getElem? (i := 4) rfl)) et (g := (mkF m 185 #[.val (.int ks), .val (.int len), .val (.int byt), .val (.long tms), .second, .val (.int qb), .val (.int sel), .val (.ref kx), .val (.int (0 : Int32)), .val (.int tt), .val (.int (2 : Int32)), .val (.int (1 : Int32)), .val (.int (byt.toInt8.toInt32)), .val (.int (((byt.toUInt32 >>> ((8 : Int32) &&& 31).toUInt32).toInt32).toInt8.toInt32)), .val (.int (((byt.toUInt32 >>> ((16 : Int32) &&& 31).toUInt32).toInt32).toInt8.toInt32)), .unset, .unset, .unset, .unset, .unset, .unset, .unset, .unset] [(.int (1 : Int32))])) rfl (hb hby at_185) rfl (by decide) (cap := 3) (by decide) (by decide) (by decide) (by decide) (ad := "[B") rfl
      obtain ⟨b43, g43⟩ : ∃ z, z = h0.size := ⟨_, rfl⟩
      rw [← g43] at A43 AE43 st43
      have g_b43 : n0 ≤ b43 := Nat.le_trans Z0 (Nat.le_of_eq g43.symm)
      have sz_b43 : h0.size ≤ b43 := Nat.le_trans KK0.1 (Nat.le_of_eq g43.symm)
      have V_b43 : Arv Z h43 b43 k43 .byte (1 : Int32) [(.int (0 : Int32))] (.int (0 : Int32)) := (Arv.new A43 (by decide)).pad (pad_rep [] (.int (0 : Int32)) 1)
      have K43 : Keep h0 h43 [] := KK0.ext E43
      refine own_stepW st43 ?_
      show own_GoW p e below s _ _ _ (T43.setTop (mkF m 187 #[.val (.int ks), .val (.int len), .val (.int byt), .val (.long tms), .second, .val (.int qb), .val (.int sel), .val (.ref kx), .val (.int (0 : Int32)), .val (.int tt), .val (.int (2 : Int32)), .val (.int (1 : Int32)), .val (.int (byt.toInt8.toInt32)), .val (.int (((byt.toUInt32 >>> ((8 : Int32) &&& 31).toUInt32).toInt32).toInt8.toInt32)), .val (.int (((byt.toUInt32 >>> ((16 : Int32) &&& 31).toUInt32).toInt32).toInt8.toInt32)), .unset, .unset, .unset, .unset, .unset, .unset, .unset, .unset] [(.ref b43)]))
      refine own_stepW (B := T43.setTop (mkF m 199 #[.val (.int ks), .val (.int len), .val (.int byt), .val (.long tms), .second, .val (.int qb), .val (.int sel), .val (.ref kx), .val (.int (0 : Int32)), .val (.int tt), .val (.int (2 : Int32)), .val (.int (1 : Int32)), .val (.int (byt.toInt8.toInt32)), .val (.int (((byt.toUInt32 >>> ((8 : Int32) &&& 31).toUInt32).toInt32).toInt8.toInt32)), .val (.int (((byt.toUInt32 >>> ((16 : Int32) &&& 31).toUInt32).toInt32).toInt8.toInt32)), .val (.ref b43), .unset, .unset, .unset, .unset, .unset, .unset, .unset] [(.int (byt.toInt8.toInt32)), (.int (0 : Int32)), (.ref b43)])) (fun t k => ?_) ?_
      · show Steps p.tables e below (T43.setTop (mkF m 187 #[.val (.int ks), .val (.int len), .val (.int byt), .val (.long tms), .second, .val (.int qb), .val (.int sel), .val (.ref kx), .val (.int (0 : Int32)), .val (.int tt), .val (.int (2 : Int32)), .val (.int (1 : Int32)), .val (.int (byt.toInt8.toInt32)), .val (.int (((byt.toUInt32 >>> ((8 : Int32) &&& 31).toUInt32).toInt32).toInt8.toInt32)), .val (.int (((byt.toUInt32 >>> ((16 : Int32) &&& 31).toUInt32).toInt32).toInt8.toInt32)), .unset, .unset, .unset, .unset, .unset, .unset, .unset, .unset] [(.ref b43)])) _
        refine XS.astore X43.here hx rfl (hb hby at_187) rfl rfl (l' := #[.val (.int ks), .val (.int len), .val (.int byt), .val (.long tms), .second, .val (.int qb), .val (.int sel), .val (.ref kx), .val (.int (0 : Int32)), .val (.int tt), .val (.int (2 : Int32)), .val (.int (1 : Int32)), .val (.int (byt.toInt8.toInt32)), .val (.int (((byt.toUInt32 >>> ((8 : Int32) &&& 31).toUInt32).toInt32).toInt8.toInt32)), .val (.int (((byt.toUInt32 >>> ((16 : Int32) &&& 31).toUInt32).toInt32).toInt8.toInt32)), .val (.ref b43), .unset, .unset, .unset, .unset, .unset, .unset, .unset]) rfl ?_
        refine XS.iload X43.here hx rfl (hb hby at_189) rfl ?_
        refine XS.ifNo X43.here hx rfl (hb hby at_191) rfl ((if0 _ _).trans (tlt (by decide : ((0 : Int32) < (1 : Int32)))).2.2.2) ?_
        refine XS.aload X43.here hx rfl (hb hby at_194) rfl rfl ?_
        refine XS.iconst X43.here hx rfl (hb hby at_196) ?_
        refine XS.iload X43.here hx rfl (hb hby at_197) rfl ?_
        exact k
      obtain ⟨cl44, Ar44, q44, S44, NN44, Hs44, G44⟩ := V_b43
      have hin44 : ¬ ((0 : Int32) < 0 ∨ cl44.slots.size ≤ ((0 : Int32)).toNatClampNeg) := inb_of S44 ⟨by decide, by decide⟩
      obtain ⟨T44, h44, X44, e44, W44, st44⟩ := stB X43 hx hZ e43 Ar44 (j := (0 : Int32)) hin44 (g := (mkF m 199 #[.val (.int ks), .val (.int len), .val (.int byt), .val (.long tms), .second, .val (.int qb), .val (.int sel), .val (.ref kx), .val (.int (0 : Int32)), .val (.int tt), .val (.int (2 : Int32)), .val (.int (1 : Int32)), .val (.int (byt.toInt8.toInt32)), .val (.int (((byt.toUInt32 >>> ((8 : Int32) &&& 31).toUInt32).toInt32).toInt8.toInt32)), .val (.int (((byt.toUInt32 >>> ((16 : Int32) &&& 31).toUInt32).toInt32).toInt8.toInt32)), .val (.ref b43), .unset, .unset, .unset, .unset, .unset, .unset, .unset] [(.int (byt.toInt8.toInt32)), (.int (0 : Int32)), (.ref b43)])) rfl rfl (hb hby at_199)
      have V44 : Arv Z h44 b43 k43 .byte (1 : Int32) [(.int (nar .byte (byt.toInt8.toInt32)))] (.int (0 : Int32)) := Arv.set Ar44 q44 S44 NN44 Hs44 G44 (fits_nar_byte _) W44 0 rfl (Nat.le_of_ble_eq_true rfl)
      have N44 := Fr.snoc X44 N0 g_b43
      have K44 : Keep h0 h44 [] := K43.wr W44 (Or.inr sz_b43)
      refine own_stepW st44 ?_
      show own_GoW p e below s _ _ _ (T44.setTop (mkF m 200 #[.val (.int ks), .val (.int len), .val (.int byt), .val (.long tms), .second, .val (.int qb), .val (.int sel), .val (.ref kx), .val (.int (0 : Int32)), .val (.int tt), .val (.int (2 : Int32)), .val (.int (1 : Int32)), .val (.int (byt.toInt8.toInt32)), .val (.int (((byt.toUInt32 >>> ((8 : Int32) &&& 31).toUInt32).toInt32).toInt8.toInt32)), .val (.int (((byt.toUInt32 >>> ((16 : Int32) &&& 31).toUInt32).toInt32).toInt8.toInt32)), .val (.ref b43), .unset, .unset, .unset, .unset, .unset, .unset, .unset] []))
      refine own_stepW (B := T44.setTop (mkF m 224 #[.val (.int ks), .val (.int len), .val (.int byt), .val (.long tms), .second, .val (.int qb), .val (.int sel), .val (.ref kx), .val (.int (0 : Int32)), .val (.int tt), .val (.int (2 : Int32)), .val (.int (1 : Int32)), .val (.int (byt.toInt8.toInt32)), .val (.int (((byt.toUInt32 >>> ((8 : Int32) &&& 31).toUInt32).toInt32).toInt8.toInt32)), .val (.int (((byt.toUInt32 >>> ((16 : Int32) &&& 31).toUInt32).toInt32).toInt8.toInt32)), .val (.ref b43), .unset, .unset, .unset, .unset, .unset, .unset, .unset] [])) (fun t k => ?_) ?_
      · show Steps p.tables e below (T44.setTop (mkF m 200 #[.val (.int ks), .val (.int len), .val (.int byt), .val (.long tms), .second, .val (.int qb), .val (.int sel), .val (.ref kx), .val (.int (0 : Int32)), .val (.int tt), .val (.int (2 : Int32)), .val (.int (1 : Int32)), .val (.int (byt.toInt8.toInt32)), .val (.int (((byt.toUInt32 >>> ((8 : Int32) &&& 31).toUInt32).toInt32).toInt8.toInt32)), .val (.int (((byt.toUInt32 >>> ((16 : Int32) &&& 31).toUInt32).toInt32).toInt8.toInt32)), .val (.ref b43), .unset, .unset, .unset, .unset, .unset, .unset, .unset] [])) _
        refine XS.iload X44.here hx rfl (hb hby at_200) rfl ?_
        refine XS.iconst X44.here hx rfl (hb hby at_202) ?_
        refine XS.icmpYes X44.here hx rfl (pc0 := 203) (pc' := 212) rfl (hb hby at_203) rfl (flt (by decide : ¬ ((1 : Int32) < (1 : Int32)))).2.2.2 (by decide) (by decide) ?_
        refine XS.iload X44.here hx rfl (hb hby at_212) rfl ?_
        refine XS.iconst X44.here hx rfl (hb hby at_214) ?_
        refine XS.icmpYes X44.here hx rfl (pc0 := 215) (pc' := 224) rfl (hb hby at_215) rfl (flt (by decide : ¬ ((2 : Int32) < (1 : Int32)))).2.2.2 (by decide) (by decide) ?_
        exact k
      exact cont_cn kx tt sel (1 : Int32) (byt.toInt8.toInt32) (((byt.toUInt32 >>> ((8 : Int32) &&& 31).toUInt32).toInt32).toInt8.toInt32) (((byt.toUInt32 >>> ((16 : Int32) &&& 31).toUInt32).toInt32).toInt8.toInt32) b43 k43 [(.int (nar .byte (byt.toInt8.toInt32)))] _ _ _ Ek Ft Fv Fs htt X44 e44 N44 K44 sz_b43 (AE43.wr W44) V44 (by decide) (by decide) (fun _ => congrArg Value.int (own_i8 _)) (fun q => absurd (by decide) q) (fun q => absurd (by decide) q)
    · rw [en]
      have KK0 : Keep h0 h0 [] := Keep.refl h0 _
      refine own_stepW (B := Tt.setTop (mkF m 185 #[.val (.int ks), .val (.int len), .val (.int byt), .val (.long tms), .second, .val (.int qb), .val (.int sel), .val (.ref kx), .val (.int (0 : Int32)), .val (.int tt), .val (.int (2 : Int32)), .val (.int (2 : Int32)), .val (.int (byt.toInt8.toInt32)), .val (.int (((byt.toUInt32 >>> ((8 : Int32) &&& 31).toUInt32).toInt32).toInt8.toInt32)), .val (.int (((byt.toUInt32 >>> ((16 : Int32) &&& 31).toUInt32).toInt32).toInt8.toInt32)), .unset, .unset, .unset, .unset, .unset, .unset, .unset, .unset] [(.int (2 : Int32))])) (fun t k => ?_) ?_
      · show Steps p.tables e below (Tt.setTop (mkF m 183 #[.val (.int ks), .val (.int len), .val (.int byt), .val (.long tms), .second, .val (.int qb), .val (.int sel), .val (.ref kx), .val (.int (0 : Int32)), .val (.int tt), .val (.int (2 : Int32)), .val (.int (2 : Int32)), .val (.int (byt.toInt8.toInt32)), .val (.int (((byt.toUInt32 >>> ((8 : Int32) &&& 31).toUInt32).toInt32).toInt8.toInt32)), .val (.int (((byt.toUInt32 >>> ((16 : Int32) &&& 31).toUInt32).toInt32).toInt8.toInt32)), .unset, .unset, .unset, .unset, .unset, .unset, .unset, .unset] [])) _
        refine XS.iload Xt.here hx rfl (hb hby at_183) rfl ?_
        exact k
      obtain ⟨T45, h45, k45, X45, e45, E45, A45, AE45, st45⟩ := newPE Xt hx hZ (hw _ (List.mem_of_getElem? (i := 4) rfl)) et (g := (mkF m 185 #[.val (.int ks), .val (.int len), .val (.int byt), .val (.long tms), .second, .val (.int qb), .val (.int sel), .val (.ref kx), .val (.int (0 : Int32)), .val (.int tt), .val (.int (2 : Int32)), .val (.int (2 : Int32)), .val (.int (byt.toInt8.toInt32)), .val (.int (((byt.toUInt32 >>> ((8 : Int32) &&& 31).toUInt32).toInt32).toInt8.toInt32)), .val (.int (((byt.toUInt32 >>> ((16 : Int32) &&& 31).toUInt32).toInt32).toInt8.toInt32)), .unset, .unset, .unset, .unset, .unset, .unset, .unset, .unset] [(.int (2 : Int32))])) rfl (hb hby at_185) rfl (by decide) (cap := 3) (by decide) (by decide) (by decide) (by decide) (ad := "[B") rfl
      obtain ⟨b45, g45⟩ : ∃ z, z = h0.size := ⟨_, rfl⟩
      rw [← g45] at A45 AE45 st45
      have g_b45 : n0 ≤ b45 := Nat.le_trans Z0 (Nat.le_of_eq g45.symm)
      have sz_b45 : h0.size ≤ b45 := Nat.le_trans KK0.1 (Nat.le_of_eq g45.symm)
      have V_b45 : Arv Z h45 b45 k45 .byte (2 : Int32) [(.int (0 : Int32)), (.int (0 : Int32))] (.int (0 : Int32)) := (Arv.new A45 (by decide)).pad (pad_rep [] (.int (0 : Int32)) 2)
      have K45 : Keep h0 h45 [] := KK0.ext E45
      refine own_stepW st45 ?_
      show own_GoW p e below s _ _ _ (T45.setTop (mkF m 187 #[.val (.int ks), .val (.int len), .val (.int byt), .val (.long tms), .second, .val (.int qb), .val (.int sel), .val (.ref kx), .val (.int (0 : Int32)), .val (.int tt), .val (.int (2 : Int32)), .val (.int (2 : Int32)), .val (.int (byt.toInt8.toInt32)), .val (.int (((byt.toUInt32 >>> ((8 : Int32) &&& 31).toUInt32).toInt32).toInt8.toInt32)), .val (.int (((byt.toUInt32 >>> ((16 : Int32) &&& 31).toUInt32).toInt32).toInt8.toInt32)), .unset, .unset, .unset, .unset, .unset, .unset, .unset, .unset] [(.ref b45)]))
      refine own_stepW (B := T45.setTop (mkF m 199 #[.val (.int ks), .val (.int len), .val (.int byt), .val (.long tms), .second, .val (.int qb), .val (.int sel), .val (.ref kx), .val (.int (0 : Int32)), .val (.int tt), .val (.int (2 : Int32)), .val (.int (2 : Int32)), .val (.int (byt.toInt8.toInt32)), .val (.int (((byt.toUInt32 >>> ((8 : Int32) &&& 31).toUInt32).toInt32).toInt8.toInt32)), .val (.int (((byt.toUInt32 >>> ((16 : Int32) &&& 31).toUInt32).toInt32).toInt8.toInt32)), .val (.ref b45), .unset, .unset, .unset, .unset, .unset, .unset, .unset] [(.int (byt.toInt8.toInt32)), (.int (0 : Int32)), (.ref b45)])) (fun t k => ?_) ?_
      · show Steps p.tables e below (T45.setTop (mkF m 187 #[.val (.int ks), .val (.int len), .val (.int byt), .val (.long tms), .second, .val (.int qb), .val (.int sel), .val (.ref kx), .val (.int (0 : Int32)), .val (.int tt), .val (.int (2 : Int32)), .val (.int (2 : Int32)), .val (.int (byt.toInt8.toInt32)), .val (.int (((byt.toUInt32 >>> ((8 : Int32) &&& 31).toUInt32).toInt32).toInt8.toInt32)), .val (.int (((byt.toUInt32 >>> ((16 : Int32) &&& 31).toUInt32).toInt32).toInt8.toInt32)), .unset, .unset, .unset, .unset, .unset, .unset, .unset, .unset] [(.ref b45)])) _
        refine XS.astore X45.here hx rfl (hb hby at_187) rfl rfl (l' := #[.val (.int ks), .val (.int len), .val (.int byt), .val (.long tms), .second, .val (.int qb), .val (.int sel), .val (.ref kx), .val (.int (0 : Int32)), .val (.int tt), .val (.int (2 : Int32)), .val (.int (2 : Int32)), .val (.int (byt.toInt8.toInt32)), .val (.int (((byt.toUInt32 >>> ((8 : Int32) &&& 31).toUInt32).toInt32).toInt8.toInt32)), .val (.int (((byt.toUInt32 >>> ((16 : Int32) &&& 31).toUInt32).toInt32).toInt8.toInt32)), .val (.ref b45), .unset, .unset, .unset, .unset, .unset, .unset, .unset]) rfl ?_
        refine XS.iload X45.here hx rfl (hb hby at_189) rfl ?_
        refine XS.ifNo X45.here hx rfl (hb hby at_191) rfl ((if0 _ _).trans (tlt (by decide : ((0 : Int32) < (2 : Int32)))).2.2.2) ?_
        refine XS.aload X45.here hx rfl (hb hby at_194) rfl rfl ?_
        refine XS.iconst X45.here hx rfl (hb hby at_196) ?_
        refine XS.iload X45.here hx rfl (hb hby at_197) rfl ?_
        exact k
      obtain ⟨cl46, Ar46, q46, S46, NN46, Hs46, G46⟩ := V_b45
      have hin46 : ¬ ((0 : Int32) < 0 ∨ cl46.slots.size ≤ ((0 : Int32)).toNatClampNeg) := inb_of S46 ⟨by decide, by decide⟩
      obtain ⟨T46, h46, X46, e46, W46, st46⟩ := stB X45 hx hZ e45 Ar46 (j := (0 : Int32)) hin46 (g := (mkF m 199 #[.val (.int ks), .val (.int len), .val (.int byt), .val (.long tms), .second, .val (.int qb), .val (.int sel), .val (.ref kx), .val (.int (0 : Int32)), .val (.int tt), .val (.int (2 : Int32)), .val (.int (2 : Int32)), .val (.int (byt.toInt8.toInt32)), .val (.int (((byt.toUInt32 >>> ((8 : Int32) &&& 31).toUInt32).toInt32).toInt8.toInt32)), .val (.int (((byt.toUInt32 >>> ((16 : Int32) &&& 31).toUInt32).toInt32).toInt8.toInt32)), .val (.ref b45), .unset, .unset, .unset, .unset, .unset, .unset, .unset] [(.int (byt.toInt8.toInt32)), (.int (0 : Int32)), (.ref b45)])) rfl rfl (hb hby at_199)
      have V46 : Arv Z h46 b45 k45 .byte (2 : Int32) [(.int (nar .byte (byt.toInt8.toInt32))), (.int (0 : Int32))] (.int (0 : Int32)) := Arv.set Ar46 q46 S46 NN46 Hs46 G46 (fits_nar_byte _) W46 0 rfl (Nat.le_of_ble_eq_true rfl)
      have N46 := Fr.snoc X46 N0 g_b45
      have K46 : Keep h0 h46 [] := K45.wr W46 (Or.inr sz_b45)
      refine own_stepW st46 ?_
      show own_GoW p e below s _ _ _ (T46.setTop (mkF m 200 #[.val (.int ks), .val (.int len), .val (.int byt), .val (.long tms), .second, .val (.int qb), .val (.int sel), .val (.ref kx), .val (.int (0 : Int32)), .val (.int tt), .val (.int (2 : Int32)), .val (.int (2 : Int32)), .val (.int (byt.toInt8.toInt32)), .val (.int (((byt.toUInt32 >>> ((8 : Int32) &&& 31).toUInt32).toInt32).toInt8.toInt32)), .val (.int (((byt.toUInt32 >>> ((16 : Int32) &&& 31).toUInt32).toInt32).toInt8.toInt32)), .val (.ref b45), .unset, .unset, .unset, .unset, .unset, .unset, .unset] []))
      refine own_stepW (B := T46.setTop (mkF m 211 #[.val (.int ks), .val (.int len), .val (.int byt), .val (.long tms), .second, .val (.int qb), .val (.int sel), .val (.ref kx), .val (.int (0 : Int32)), .val (.int tt), .val (.int (2 : Int32)), .val (.int (2 : Int32)), .val (.int (byt.toInt8.toInt32)), .val (.int (((byt.toUInt32 >>> ((8 : Int32) &&& 31).toUInt32).toInt32).toInt8.toInt32)), .val (.int (((byt.toUInt32 >>> ((16 : Int32) &&& 31).toUInt32).toInt32).toInt8.toInt32)), .val (.ref b45), .unset, .unset, .unset, .unset, .unset, .unset, .unset] [(.int (((byt.toUInt32 >>> ((8 : Int32) &&& 31).toUInt32).toInt32).toInt8.toInt32)), (.int (1 : Int32)), (.ref b45)])) (fun t k => ?_) ?_
      · show Steps p.tables e below (T46.setTop (mkF m 200 #[.val (.int ks), .val (.int len), .val (.int byt), .val (.long tms), .second, .val (.int qb), .val (.int sel), .val (.ref kx), .val (.int (0 : Int32)), .val (.int tt), .val (.int (2 : Int32)), .val (.int (2 : Int32)), .val (.int (byt.toInt8.toInt32)), .val (.int (((byt.toUInt32 >>> ((8 : Int32) &&& 31).toUInt32).toInt32).toInt8.toInt32)), .val (.int (((byt.toUInt32 >>> ((16 : Int32) &&& 31).toUInt32).toInt32).toInt8.toInt32)), .val (.ref b45), .unset, .unset, .unset, .unset, .unset, .unset, .unset] [])) _
        refine XS.iload X46.here hx rfl (hb hby at_200) rfl ?_
        refine XS.iconst X46.here hx rfl (hb hby at_202) ?_
        refine XS.icmpNo X46.here hx rfl (hb hby at_203) rfl (tlt (by decide : ((1 : Int32) < (2 : Int32)))).2.2.2 ?_
        refine XS.aload X46.here hx rfl (hb hby at_206) rfl rfl ?_
        refine XS.iconst X46.here hx rfl (hb hby at_208) ?_
        refine XS.iload X46.here hx rfl (hb hby at_209) rfl ?_
        exact k
      obtain ⟨cl47, Ar47, q47, S47, NN47, Hs47, G47⟩ := V46
      have hin47 : ¬ ((1 : Int32) < 0 ∨ cl47.slots.size ≤ ((1 : Int32)).toNatClampNeg) := inb_of S47 ⟨by decide, by decide⟩
      obtain ⟨T47, h47, X47, e47, W47, st47⟩ := stB X46 hx hZ e46 Ar47 (j := (1 : Int32)) hin47 (g := (mkF m 211 #[.val (.int ks), .val (.int len), .val (.int byt), .val (.long tms), .second, .val (.int qb), .val (.int sel), .val (.ref kx), .val (.int (0 : Int32)), .val (.int tt), .val (.int (2 : Int32)), .val (.int (2 : Int32)), .val (.int (byt.toInt8.toInt32)), .val (.int (((byt.toUInt32 >>> ((8 : Int32) &&& 31).toUInt32).toInt32).toInt8.toInt32)), .val (.int (((byt.toUInt32 >>> ((16 : Int32) &&& 31).toUInt32).toInt32).toInt8.toInt32)), .val (.ref b45), .unset, .unset, .unset, .unset, .unset, .unset, .unset] [(.int (((byt.toUInt32 >>> ((8 : Int32) &&& 31).toUInt32).toInt32).toInt8.toInt32)), (.int (1 : Int32)), (.ref b45)])) rfl rfl (hb hby at_211)
      have V47 : Arv Z h47 b45 k45 .byte (2 : Int32) [(.int (nar .byte (byt.toInt8.toInt32))), (.int (nar .byte (((byt.toUInt32 >>> ((8 : Int32) &&& 31).toUInt32).toInt32).toInt8.toInt32)))] (.int (0 : Int32)) := Arv.set Ar47 q47 S47 NN47 Hs47 G47 (fits_nar_byte _) W47 1 rfl (Nat.le_of_ble_eq_true rfl)
      have N47 := Fr.snoc X47 N46 g_b45
      have K47 : Keep h0 h47 [] := K46.wr W47 (Or.inr sz_b45)
      refine own_stepW st47 ?_
      show own_GoW p e below s _ _ _ (T47.setTop (mkF m 212 #[.val (.int ks), .val (.int len), .val (.int byt), .val (.long tms), .second, .val (.int qb), .val (.int sel), .val (.ref kx), .val (.int (0 : Int32)), .val (.int tt), .val (.int (2 : Int32)), .val (.int (2 : Int32)), .val (.int (byt.toInt8.toInt32)), .val (.int (((byt.toUInt32 >>> ((8 : Int32) &&& 31).toUInt32).toInt32).toInt8.toInt32)), .val (.int (((byt.toUInt32 >>> ((16 : Int32) &&& 31).toUInt32).toInt32).toInt8.toInt32)), .val (.ref b45), .unset, .unset, .unset, .unset, .unset, .unset, .unset] []))
      refine own_stepW (B := T47.setTop (mkF m 224 #[.val (.int ks), .val (.int len), .val (.int byt), .val (.long tms), .second, .val (.int qb), .val (.int sel), .val (.ref kx), .val (.int (0 : Int32)), .val (.int tt), .val (.int (2 : Int32)), .val (.int (2 : Int32)), .val (.int (byt.toInt8.toInt32)), .val (.int (((byt.toUInt32 >>> ((8 : Int32) &&& 31).toUInt32).toInt32).toInt8.toInt32)), .val (.int (((byt.toUInt32 >>> ((16 : Int32) &&& 31).toUInt32).toInt32).toInt8.toInt32)), .val (.ref b45), .unset, .unset, .unset, .unset, .unset, .unset, .unset] [])) (fun t k => ?_) ?_
      · show Steps p.tables e below (T47.setTop (mkF m 212 #[.val (.int ks), .val (.int len), .val (.int byt), .val (.long tms), .second, .val (.int qb), .val (.int sel), .val (.ref kx), .val (.int (0 : Int32)), .val (.int tt), .val (.int (2 : Int32)), .val (.int (2 : Int32)), .val (.int (byt.toInt8.toInt32)), .val (.int (((byt.toUInt32 >>> ((8 : Int32) &&& 31).toUInt32).toInt32).toInt8.toInt32)), .val (.int (((byt.toUInt32 >>> ((16 : Int32) &&& 31).toUInt32).toInt32).toInt8.toInt32)), .val (.ref b45), .unset, .unset, .unset, .unset, .unset, .unset, .unset] [])) _
        refine XS.iload X47.here hx rfl (hb hby at_212) rfl ?_
        refine XS.iconst X47.here hx rfl (hb hby at_214) ?_
        refine XS.icmpYes X47.here hx rfl (pc0 := 215) (pc' := 224) rfl (hb hby at_215) rfl (flt (by decide : ¬ ((2 : Int32) < (2 : Int32)))).2.2.2 (by decide) (by decide) ?_
        exact k
      exact cont_cn kx tt sel (2 : Int32) (byt.toInt8.toInt32) (((byt.toUInt32 >>> ((8 : Int32) &&& 31).toUInt32).toInt32).toInt8.toInt32) (((byt.toUInt32 >>> ((16 : Int32) &&& 31).toUInt32).toInt32).toInt8.toInt32) b45 k45 [(.int (nar .byte (byt.toInt8.toInt32))), (.int (nar .byte (((byt.toUInt32 >>> ((8 : Int32) &&& 31).toUInt32).toInt32).toInt8.toInt32)))] _ _ _ Ek Ft Fv Fs htt X47 e47 N47 K47 sz_b45 ((AE45.wr W46).wr W47) V47 (by decide) (by decide) (fun _ => congrArg Value.int (own_i8 _)) (fun _ => congrArg Value.int (own_i8 _)) (fun q => absurd (by decide) q)
    · rw [en]
      have KK0 : Keep h0 h0 [] := Keep.refl h0 _
      refine own_stepW (B := Tt.setTop (mkF m 185 #[.val (.int ks), .val (.int len), .val (.int byt), .val (.long tms), .second, .val (.int qb), .val (.int sel), .val (.ref kx), .val (.int (0 : Int32)), .val (.int tt), .val (.int (2 : Int32)), .val (.int (3 : Int32)), .val (.int (byt.toInt8.toInt32)), .val (.int (((byt.toUInt32 >>> ((8 : Int32) &&& 31).toUInt32).toInt32).toInt8.toInt32)), .val (.int (((byt.toUInt32 >>> ((16 : Int32) &&& 31).toUInt32).toInt32).toInt8.toInt32)), .unset, .unset, .unset, .unset, .unset, .unset, .unset, .unset] [(.int (3 : Int32))])) (fun t k => ?_) ?_
      · show Steps p.tables e below (Tt.setTop (mkF m 183 #[.val (.int ks), .val (.int len), .val (.int byt), .val (.long tms), .second, .val (.int qb), .val (.int sel), .val (.ref kx), .val (.int (0 : Int32)), .val (.int tt), .val (.int (2 : Int32)), .val (.int (3 : Int32)), .val (.int (byt.toInt8.toInt32)), .val (.int (((byt.toUInt32 >>> ((8 : Int32) &&& 31).toUInt32).toInt32).toInt8.toInt32)), .val (.int (((byt.toUInt32 >>> ((16 : Int32) &&& 31).toUInt32).toInt32).toInt8.toInt32)), .unset, .unset, .unset, .unset, .unset, .unset, .unset, .unset] [])) _
        refine XS.iload Xt.here hx rfl (hb hby at_183) rfl ?_
        exact k
      obtain ⟨T48, h48, k48, X48, e48, E48, A48, AE48, st48⟩ := newPE Xt hx hZ (hw _ (List.mem_of_getElem? (i := 4) rfl)) et (g := (mkF m 185 #[.val (.int ks), .val (.int len), .val (.int byt), .val (.long tms), .second, .val (.int qb), .val (.int sel), .val (.ref kx), .val (.int (0 : Int32)), .val (.int tt), .val (.int (2 : Int32)), .val (.int (3 : Int32)), .val (.int (byt.toInt8.toInt32)), .val (.int (((byt.toUInt32 >>> ((8 : Int32) &&& 31).toUInt32).toInt32).toInt8.toInt32)), .val (.int (((byt.toUInt32 >>> ((16 : Int32) &&& 31).toUInt32).toInt32).toInt8.toInt32)), .unset, .unset, .unset, .unset, .unset, .unset, .unset, .unset] [(.int (3 : Int32))])) rfl (hb hby at_185) rfl (by decide) (cap := 3) (by decide) (by decide) (by decide) (by decide) (ad := "[B") rfl
      obtain ⟨b48, g48⟩ : ∃ z, z = h0.size := ⟨_, rfl⟩
      rw [← g48] at A48 AE48 st48
      have g_b48 : n0 ≤ b48 := Nat.le_trans Z0 (Nat.le_of_eq g48.symm)
      have sz_b48 : h0.size ≤ b48 := Nat.le_trans KK0.1 (Nat.le_of_eq g48.symm)
      have V_b48 : Arv Z h48 b48 k48 .byte (3 : Int32) [(.int (0 : Int32)), (.int (0 : Int32)), (.int (0 : Int32))] (.int (0 : Int32)) := (Arv.new A48 (by decide)).pad (pad_rep [] (.int (0 : Int32)) 3)
      have K48 : Keep h0 h48 [] := KK0.ext E48
      refine own_stepW st48 ?_
      show own_GoW p e below s _ _ _ (T48.setTop (mkF m 187 #[.val (.int ks), .val (.int len), .val (.int byt), .val (.long tms), .second, .val (.int qb), .val (.int sel), .val (.ref kx), .val (.int (0 : Int32)), .val (.int tt), .val (.int (2 : Int32)), .val (.int (3 : Int32)), .val (.int (byt.toInt8.toInt32)), .val (.int (((byt.toUInt32 >>> ((8 : Int32) &&& 31).toUInt32).toInt32).toInt8.toInt32)), .val (.int (((byt.toUInt32 >>> ((16 : Int32) &&& 31).toUInt32).toInt32).toInt8.toInt32)), .unset, .unset, .unset, .unset, .unset, .unset, .unset, .unset] [(.ref b48)]))
      refine own_stepW (B := T48.setTop (mkF m 199 #[.val (.int ks), .val (.int len), .val (.int byt), .val (.long tms), .second, .val (.int qb), .val (.int sel), .val (.ref kx), .val (.int (0 : Int32)), .val (.int tt), .val (.int (2 : Int32)), .val (.int (3 : Int32)), .val (.int (byt.toInt8.toInt32)), .val (.int (((byt.toUInt32 >>> ((8 : Int32) &&& 31).toUInt32).toInt32).toInt8.toInt32)), .val (.int (((byt.toUInt32 >>> ((16 : Int32) &&& 31).toUInt32).toInt32).toInt8.toInt32)), .val (.ref b48), .unset, .unset, .unset, .unset, .unset, .unset, .unset] [(.int (byt.toInt8.toInt32)), (.int (0 : Int32)), (.ref b48)])) (fun t k => ?_) ?_
      · show Steps p.tables e below (T48.setTop (mkF m 187 #[.val (.int ks), .val (.int len), .val (.int byt), .val (.long tms), .second, .val (.int qb), .val (.int sel), .val (.ref kx), .val (.int (0 : Int32)), .val (.int tt), .val (.int (2 : Int32)), .val (.int (3 : Int32)), .val (.int (byt.toInt8.toInt32)), .val (.int (((byt.toUInt32 >>> ((8 : Int32) &&& 31).toUInt32).toInt32).toInt8.toInt32)), .val (.int (((byt.toUInt32 >>> ((16 : Int32) &&& 31).toUInt32).toInt32).toInt8.toInt32)), .unset, .unset, .unset, .unset, .unset, .unset, .unset, .unset] [(.ref b48)])) _
        refine XS.astore X48.here hx rfl (hb hby at_187) rfl rfl (l' := #[.val (.int ks), .val (.int len), .val (.int byt), .val (.long tms), .second, .val (.int qb), .val (.int sel), .val (.ref kx), .val (.int (0 : Int32)), .val (.int tt), .val (.int (2 : Int32)), .val (.int (3 : Int32)), .val (.int (byt.toInt8.toInt32)), .val (.int (((byt.toUInt32 >>> ((8 : Int32) &&& 31).toUInt32).toInt32).toInt8.toInt32)), .val (.int (((byt.toUInt32 >>> ((16 : Int32) &&& 31).toUInt32).toInt32).toInt8.toInt32)), .val (.ref b48), .unset, .unset, .unset, .unset, .unset, .unset, .unset]) rfl ?_
        refine XS.iload X48.here hx rfl (hb hby at_189) rfl ?_
        refine XS.ifNo X48.here hx rfl (hb hby at_191) rfl ((if0 _ _).trans (tlt (by decide : ((0 : Int32) < (3 : Int32)))).2.2.2) ?_
        refine XS.aload X48.here hx rfl (hb hby at_194) rfl rfl ?_
        refine XS.iconst X48.here hx rfl (hb hby at_196) ?_
        refine XS.iload X48.here hx rfl (hb hby at_197) rfl ?_
        exact k
      obtain ⟨cl49, Ar49, q49, S49, NN49, Hs49, G49⟩ := V_b48
      have hin49 : ¬ ((0 : Int32) < 0 ∨ cl49.slots.size ≤ ((0 : Int32)).toNatClampNeg) := inb_of S49 ⟨by decide, by decide⟩
      obtain ⟨T49, h49, X49, e49, W49, st49⟩ := stB X48 hx hZ e48 Ar49 (j := (0 : Int32)) hin49 (g := (mkF m 199 #[.val (.int ks), .val (.int len), .val (.int byt), .val (.long tms), .second, .val (.int qb), .val (.int sel), .val (.ref kx), .val (.int (0 : Int32)), .val (.int tt), .val (.int (2 : Int32)), .val (.int (3 : Int32)), .val (.int (byt.toInt8.toInt32)), .val (.int (((byt.toUInt32 >>> ((8 : Int32) &&& 31).toUInt32).toInt32).toInt8.toInt32)), .val (.int (((byt.toUInt32 >>> ((16 : Int32) &&& 31).toUInt32).toInt32).toInt8.toInt32)), .val (.ref b48), .unset, .unset, .unset, .unset, .unset, .unset, .unset] [(.int (byt.toInt8.toInt32)), (.int (0 : Int32)), (.ref b48)])) rfl rfl (hb hby at_199)
      have V49 : Arv Z h49 b48 k48 .byte (3 : Int32) [(.int (nar .byte (byt.toInt8.toInt32))), (.int (0 : Int32)), (.int (0 : Int32))] (.int (0 : Int32)) := Arv.set Ar49 q49 S49 NN49 Hs49 G49 (fits_nar_byte _) W49 0 rfl (Nat.le_of_ble_eq_true rfl)
      have N49 := Fr.snoc X49 N0 g_b48
      have K49 : Keep h0 h49 [] := K48.wr W49 (Or.inr sz_b48)
      refine own_stepW st49 ?_
      show own_GoW p e below s _ _ _ (T49.setTop (mkF m 200 #[.val (.int ks), .val (.int len), .val (.int byt), .val (.long tms), .second, .val (.int qb), .val (.int sel), .val (.ref kx), .val (.int (0 : Int32)), .val (.int tt), .val (.int (2 : Int32)), .val (.int (3 : Int32)), .val (.int (byt.toInt8.toInt32)), .val (.int (((byt.toUInt32 >>> ((8 : Int32) &&& 31).toUInt32).toInt32).toInt8.toInt32)), .val (.int (((byt.toUInt32 >>> ((16 : Int32) &&& 31).toUInt32).toInt32).toInt8.toInt32)), .val (.ref b48), .unset, .unset, .unset, .unset, .unset, .unset, .unset] []))
      refine own_stepW (B := T49.setTop (mkF m 211 #[.val (.int ks), .val (.int len), .val (.int byt), .val (.long tms), .second, .val (.int qb), .val (.int sel), .val (.ref kx), .val (.int (0 : Int32)), .val (.int tt), .val (.int (2 : Int32)), .val (.int (3 : Int32)), .val (.int (byt.toInt8.toInt32)), .val (.int (((byt.toUInt32 >>> ((8 : Int32) &&& 31).toUInt32).toInt32).toInt8.toInt32)), .val (.int (((byt.toUInt32 >>> ((16 : Int32) &&& 31).toUInt32).toInt32).toInt8.toInt32)), .val (.ref b48), .unset, .unset, .unset, .unset, .unset, .unset, .unset] [(.int (((byt.toUInt32 >>> ((8 : Int32) &&& 31).toUInt32).toInt32).toInt8.toInt32)), (.int (1 : Int32)), (.ref b48)])) (fun t k => ?_) ?_
      · show Steps p.tables e below (T49.setTop (mkF m 200 #[.val (.int ks), .val (.int len), .val (.int byt), .val (.long tms), .second, .val (.int qb), .val (.int sel), .val (.ref kx), .val (.int (0 : Int32)), .val (.int tt), .val (.int (2 : Int32)), .val (.int (3 : Int32)), .val (.int (byt.toInt8.toInt32)), .val (.int (((byt.toUInt32 >>> ((8 : Int32) &&& 31).toUInt32).toInt32).toInt8.toInt32)), .val (.int (((byt.toUInt32 >>> ((16 : Int32) &&& 31).toUInt32).toInt32).toInt8.toInt32)), .val (.ref b48), .unset, .unset, .unset, .unset, .unset, .unset, .unset] [])) _
        refine XS.iload X49.here hx rfl (hb hby at_200) rfl ?_
        refine XS.iconst X49.here hx rfl (hb hby at_202) ?_
        refine XS.icmpNo X49.here hx rfl (hb hby at_203) rfl (tlt (by decide : ((1 : Int32) < (3 : Int32)))).2.2.2 ?_
        refine XS.aload X49.here hx rfl (hb hby at_206) rfl rfl ?_
        refine XS.iconst X49.here hx rfl (hb hby at_208) ?_
        refine XS.iload X49.here hx rfl (hb hby at_209) rfl ?_
        exact k
      obtain ⟨cl50, Ar50, q50, S50, NN50, Hs50, G50⟩ := V49
      have hin50 : ¬ ((1 : Int32) < 0 ∨ cl50.slots.size ≤ ((1 : Int32)).toNatClampNeg) := inb_of S50 ⟨by decide, by decide⟩
      obtain ⟨T50, h50, X50, e50, W50, st50⟩ := stB X49 hx hZ e49 Ar50 (j := (1 : Int32)) hin50 (g := (mkF m 211 #[.val (.int ks), .val (.int len), .val (.int byt), .val (.long tms), .second, .val (.int qb), .val (.int sel), .val (.ref kx), .val (.int (0 : Int32)), .val (.int tt), .val (.int (2 : Int32)), .val (.int (3 : Int32)), .val (.int (byt.toInt8.toInt32)), .val (.int (((byt.toUInt32 >>> ((8 : Int32) &&& 31).toUInt32).toInt32).toInt8.toInt32)), .val (.int (((byt.toUInt32 >>> ((16 : Int32) &&& 31).toUInt32).toInt32).toInt8.toInt32)), .val (.ref b48), .unset, .unset, .unset, .unset, .unset, .unset, .unset] [(.int (((byt.toUInt32 >>> ((8 : Int32) &&& 31).toUInt32).toInt32).toInt8.toInt32)), (.int (1 : Int32)), (.ref b48)])) rfl rfl (hb hby at_211)
      have V50 : Arv Z h50 b48 k48 .byte (3 : Int32) [(.int (nar .byte (byt.toInt8.toInt32))), (.int (nar .byte (((byt.toUInt32 >>> ((8 : Int32) &&& 31).toUInt32).toInt32).toInt8.toInt32))), (.int (0 : Int32))] (.int (0 : Int32)) := Arv.set Ar50 q50 S50 NN50 Hs50 G50 (fits_nar_byte _) W50 1 rfl (Nat.le_of_ble_eq_true rfl)
      have N50 := Fr.snoc X50 N49 g_b48
      have K50 : Keep h0 h50 [] := K49.wr W50 (Or.inr sz_b48)
      refine own_stepW st50 ?_
      show own_GoW p e below s _ _ _ (T50.setTop (mkF m 212 #[.val (.int ks), .val (.int len), .val (.int byt), .val (.long tms), .second, .val (.int qb), .val (.int sel), .val (.ref kx), .val (.int (0 : Int32)), .val (.int tt), .val (.int (2 : Int32)), .val (.int (3 : Int32)), .val (.int (byt.toInt8.toInt32)), .val (.int (((byt.toUInt32 >>> ((8 : Int32) &&& 31).toUInt32).toInt32).toInt8.toInt32)), .val (.int (((byt.toUInt32 >>> ((16 : Int32) &&& 31).toUInt32).toInt32).toInt8.toInt32)), .val (.ref b48), .unset, .unset, .unset, .unset, .unset, .unset, .unset] []))
      refine own_stepW (B := T50.setTop (mkF m 223 #[.val (.int ks), .val (.int len), .val (.int byt), .val (.long tms), .second, .val (.int qb), .val (.int sel), .val (.ref kx), .val (.int (0 : Int32)), .val (.int tt), .val (.int (2 : Int32)), .val (.int (3 : Int32)), .val (.int (byt.toInt8.toInt32)), .val (.int (((byt.toUInt32 >>> ((8 : Int32) &&& 31).toUInt32).toInt32).toInt8.toInt32)), .val (.int (((byt.toUInt32 >>> ((16 : Int32) &&& 31).toUInt32).toInt32).toInt8.toInt32)), .val (.ref b48), .unset, .unset, .unset, .unset, .unset, .unset, .unset] [(.int (((byt.toUInt32 >>> ((16 : Int32) &&& 31).toUInt32).toInt32).toInt8.toInt32)), (.int (2 : Int32)), (.ref b48)])) (fun t k => ?_) ?_
      · show Steps p.tables e below (T50.setTop (mkF m 212 #[.val (.int ks), .val (.int len), .val (.int byt), .val (.long tms), .second, .val (.int qb), .val (.int sel), .val (.ref kx), .val (.int (0 : Int32)), .val (.int tt), .val (.int (2 : Int32)), .val (.int (3 : Int32)), .val (.int (byt.toInt8.toInt32)), .val (.int (((byt.toUInt32 >>> ((8 : Int32) &&& 31).toUInt32).toInt32).toInt8.toInt32)), .val (.int (((byt.toUInt32 >>> ((16 : Int32) &&& 31).toUInt32).toInt32).toInt8.toInt32)), .val (.ref b48), .unset, .unset, .unset, .unset, .unset, .unset, .unset] [])) _
        refine XS.iload X50.here hx rfl (hb hby at_212) rfl ?_
        refine XS.iconst X50.here hx rfl (hb hby at_214) ?_
        refine XS.icmpNo X50.here hx rfl (hb hby at_215) rfl (tlt (by decide : ((2 : Int32) < (3 : Int32)))).2.2.2 ?_
        refine XS.aload X50.here hx rfl (hb hby at_218) rfl rfl ?_
        refine XS.iconst X50.here hx rfl (hb hby at_220) ?_
        refine XS.iload X50.here hx rfl (hb hby at_221) rfl ?_
        exact k
      obtain ⟨cl51, Ar51, q51, S51, NN51, Hs51, G51⟩ := V50
      have hin51 : ¬ ((2 : Int32) < 0 ∨ cl51.slots.size ≤ ((2 : Int32)).toNatClampNeg) := inb_of S51 ⟨by decide, by decide⟩
      obtain ⟨T51, h51, X51, e51, W51, st51⟩ := stB X50 hx hZ e50 Ar51 (j := (2 : Int32)) hin51 (g := (mkF m 223 #[.val (.int ks), .val (.int len), .val (.int byt), .val (.long tms), .second, .val (.int qb), .val (.int sel), .val (.ref kx), .val (.int (0 : Int32)), .val (.int tt), .val (.int (2 : Int32)), .val (.int (3 : Int32)), .val (.int (byt.toInt8.toInt32)), .val (.int (((byt.toUInt32 >>> ((8 : Int32) &&& 31).toUInt32).toInt32).toInt8.toInt32)), .val (.int (((byt.toUInt32 >>> ((16 : Int32) &&& 31).toUInt32).toInt32).toInt8.toInt32)), .val (.ref b48), .unset, .unset, .unset, .unset, .unset, .unset, .unset] [(.int (((byt.toUInt32 >>> ((16 : Int32) &&& 31).toUInt32).toInt32).toInt8.toInt32)), (.int (2 : Int32)), (.ref b48)])) rfl rfl (hb hby at_223)
      have V51 : Arv Z h51 b48 k48 .byte (3 : Int32) [(.int (nar .byte (byt.toInt8.toInt32))), (.int (nar .byte (((byt.toUInt32 >>> ((8 : Int32) &&& 31).toUInt32).toInt32).toInt8.toInt32))), (.int (nar .byte (((byt.toUInt32 >>> ((16 : Int32) &&& 31).toUInt32).toInt32).toInt8.toInt32)))] (.int (0 : Int32)) := Arv.set Ar51 q51 S51 NN51 Hs51 G51 (fits_nar_byte _) W51 2 rfl (Nat.le_of_ble_eq_true rfl)
      have N51 := Fr.snoc X51 N50 g_b48
      have K51 : Keep h0 h51 [] := K50.wr W51 (Or.inr sz_b48)
      refine own_stepW st51 ?_
      show own_GoW p e below s _ _ _ (T51.setTop (mkF m 224 #[.val (.int ks), .val (.int len), .val (.int byt), .val (.long tms), .second, .val (.int qb), .val (.int sel), .val (.ref kx), .val (.int (0 : Int32)), .val (.int tt), .val (.int (2 : Int32)), .val (.int (3 : Int32)), .val (.int (byt.toInt8.toInt32)), .val (.int (((byt.toUInt32 >>> ((8 : Int32) &&& 31).toUInt32).toInt32).toInt8.toInt32)), .val (.int (((byt.toUInt32 >>> ((16 : Int32) &&& 31).toUInt32).toInt32).toInt8.toInt32)), .val (.ref b48), .unset, .unset, .unset, .unset, .unset, .unset, .unset] []))
      exact cont_cn kx tt sel (3 : Int32) (byt.toInt8.toInt32) (((byt.toUInt32 >>> ((8 : Int32) &&& 31).toUInt32).toInt32).toInt8.toInt32) (((byt.toUInt32 >>> ((16 : Int32) &&& 31).toUInt32).toInt32).toInt8.toInt32) b48 k48 [(.int (nar .byte (byt.toInt8.toInt32))), (.int (nar .byte (((byt.toUInt32 >>> ((8 : Int32) &&& 31).toUInt32).toInt32).toInt8.toInt32))), (.int (nar .byte (((byt.toUInt32 >>> ((16 : Int32) &&& 31).toUInt32).toInt32).toInt8.toInt32)))] _ _ _ Ek Ft Fv Fs htt X51 e51 N51 K51 sz_b48 (((AE48.wr W49).wr W50).wr W51) V51 (by decide) (by decide) (fun _ => congrArg Value.int (own_i8 _)) (fun _ => congrArg Value.int (own_i8 _)) (fun _ => congrArg Value.int (own_i8 _))
  have cont_fn : ∀ (kx : Addr) (tt sel NN c0 c1 c2 : Int32) (vb : Addr) (kv : ClassId) (vs : List Value) (Tc : State) (hc : Heap) (lc : List Loc), (Exa Z h0 kx "com/example/nests/nests/model/Mutation$Kind") → (Fld Z h0 kx "com/example/nests/nests/model/Mutation$Kind" "target" "Lcom/example/nests/nests/model/Mutation$Target;" (.ref tF)) → (Fld Z h0 kx "com/example/nests/nests/model/Mutation$Kind" "takesValue" "Z" (.int (0 : Int32))) → (Fld Z h0 kx "com/example/nests/nests/model/Mutation$Kind" "takesTimestamp" "Z" (.int tt)) → (tt = 0 ∨ tt = 1) → Stand p l e room_1 (s.setVm s.vm) m #[(.int ks), (.int len), (.int byt), (.long tms), (.int qb)] below meth c Tc lc 1 3 → Tc.heap = hc → Fr n0 lc → Keep h0 hc [] → h0.size ≤ vb → Exa Z hc vb "[B" → Arv Z hc vb kv .byte NN vs (.int (0 : Int32)) → NN.toNatClampNeg ≤ 3 → ¬ (NN < 0) → (¬ (NN < (1 : Int32)) → vs.getD 0 (.int (0 : Int32)) = .int c0) → (¬ (NN < (2 : Int32)) → vs.getD 1 (.int (0 : Int32)) = .int c1) → (¬ (NN < (3 : Int32)) → vs.getD 2 (.int (0 : Int32)) = .int c2) → own_GoW p e below s (Q0 Z ks len byt tms qb x0 x1 x2 x3 x4 x5 x6 tC tF tR cs vf h0 n0) room_1.cells room_1.slots (Tc.setTop (mkF m 224 #[.val (.int ks), .val (.int len), .val (.int byt), .val (.long tms), .second, .val (.int qb), .val (.int sel), .val (.ref kx), .val (.int (0 : Int32)), .val (.int tt), .val (.int (1 : Int32)), .val (.int NN), .val (.int c0), .val (.int c1), .val (.int c2), .val (.ref vb), .unset, .unset, .unset, .unset, .unset, .unset, .unset] [])) := by
    intro kx tt sel NN c0 c1 c2 vb kv vs Tc hc lc Ek Ft Fv Fs htt Xc ec Nc Kc szv Ev Vv hN3 hN0 w0 w1 w2
    clear cont_cv tail_cv cont_cn tail_cn
    clear S_SET E_SET Ft_SET Fv_SET Fs_SET S_SET_AT E_SET_AT Ft_SET_AT Fv_SET_AT Fs_SET_AT S_DELETE E_DELETE Ft_DELETE Fv_DELETE Fs_DELETE S_DELETE_AT E_DELETE_AT Ft_DELETE_AT Fv_DELETE_AT Fs_DELETE_AT S_DELETE_UPTO E_DELETE_UPTO Ft_DELETE_UPTO Fv_DELETE_UPTO Fs_DELETE_UPTO S_DELETE_FAMILY E_DELETE_FAMILY Ft_DELETE_FAMILY Fv_DELETE_FAMILY Fs_DELETE_FAMILY S_DELETE_ROW E_DELETE_ROW Ft_DELETE_ROW Fv_DELETE_ROW Fs_DELETE_ROW
    have g_vb : n0 ≤ vb := Nat.le_trans Z0 szv
    refine own_stepW (B := Tc.setTop (mkF m 233 #[.val (.int ks), .val (.int len), .val (.int byt), .val (.long tms), .second, .val (.int qb), .val (.int sel), .val (.ref kx), .val (.int (0 : Int32)), .val (.int tt), .val (.int (1 : Int32)), .val (.int NN), .val (.int c0), .val (.int c1), .val (.int c2), .val (.ref vb), .unset, .unset, .unset, .unset, .unset, .unset, .unset] [])) (fun t k => ?_) ?_
    · show Steps p.tables e below (Tc.setTop (mkF m 224 #[.val (.int ks), .val (.int len), .val (.int byt), .val (.long tms), .second, .val (.int qb), .val (.int sel), .val (.ref kx), .val (.int (0 : Int32)), .val (.int tt), .val (.int (1 : Int32)), .val (.int NN), .val (.int c0), .val (.int c1), .val (.int c2), .val (.ref vb), .unset, .unset, .unset, .unset, .unset, .unset, .unset] [])) _
      refine XS.iload Xc.here hx rfl (hb hby at_224) rfl ?_
      refine XS.ifYes Xc.here hx rfl (pc0 := 226) (pc' := 233) rfl (hb hby at_226) rfl ((if0 _ _).trans (feq (by decide : ¬ ((1 : Int32) = (0 : Int32)))).2) (by decide) (by decide) ?_
      exact k
    obtain ⟨sa52, T52, h52, kn52, sb52, sk52, X52, e52, E52, hS52, hk52, hZ, hown, Es52, Fc52, Fv52, Vs52, la52, lb52, I52, Lt52, st52⟩ := ldcSVL Xc hx hZ hown (hw _ (List.mem_of_getElem? (i := 5) rfl)) wS ec hS0 (Nat.le_trans hk0 Kc.1) (by rw [hh, ← hn0]; exact Nc) hkeep I0 (by decide) hh0 hcw (vs := [(.int (102 : Int32))]) (z := (1 : Int32)) ⟨by decide, by decide⟩ (by decide) rfl (g := (mkF m 233 #[.val (.int ks), .val (.int len), .val (.int byt), .val (.long tms), .second, .val (.int qb), .val (.int sel), .val (.ref kx), .val (.int (0 : Int32)), .val (.int tt), .val (.int (1 : Int32)), .val (.int NN), .val (.int c0), .val (.int c1), .val (.int c2), .val (.ref vb), .unset, .unset, .unset, .unset, .unset, .unset, .unset] [])) rfl (hb hby at_233) (n := 4) (by decide) (by decide) (by decide) (by decide)
    refine own_stepW st52 ?_
    show own_GoW p e below s _ _ _ (T52.setTop (mkF m 235 #[.val (.int ks), .val (.int len), .val (.int byt), .val (.long tms), .second, .val (.int qb), .val (.int sel), .val (.ref kx), .val (.int (0 : Int32)), .val (.int tt), .val (.int (1 : Int32)), .val (.int NN), .val (.int c0), .val (.int c1), .val (.int c2), .val (.ref vb), .unset, .unset, .unset, .unset, .unset, .unset, .unset] [(.ref sa52)]))
    refine own_stepW (B := T52.setTop (mkF m 258 #[.val (.int ks), .val (.int len), .val (.int byt), .val (.long tms), .second, .val (.int qb), .val (.int sel), .val (.ref kx), .val (.int (0 : Int32)), .val (.int tt), .val (.int (1 : Int32)), .val (.int NN), .val (.int c0), .val (.int c1), .val (.int c2), .val (.ref vb), .val (.ref sa52), .val .null, .unset, .unset, .unset, .unset, .unset] [])) (fun t k => ?_) ?_
    · show Steps p.tables e below (T52.setTop (mkF m 235 #[.val (.int ks), .val (.int len), .val (.int byt), .val (.long tms), .second, .val (.int qb), .val (.int sel), .val (.ref kx), .val (.int (0 : Int32)), .val (.int tt), .val (.int (1 : Int32)), .val (.int NN), .val (.int c0), .val (.int c1), .val (.int c2), .val (.ref vb), .unset, .unset, .unset, .unset, .unset, .unset, .unset] [(.ref sa52)])) _
      refine XS.astore X52.here hx rfl (hb hby at_235) rfl rfl (l' := #[.val (.int ks), .val (.int len), .val (.int byt), .val (.long tms), .second, .val (.int qb), .val (.int sel), .val (.ref kx), .val (.int (0 : Int32)), .val (.int tt), .val (.int (1 : Int32)), .val (.int NN), .val (.int c0), .val (.int c1), .val (.int c2), .val (.ref vb), .val (.ref sa52), .unset, .unset, .unset, .unset, .unset, .unset]) rfl ?_
      refine XS.iload X52.here hx rfl (hb hby at_237) rfl ?_
      refine XS.iconst X52.here hx rfl (hb hby at_239) ?_
      refine XS.icmpYes X52.here hx rfl (pc0 := 240) (pc' := 255) rfl (hb hby at_240) rfl (feq (by decide : ¬ ((1 : Int32) = (2 : Int32)))).2 (by decide) (by decide) ?_
      refine XS.aconstNull X52.here hx rfl (hb hby at_255) ?_
      refine XS.astore X52.here hx rfl (hb hby at_256) rfl rfl (l' := #[.val (.int ks), .val (.int len), .val (.int byt), .val (.long tms), .second, .val (.int qb), .val (.int sel), .val (.ref kx), .val (.int (0 : Int32)), .val (.int tt), .val (.int (1 : Int32)), .val (.int NN), .val (.int c0), .val (.int c1), .val (.int c2), .val (.ref vb), .val (.ref sa52), .val .null, .unset, .unset, .unset, .unset, .unset]) rfl ?_
      exact k
    refine own_stepW (B := T52.setTop (mkF m 268 #[.val (.int ks), .val (.int len), .val (.int byt), .val (.long tms), .second, .val (.int qb), .val (.int sel), .val (.ref kx), .val (.int (0 : Int32)), .val (.int tt), .val (.int (1 : Int32)), .val (.int NN), .val (.int c0), .val (.int c1), .val (.int c2), .val (.ref vb), .val (.ref sa52), .val .null, .unset, .unset, .unset, .unset, .unset] [(.long (if tt = (0 : Int32) then (0 : Int64) else tms))])) (fun t k => ?_) ?_
    · show Steps p.tables e below (T52.setTop (mkF m 258 #[.val (.int ks), .val (.int len), .val (.int byt), .val (.long tms), .second, .val (.int qb), .val (.int sel), .val (.ref kx), .val (.int (0 : Int32)), .val (.int tt), .val (.int (1 : Int32)), .val (.int NN), .val (.int c0), .val (.int c1), .val (.int c2), .val (.ref vb), .val (.ref sa52), .val .null, .unset, .unset, .unset, .unset, .unset] [])) _
      refine XS.iload X52.here hx rfl (hb hby at_258) rfl ?_
      by_cases hc260 : tt = (0 : Int32)
      · show Steps p.tables e below (T52.setTop (mkF m 260 #[.val (.int ks), .val (.int len), .val (.int byt), .val (.long tms), .second, .val (.int qb), .val (.int sel), .val (.ref kx), .val (.int (0 : Int32)), .val (.int tt), .val (.int (1 : Int32)), .val (.int NN), .val (.int c0), .val (.int c1), .val (.int c2), .val (.ref vb), .val (.ref sa52), .val .null, .unset, .unset, .unset, .unset, .unset] [(.int tt)])) _
        refine XS.ifYes X52.here hx rfl (pc0 := 260) (pc' := 267) rfl (hb hby at_260) rfl ((if0 _ _).trans (teq hc260).1) (by decide) (by decide) ?_
        show Steps p.tables e below (T52.setTop (mkF m 267 #[.val (.int ks), .val (.int len), .val (.int byt), .val (.long tms), .second, .val (.int qb), .val (.int sel), .val (.ref kx), .val (.int (0 : Int32)), .val (.int tt), .val (.int (1 : Int32)), .val (.int NN), .val (.int c0), .val (.int c1), .val (.int c2), .val (.ref vb), .val (.ref sa52), .val .null, .unset, .unset, .unset, .unset, .unset] [])) _
        refine XS.lconst X52.here hx rfl (hb hby at_267) ?_
        show Steps p.tables e below (T52.setTop (mkF m 268 #[.val (.int ks), .val (.int len), .val (.int byt), .val (.long tms), .second, .val (.int qb), .val (.int sel), .val (.ref kx), .val (.int (0 : Int32)), .val (.int tt), .val (.int (1 : Int32)), .val (.int NN), .val (.int c0), .val (.int c1), .val (.int c2), .val (.ref vb), .val (.ref sa52), .val .null, .unset, .unset, .unset, .unset, .unset] [(.long (0 : Int64))])) _
        have q53 : (if tt = (0 : Int32) then (0 : Int64) else tms) = (0 : Int64) := by simp [hc260]
        rw [q53] at k
        exact k
      · show Steps p.tables e below (T52.setTop (mkF m 260 #[.val (.int ks), .val (.int len), .val (.int byt), .val (.long tms), .second, .val (.int qb), .val (.int sel), .val (.ref kx), .val (.int (0 : Int32)), .val (.int tt), .val (.int (1 : Int32)), .val (.int NN), .val (.int c0), .val (.int c1), .val (.int c2), .val (.ref vb), .val (.ref sa52), .val .null, .unset, .unset, .unset, .unset, .unset] [(.int tt)])) _
        refine XS.ifNo X52.here hx rfl (hb hby at_260) rfl ((if0 _ _).trans (feq hc260).1) ?_
        show Steps p.tables e below (T52.setTop (mkF m 263 #[.val (.int ks), .val (.int len), .val (.int byt), .val (.long tms), .second, .val (.int qb), .val (.int sel), .val (.ref kx), .val (.int (0 : Int32)), .val (.int tt), .val (.int (1 : Int32)), .val (.int NN), .val (.int c0), .val (.int c1), .val (.int c2), .val (.ref vb), .val (.ref sa52), .val .null, .unset, .unset, .unset, .unset, .unset] [])) _
        refine XS.lloadN X52.here hx rfl (hb hby at_263) rfl ?_
        show Steps p.tables e below (T52.setTop (mkF m 264 #[.val (.int ks), .val (.int len), .val (.int byt), .val (.long tms), .second, .val (.int qb), .val (.int sel), .val (.ref kx), .val (.int (0 : Int32)), .val (.int tt), .val (.int (1 : Int32)), .val (.int NN), .val (.int c0), .val (.int c1), .val (.int c2), .val (.ref vb), .val (.ref sa52), .val .null, .unset, .unset, .unset, .unset, .unset] [(.long tms)])) _
        refine XS.goto X52.here hx rfl (pc0 := 264) (pc' := 268) rfl (hb hby at_264) (by decide) (by decide) ?_
        show Steps p.tables e below (T52.setTop (mkF m 268 #[.val (.int ks), .val (.int len), .val (.int byt), .val (.long tms), .second, .val (.int qb), .val (.int sel), .val (.ref kx), .val (.int (0 : Int32)), .val (.int tt), .val (.int (1 : Int32)), .val (.int NN), .val (.int c0), .val (.int c1), .val (.int c2), .val (.ref vb), .val (.ref sa52), .val .null, .unset, .unset, .unset, .unset, .unset] [(.long tms)])) _
        have q54 : (if tt = (0 : Int32) then (0 : Int64) else tms) = tms := by simp [hc260]
        rw [q54] at k
        exact k
    refine own_stepW (B := T52.setTop (mkF m 270 #[.val (.int ks), .val (.int len), .val (.int byt), .val (.long tms), .second, .val (.int qb), .val (.int sel), .val (.ref kx), .val (.int (0 : Int32)), .val (.int tt), .val (.int (1 : Int32)), .val (.int NN), .val (.int c0), .val (.int c1), .val (.int c2), .val (.ref vb), .val (.ref sa52), .val .null, .val (.long (if tt = (0 : Int32) then (0 : Int64) else tms)), .second, .unset, .unset, .unset] [])) (fun t k => ?_) ?_
    · show Steps p.tables e below (T52.setTop (mkF m 268 #[.val (.int ks), .val (.int len), .val (.int byt), .val (.long tms), .second, .val (.int qb), .val (.int sel), .val (.ref kx), .val (.int (0 : Int32)), .val (.int tt), .val (.int (1 : Int32)), .val (.int NN), .val (.int c0), .val (.int c1), .val (.int c2), .val (.ref vb), .val (.ref sa52), .val .null, .unset, .unset, .unset, .unset, .unset] [(.long (if tt = (0 : Int32) then (0 : Int64) else tms))])) _
      refine XS.lstore X52.here hx rfl (hb hby at_268) rfl (l' := #[.val (.int ks), .val (.int len), .val (.int byt), .val (.long tms), .second, .val (.int qb), .val (.int sel), .val (.ref kx), .val (.int (0 : Int32)), .val (.int tt), .val (.int (1 : Int32)), .val (.int NN), .val (.int c0), .val (.int c1), .val (.int c2), .val (.ref vb), .val (.ref sa52), .val .null, .val (.long (if tt = (0 : Int32) then (0 : Int64) else tms)), .second, .unset, .unset, .unset]) rfl ?_
      exact k
    obtain ⟨T55, h55, X55, e55, E55, A55, D55, -, st55⟩ := newO X52 hx hZ hown (hw _ (List.mem_of_getElem? (i := 12) rfl)) (hw _ (List.mem_of_getElem? (i := 13) rfl)) (hw _ (List.mem_of_getElem? (i := 14) rfl)) e52 (g := (mkF m 270 #[.val (.int ks), .val (.int len), .val (.int byt), .val (.long tms), .second, .val (.int qb), .val (.int sel), .val (.ref kx), .val (.int (0 : Int32)), .val (.int tt), .val (.int (1 : Int32)), .val (.int NN), .val (.int c0), .val (.int c1), .val (.int c2), .val (.ref vb), .val (.ref sa52), .val .null, .val (.long (if tt = (0 : Int32) then (0 : Int64) else tms)), .second, .unset, .unset, .unset] [])) rfl (hb hby at_270) (by decide) (by decide)
    obtain ⟨b55, g55⟩ : ∃ z, z = h52.size := ⟨_, rfl⟩
    rw [← g55] at A55 D55 st55
    have g_b55 : n0 ≤ b55 := Nat.le_trans (Nat.le_trans (Nat.le_trans Z0 Kc.1) E52.1) (Nat.le_of_eq g55.symm)
    have ne_kx_b55 : kx ≠ b55 := Nat.ne_of_lt (Nat.lt_of_lt_of_le ((Ek.keep Kc).ext E52).lt (Nat.le_of_eq g55.symm))
    have ne_vb_b55 : vb ≠ b55 := Nat.ne_of_lt (Nat.lt_of_lt_of_le (Ev.ext E52).lt (Nat.le_of_eq g55.symm))
    have ne_sa52_b55 : sa52 ≠ b55 := Nat.ne_of_lt (Nat.lt_of_lt_of_le Es52.lt (Nat.le_of_eq g55.symm))
    have ne_sb52_b55 : sb52 ≠ b55 := Nat.ne_of_lt (Nat.lt_of_lt_of_le Vs52.lt (Nat.le_of_eq g55.symm))
    have F_kind_b55 : Fld Z h55 b55 "com/example/nests/nests/model/Mutation" "kind" "Lcom/example/nests/nests/model/Mutation$Kind;" .null := D55 (Or.inr (hw _ (List.mem_of_getElem? (i := 93) rfl))) (ty := (.object "com/example/nests/nests/model/Mutation$Kind")) (by decide)
    have F_family_b55 : Fld Z h55 b55 "com/example/nests/nests/model/Mutation" "family" "Ljava/lang/String;" .null := D55 (Or.inr (hw _ (List.mem_of_getElem? (i := 95) rfl))) (ty := (.object "java/lang/String")) (by decide)
    have F_qualifier_b55 : Fld Z h55 b55 "com/example/nests/nests/model/Mutation" "qualifier" "[B" .null := D55 (Or.inr (hw _ (List.mem_of_getElem? (i := 106) rfl))) (ty := (.array .byte)) (by decide)
    have F_timestamp_b55 : Fld Z h55 b55 "com/example/nests/nests/model/Mutation" "timestamp" "J" (.long (0 : Int64)) := D55 (Or.inr (hw _ (List.mem_of_getElem? (i := 108) rfl))) (ty := .long) (by decide)
    have F_value_b55 : Fld Z h55 b55 "com/example/nests/nests/model/Mutation" "value" "[B" .null := D55 (Or.inr (hw _ (List.mem_of_getElem? (i := 110) rfl))) (ty := (.array .byte)) (by decide)
    refine own_stepW st55 ?_
    show own_GoW p e below s _ _ _ (T55.setTop (mkF m 273 #[.val (.int ks), .val (.int len), .val (.int byt), .val (.long tms), .second, .val (.int qb), .val (.int sel), .val (.ref kx), .val (.int (0 : Int32)), .val (.int tt), .val (.int (1 : Int32)), .val (.int NN), .val (.int c0), .val (.int c1), .val (.int c2), .val (.ref vb), .val (.ref sa52), .val .null, .val (.long (if tt = (0 : Int32) then (0 : Int64) else tms)), .second, .unset, .unset, .unset] [(.ref b55)]))
    refine own_stepW (B := T55.setTop (mkF m 293 #[.val (.int ks), .val (.int len), .val (.int byt), .val (.long tms), .second, .val (.int qb), .val (.int sel), .val (.ref kx), .val (.int (0 : Int32)), .val (.int tt), .val (.int (1 : Int32)), .val (.int NN), .val (.int c0), .val (.int c1), .val (.int c2), .val (.ref vb), .val (.ref sa52), .val .null, .val (.long (if tt = (0 : Int32) then (0 : Int64) else tms)), .second, .unset, .unset, .unset] [.null, (.long (if tt = (0 : Int32) then (0 : Int64) else tms)), .null, (.ref sa52), (.ref kx), (.ref b55), (.ref b55)])) (fun t k => ?_) ?_
    · show Steps p.tables e below (T55.setTop (mkF m 273 #[.val (.int ks), .val (.int len), .val (.int byt), .val (.long tms), .second, .val (.int qb), .val (.int sel), .val (.ref kx), .val (.int (0 : Int32)), .val (.int tt), .val (.int (1 : Int32)), .val (.int NN), .val (.int c0), .val (.int c1), .val (.int c2), .val (.ref vb), .val (.ref sa52), .val .null, .val (.long (if tt = (0 : Int32) then (0 : Int64) else tms)), .second, .unset, .unset, .unset] [(.ref b55)])) _
      refine XS.dup X55.here hx rfl (hb hby at_273) rfl rfl ?_
      refine XS.aload X55.here hx rfl (hb hby at_274) rfl rfl ?_
      refine XS.aload X55.here hx rfl (hb hby at_276) rfl rfl ?_
      refine XS.aload X55.here hx rfl (hb hby at_278) rfl rfl ?_
      refine XS.lload X55.here hx rfl (hb hby at_280) rfl ?_
      refine XS.iload X55.here hx rfl (hb hby at_282) rfl ?_
      refine XS.ifYes X55.here hx rfl (pc0 := 284) (pc' := 292) rfl (hb hby at_284) rfl ((if0 _ _).trans (teq (by decide : ((0 : Int32) = (0 : Int32)))).1) (by decide) (by decide) ?_
      refine XS.aconstNull X55.here hx rfl (hb hby at_292) ?_
      exact k
    obtain ⟨_, _, ⟨T56, L56, k56, n56⟩, -, X56, hSx56, gx56, ⟨Lc56, hQ56, l56, y56, z56⟩, st56⟩ := X55.specialBackS hx (y := (⟨"com/example/nests/nests/model/Mutation", "<init>", "(Lcom/example/nests/nests/model/Mutation$Kind;Ljava/lang/String;[BJ[B)V"⟩ : MethodName)) rfl hown (mvT hZ (hw _ (List.mem_of_getElem? (i := 15) rfl))) (mvT hZ (hw _ (List.mem_of_getElem? (i := 16) rfl))) (mvT hZ (hw _ (List.mem_of_getElem? (i := 17) rfl))) (by decide) (backOfS (W := 1) (rm1fn l Z a0 hw [] b55 kx sa52 (if tt = (0 : Int32) then (0 : Int64) else tms) _ _ _ _ _ tC tF tR tt cs vf sb52 sk52 h55 n0 (Nat.le_trans (Nat.le_trans (Nat.le_trans Z0 Kc.1) E52.1) E55.1) A55 F_kind_b55 F_family_b55 F_qualifier_b55 F_timestamp_b55 F_value_b55 g_b55 (((Ek.keep Kc).ext E52).ext E55) (((Ft.keep Kc nin0).ext E52).ext E55) (((Fv.keep Kc nin0).ext E52).ext E55) (((Fs.keep Kc nin0).ext E52).ext E55) (((own_staKeep S_R Kc ns0).ext E52).ext E55) (((own_staKeep S_L Kc ns0).ext E52).ext E55) nCR nFR nFC (by rcases htt with z | z; exact Or.inl (if_pos z); exact Or.inr z) (by rcases htt with rfl | rfl <;> rfl) (Es52.ext E55) (Fc52.ext E55) (Fv52.ext E55) (Vs52.ext E55) (((own_staKeep S_C Kc ns0).ext E52).ext E55) hcs (((own_staKeep S_F Kc ns0).ext E52).ext E55) hvf) hZ (hw _ (List.mem_of_getElem? (i := 17) rfl)) (hw _ (List.mem_of_getElem? (i := 14) rfl)) (by decide) (by decide)) (g := (mkF m 293 #[.val (.int ks), .val (.int len), .val (.int byt), .val (.long tms), .second, .val (.int qb), .val (.int sel), .val (.ref kx), .val (.int (0 : Int32)), .val (.int tt), .val (.int (1 : Int32)), .val (.int NN), .val (.int c0), .val (.int c1), .val (.int c2), .val (.ref vb), .val (.ref sa52), .val .null, .val (.long (if tt = (0 : Int32) then (0 : Int64) else tms)), .second, .unset, .unset, .unset] [.null, (.long (if tt = (0 : Int32) then (0 : Int64) else tms)), .null, (.ref sa52), (.ref kx), (.ref b55), (.ref b55)])) rfl (by rw [hml]; rfl) (Steps.refl _) (a := b55) (argsL := [(.ref kx), (.ref sa52), .null, (.long (if tt = (0 : Int32) then (0 : Int64) else tms)), .null]) (rest := [(.ref b55)]) (lenOf pd_21 rfl) rfl (by show 2 * 0 + _ ≤ _; exact Nat.le_of_eq rfl) (hb hby at_293) (fun _ _ => ⟨rfl, e55, (by decide : 4 + 2 ≤ _), (by decide : 16 + 28 ≤ _)⟩)
    dsimp only [Pt.U, Pt.locs, Pt.cells, Pt.slots] at X56 l56 y56 z56 st56 hQ56 hSx56 gx56
    subst l56 y56 z56
    obtain ⟨rfl, N56q, K56, Em56, Fq56, Fv56⟩ := hQ56
    have N56 := Fr.app Nc N56q
    refine own_viaW st56 ?_
    obtain ⟨X56, hS56, hZ, hown⟩ := rebS hS52 (by rw [e55]; exact (Nat.le_trans hk52 E55.1)) X56 hSx56 gx56 hZ hown
    show own_GoW p e below s _ _ _ (T56.setTop (mkF m 296 #[.val (.int ks), .val (.int len), .val (.int byt), .val (.long tms), .second, .val (.int qb), .val (.int sel), .val (.ref kx), .val (.int (0 : Int32)), .val (.int tt), .val (.int (1 : Int32)), .val (.int NN), .val (.int c0), .val (.int c1), .val (.int c2), .val (.ref vb), .val (.ref sa52), .val .null, .val (.long (if tt = (0 : Int32) then (0 : Int64) else tms)), .second, .unset, .unset, .unset] [(.ref b55)]))
    refine own_stepW (B := T56.setTop (mkF m 305 #[.val (.int ks), .val (.int len), .val (.int byt), .val (.long tms), .second, .val (.int qb), .val (.int sel), .val (.ref kx), .val (.int (0 : Int32)), .val (.int tt), .val (.int (1 : Int32)), .val (.int NN), .val (.int c0), .val (.int c1), .val (.int c2), .val (.ref vb), .val (.ref sa52), .val .null, .val (.long (if tt = (0 : Int32) then (0 : Int64) else tms)), .second, .val (.ref b55), .unset, .unset] [(.ref b55)])) (fun t k => ?_) ?_
    · show Steps p.tables e below (T56.setTop (mkF m 296 #[.val (.int ks), .val (.int len), .val (.int byt), .val (.long tms), .second, .val (.int qb), .val (.int sel), .val (.ref kx), .val (.int (0 : Int32)), .val (.int tt), .val (.int (1 : Int32)), .val (.int NN), .val (.int c0), .val (.int c1), .val (.int c2), .val (.ref vb), .val (.ref sa52), .val .null, .val (.long (if tt = (0 : Int32) then (0 : Int64) else tms)), .second, .unset, .unset, .unset] [(.ref b55)])) _
      refine XS.astore X56.here hx rfl (hb hby at_296) rfl rfl (l' := #[.val (.int ks), .val (.int len), .val (.int byt), .val (.long tms), .second, .val (.int qb), .val (.int sel), .val (.ref kx), .val (.int (0 : Int32)), .val (.int tt), .val (.int (1 : Int32)), .val (.int NN), .val (.int c0), .val (.int c1), .val (.int c2), .val (.ref vb), .val (.ref sa52), .val .null, .val (.long (if tt = (0 : Int32) then (0 : Int64) else tms)), .second, .val (.ref b55), .unset, .unset]) rfl ?_
      refine XS.iload X56.here hx rfl (hb hby at_298) rfl ?_
      refine XS.ifNo X56.here hx rfl (hb hby at_300) rfl ((if0 _ _).trans (teq (by decide : ((0 : Int32) = (0 : Int32)))).2) ?_
      refine XS.aload X56.here hx rfl (hb hby at_303) rfl rfl ?_
      exact k
    obtain ⟨cq57, kq57, q57a, q57b, q57c⟩ := isOf hZ rfl Em56
    obtain ⟨_, _, ⟨T57, L57, k57, n57⟩, -, X57, ⟨Lc57, hQ57, l57, y57, z57⟩, st57⟩ := X56.virtualBack hx (y := (⟨"com/example/nests/nests/model/Mutation", "getValue", "()[B"⟩ : MethodName)) (z := (⟨"com/example/nests/nests/model/Mutation", "getValue", "()[B"⟩ : MethodName)) hown (mvT hZ (hw _ (List.mem_of_getElem? (i := 111) rfl))) (mvT hZ (hw _ (List.mem_of_getElem? (i := 112) rfl))) (notFace_of_selects (args := #[]) (mvT hZ (hw _ (List.mem_of_getElem? (i := 114) rfl)))) (mvT hZ (hw _ (List.mem_of_getElem? (i := 114) rfl))) (mvT hZ (hw _ (List.mem_of_getElem? (i := 113) rfl))) (by decide) (backOf (W := 0) (rm16n l Z a0 hw [] b55  T56.heap n0 (Nat.le_trans (Nat.le_trans (Nat.le_trans (Nat.le_trans Z0 Kc.1) E52.1) E55.1) K56.1) Fv56) hZ (hw _ (List.mem_of_getElem? (i := 115) rfl)) (hw _ (List.mem_of_getElem? (i := 14) rfl)) (by decide) (by decide)) q57a q57c (g := (mkF m 305 #[.val (.int ks), .val (.int len), .val (.int byt), .val (.long tms), .second, .val (.int qb), .val (.int sel), .val (.ref kx), .val (.int (0 : Int32)), .val (.int tt), .val (.int (1 : Int32)), .val (.int NN), .val (.int c0), .val (.int c1), .val (.int c2), .val (.ref vb), .val (.ref sa52), .val .null, .val (.long (if tt = (0 : Int32) then (0 : Int64) else tms)), .second, .val (.ref b55), .unset, .unset] [(.ref b55)])) rfl (by rw [hml]; rfl) (Steps.refl _) (argsL := []) (rest := []) (lenOf pd_22 rfl) rfl (by show 2 * 0 + _ ≤ _; exact Nat.le_of_eq rfl) (hb hby at_305) (fun _ _ => ⟨rfl, rfl, (by decide : 6 + 0 ≤ _), (by decide : 44 + 0 ≤ _)⟩)
    dsimp only [Pt.U, Pt.locs, Pt.cells, Pt.slots] at X57 l57 y57 z57 st57 hQ57
    subst l57 y57 z57
    obtain ⟨rfl, N57q, e57⟩ := hQ57
    have N57 := Fr.app N56 N57q
    refine own_viaW st57 ?_
    show own_GoW p e below s _ _ _ (T57.setTop (mkF m 308 #[.val (.int ks), .val (.int len), .val (.int byt), .val (.long tms), .second, .val (.int qb), .val (.int sel), .val (.ref kx), .val (.int (0 : Int32)), .val (.int tt), .val (.int (1 : Int32)), .val (.int NN), .val (.int c0), .val (.int c1), .val (.int c2), .val (.ref vb), .val (.ref sa52), .val .null, .val (.long (if tt = (0 : Int32) then (0 : Int64) else tms)), .second, .val (.ref b55), .unset, .unset] [.null]))
    refine own_stepW (B := T57.setTop (mkF m 316 #[.val (.int ks), .val (.int len), .val (.int byt), .val (.long tms), .second, .val (.int qb), .val (.int sel), .val (.ref kx), .val (.int (0 : Int32)), .val (.int tt), .val (.int (1 : Int32)), .val (.int NN), .val (.int c0), .val (.int c1), .val (.int c2), .val (.ref vb), .val (.ref sa52), .val .null, .val (.long (if tt = (0 : Int32) then (0 : Int64) else tms)), .second, .val (.ref b55), .unset, .unset] [(.int (1 : Int32))])) (fun t k => ?_) ?_
    · show Steps p.tables e below (T57.setTop (mkF m 308 #[.val (.int ks), .val (.int len), .val (.int byt), .val (.long tms), .second, .val (.int qb), .val (.int sel), .val (.ref kx), .val (.int (0 : Int32)), .val (.int tt), .val (.int (1 : Int32)), .val (.int NN), .val (.int c0), .val (.int c1), .val (.int c2), .val (.ref vb), .val (.ref sa52), .val .null, .val (.long (if tt = (0 : Int32) then (0 : Int64) else tms)), .second, .val (.ref b55), .unset, .unset] [.null])) _
      refine XS.ifnonnullNo X57.here hx rfl (hb hby at_308) rfl ?_
      refine XS.iconst X57.here hx rfl (hb hby at_311) ?_
      refine XS.goto X57.here hx rfl (pc0 := 312) (pc' := 316) rfl (hb hby at_312) (by decide) (by decide) ?_
      exact k
    exact own_retNW X57 hS56 (by rw [e57]; exact (Nat.le_refl T56.heap.size)) hx Bd.notSynchronized (t := .boolean) Bd.returns (by simp) (hb hby at_316) ⟨rfl, N57⟩ (by decide) (by decide)
  have tail_fn : ∀ (kx : Addr) (tt sel : Int32) (Tt : State), (Exa Z h0 kx "com/example/nests/nests/model/Mutation$Kind") → (Fld Z h0 kx "com/example/nests/nests/model/Mutation$Kind" "target" "Lcom/example/nests/nests/model/Mutation$Target;" (.ref tF)) → (Fld Z h0 kx "com/example/nests/nests/model/Mutation$Kind" "takesValue" "Z" (.int (0 : Int32))) → (Fld Z h0 kx "com/example/nests/nests/model/Mutation$Kind" "takesTimestamp" "Z" (.int tt)) → (tt = 0 ∨ tt = 1) → Stand p l e room_1 (s.setVm s.vm) m #[(.int ks), (.int len), (.int byt), (.long tms), (.int qb)] below meth c Tt [] 0 0 → Tt.heap = h0 → own_GoW p e below s (Q0 Z ks len byt tms qb x0 x1 x2 x3 x4 x5 x6 tC tF tR cs vf h0 n0) room_1.cells room_1.slots (Tt.setTop (mkF m 160 #[.val (.int ks), .val (.int len), .val (.int byt), .val (.long tms), .second, .val (.int qb), .val (.int sel), .val (.ref kx), .val (.int (0 : Int32)), .val (.int tt), .val (.int (1 : Int32)), .unset, .unset, .unset, .unset, .unset, .unset, .unset, .unset, .unset, .unset, .unset, .unset] [])) := by
    intro kx tt sel Tt Ek Ft Fv Fs htt Xt et
    clear S_SET E_SET Ft_SET Fv_SET Fs_SET S_SET_AT E_SET_AT Ft_SET_AT Fv_SET_AT Fs_SET_AT S_DELETE E_DELETE Ft_DELETE Fv_DELETE Fs_DELETE S_DELETE_AT E_DELETE_AT Ft_DELETE_AT Fv_DELETE_AT Fs_DELETE_AT S_DELETE_UPTO E_DELETE_UPTO Ft_DELETE_UPTO Fv_DELETE_UPTO Fs_DELETE_UPTO S_DELETE_FAMILY E_DELETE_FAMILY Ft_DELETE_FAMILY Fv_DELETE_FAMILY Fs_DELETE_FAMILY S_DELETE_ROW E_DELETE_ROW Ft_DELETE_ROW Fv_DELETE_ROW Fs_DELETE_ROW
    refine own_stepW (B := Tt.setTop (mkF m 183 #[.val (.int ks), .val (.int len), .val (.int byt), .val (.long tms), .second, .val (.int qb), .val (.int sel), .val (.ref kx), .val (.int (0 : Int32)), .val (.int tt), .val (.int (1 : Int32)), .val (.int (len &&& (3 : Int32))), .val (.int (byt.toInt8.toInt32)), .val (.int (((byt.toUInt32 >>> ((8 : Int32) &&& 31).toUInt32).toInt32).toInt8.toInt32)), .val (.int (((byt.toUInt32 >>> ((16 : Int32) &&& 31).toUInt32).toInt32).toInt8.toInt32)), .unset, .unset, .unset, .unset, .unset, .unset, .unset, .unset] [])) (fun t k => ?_) ?_
    · show Steps p.tables e below (Tt.setTop (mkF m 160 #[.val (.int ks), .val (.int len), .val (.int byt), .val (.long tms), .second, .val (.int qb), .val (.int sel), .val (.ref kx), .val (.int (0 : Int32)), .val (.int tt), .val (.int (1 : Int32)), .unset, .unset, .unset, .unset, .unset, .unset, .unset, .unset, .unset, .unset, .unset, .unset] [])) _
      refine XS.iloadN Xt.here hx rfl (hb hby at_160) rfl ?_
      refine XS.iconst Xt.here hx rfl (hb hby at_161) ?_
      refine XS.iand Xt.here hx rfl (hb hby at_162) rfl ?_
      refine XS.istore Xt.here hx rfl (hb hby at_163) rfl (l' := #[.val (.int ks), .val (.int len), .val (.int byt), .val (.long tms), .second, .val (.int qb), .val (.int sel), .val (.ref kx), .val (.int (0 : Int32)), .val (.int tt), .val (.int (1 : Int32)), .val (.int (len &&& (3 : Int32))), .unset, .unset, .unset, .unset, .unset, .unset, .unset, .unset, .unset, .unset, .unset]) rfl ?_
      refine XS.iloadN Xt.here hx rfl (hb hby at_165) rfl ?_
      refine XS.i2b Xt.here hx rfl (hb hby at_166) rfl ?_
      refine XS.istore Xt.here hx rfl (hb hby at_167) rfl (l' := #[.val (.int ks), .val (.int len), .val (.int byt), .val (.long tms), .second, .val (.int qb), .val (.int sel), .val (.ref kx), .val (.int (0 : Int32)), .val (.int tt), .val (.int (1 : Int32)), .val (.int (len &&& (3 : Int32))), .val (.int (byt.toInt8.toInt32)), .unset, .unset, .unset, .unset, .unset, .unset, .unset, .unset, .unset, .unset]) rfl ?_
      refine XS.iloadN Xt.here hx rfl (hb hby at_169) rfl ?_
      refine XS.bipush Xt.here hx rfl (hb hby at_170) ?_
      refine XS.iushr Xt.here hx rfl (hb hby at_172) rfl ?_
      refine XS.i2b Xt.here hx rfl (hb hby at_173) rfl ?_
      refine XS.istore Xt.here hx rfl (hb hby at_174) rfl (l' := #[.val (.int ks), .val (.int len), .val (.int byt), .val (.long tms), .second, .val (.int qb), .val (.int sel), .val (.ref kx), .val (.int (0 : Int32)), .val (.int tt), .val (.int (1 : Int32)), .val (.int (len &&& (3 : Int32))), .val (.int (byt.toInt8.toInt32)), .val (.int (((byt.toUInt32 >>> ((8 : Int32) &&& 31).toUInt32).toInt32).toInt8.toInt32)), .unset, .unset, .unset, .unset, .unset, .unset, .unset, .unset, .unset]) rfl ?_
      refine XS.iloadN Xt.here hx rfl (hb hby at_176) rfl ?_
      refine XS.bipush Xt.here hx rfl (hb hby at_177) ?_
      refine XS.iushr Xt.here hx rfl (hb hby at_179) rfl ?_
      refine XS.i2b Xt.here hx rfl (hb hby at_180) rfl ?_
      refine XS.istore Xt.here hx rfl (hb hby at_181) rfl (l' := #[.val (.int ks), .val (.int len), .val (.int byt), .val (.long tms), .second, .val (.int qb), .val (.int sel), .val (.ref kx), .val (.int (0 : Int32)), .val (.int tt), .val (.int (1 : Int32)), .val (.int (len &&& (3 : Int32))), .val (.int (byt.toInt8.toInt32)), .val (.int (((byt.toUInt32 >>> ((8 : Int32) &&& 31).toUInt32).toInt32).toInt8.toInt32)), .val (.int (((byt.toUInt32 >>> ((16 : Int32) &&& 31).toUInt32).toInt32).toInt8.toInt32)), .unset, .unset, .unset, .unset, .unset, .unset, .unset, .unset]) rfl ?_
      exact k
    rcases own_n3 len with en | en | en | en
    · rw [en]
      have KK0 : Keep h0 h0 [] := Keep.refl h0 _
      refine own_stepW (B := Tt.setTop (mkF m 185 #[.val (.int ks), .val (.int len), .val (.int byt), .val (.long tms), .second, .val (.int qb), .val (.int sel), .val (.ref kx), .val (.int (0 : Int32)), .val (.int tt), .val (.int (1 : Int32)), .val (.int (0 : Int32)), .val (.int (byt.toInt8.toInt32)), .val (.int (((byt.toUInt32 >>> ((8 : Int32) &&& 31).toUInt32).toInt32).toInt8.toInt32)), .val (.int (((byt.toUInt32 >>> ((16 : Int32) &&& 31).toUInt32).toInt32).toInt8.toInt32)), .unset, .unset, .unset, .unset, .unset, .unset, .unset, .unset] [(.int (0 : Int32))])) (fun t k => ?_) ?_
      · show Steps p.tables e below (Tt.setTop (mkF m 183 #[.val (.int ks), .val (.int len), .val (.int byt), .val (.long tms), .second, .val (.int qb), .val (.int sel), .val (.ref kx), .val (.int (0 : Int32)), .val (.int tt), .val (.int (1 : Int32)), .val (.int (0 : Int32)), .val (.int (byt.toInt8.toInt32)), .val (.int (((byt.toUInt32 >>> ((8 : Int32) &&& 31).toUInt32).toInt32).toInt8.toInt32)), .val (.int (((byt.toUInt32 >>> ((16 : Int32) &&& 31).toUInt32).toInt32).toInt8.toInt32)), .unset, .unset, .unset, .unset, .unset, .unset, .unset, .unset] [])) _
        refine XS.iload Xt.here hx rfl (hb hby at_183) rfl ?_
        exact k
      obtain ⟨T58, h58, k58, X58, e58, E58, A58, AE58, st58⟩ := newPE Xt hx hZ (hw _ (List.mem_of_getElem? (i := 4) rfl)) et (g := (mkF m 185 #[.val (.int ks), .val (.int len), .val (.int byt), .val (.long tms), .second, .val (.int qb), .val (.int sel), .val (.ref kx), .val (.int (0 : Int32)), .val (.int tt), .val (.int (1 : Int32)), .val (.int (0 : Int32)), .val (.int (byt.toInt8.toInt32)), .val (.int (((byt.toUInt32 >>> ((8 : Int32) &&& 31).toUInt32).toInt32).toInt8.toInt32)), .val (.int (((byt.toUInt32 >>> ((16 : Int32) &&& 31).toUInt32).toInt32).toInt8.toInt32)), .unset, .unset, .unset, .unset, .unset, .unset, .unset, .unset] [(.int (0 : Int32))])) rfl (hb hby at_185) rfl (by decide) (cap := 3) (by decide) (by decide) (by decide) (by decide) (ad := "[B") rfl
      obtain ⟨b58, g58⟩ : ∃ z, z = h0.size := ⟨_, rfl⟩
      rw [← g58] at A58 AE58 st58
      have g_b58 : n0 ≤ b58 := Nat.le_trans Z0 (Nat.le_of_eq g58.symm)
      have sz_b58 : h0.size ≤ b58 := Nat.le_trans KK0.1 (Nat.le_of_eq g58.symm)
      have V_b58 : Arv Z h58 b58 k58 .byte (0 : Int32) [] (.int (0 : Int32)) := (Arv.new A58 (by decide)).pad (pad_rep [] (.int (0 : Int32)) 0)
      have K58 : Keep h0 h58 [] := KK0.ext E58
      refine own_stepW st58 ?_
      show own_GoW p e below s _ _ _ (T58.setTop (mkF m 187 #[.val (.int ks), .val (.int len), .val (.int byt), .val (.long tms), .second, .val (.int qb), .val (.int sel), .val (.ref kx), .val (.int (0 : Int32)), .val (.int tt), .val (.int (1 : Int32)), .val (.int (0 : Int32)), .val (.int (byt.toInt8.toInt32)), .val (.int (((byt.toUInt32 >>> ((8 : Int32) &&& 31).toUInt32).toInt32).toInt8.toInt32)), .val (.int (((byt.toUInt32 >>> ((16 : Int32) &&& 31).toUInt32).toInt32).toInt8.toInt32)), .unset, .unset, .unset, .unset, .unset, .unset, .unset, .unset] [(.ref b58)]))
      refine own_stepW (B := T58.setTop (mkF m 224 #[.val (.int ks), .val (.int len), .val (.int byt), .val (.long tms), .second, .val (.int qb), .val (.int sel), .val (.ref kx), .val (.int (0 : Int32)), .val (.int tt), .val (.int (1 : Int32)), .val (.int (0 : Int32)), .val (.int (byt.toInt8.toInt32)), .val (.int (((byt.toUInt32 >>> ((8 : Int32) &&& 31).toUInt32).toInt32).toInt8.toInt32)), .val (.int (((byt.toUInt32 >>> ((16 : Int32) &&& 31).toUInt32).toInt32).toInt8.toInt32)), .val (.ref b58), .unset, .unset, .unset, .unset, .unset, .unset, .unset] [])) (fun t k => ?_) ?_
      · show Steps p.tables e below (T58.setTop (mkF m 187 #[.val (.int ks), .val (.int len), .val (.int byt), .val (.long tms), .second, .val (.int qb), .val (.int sel), .val (.ref kx), .val (.int (0 : Int32)), .val (.int tt), .val (.int (1 : Int32)), .val (.int (0 : Int32)), .val (.int (byt.toInt8.toInt32)), .val (.int (((byt.toUInt32 >>> ((8 : Int32) &&& 31).toUInt32).toInt32).toInt8.toInt32)), .val (.int (((byt.toUInt32 >>> ((16 : Int32) &&& 31).toUInt32).toInt32).toInt8.toInt32)), .unset, .unset, .unset, .unset, .unset, .unset, .unset, .unset] [(.ref b58)])) _
        refine XS.astore X58.here hx rfl (hb hby at_187) rfl rfl (l' := #[.val (.int ks), .val (.int len), .val (.int byt), .val (.long tms), .second, .val (.int qb), .val (.int sel), .val (.ref kx), .val (.int (0 : Int32)), .val (.int tt), .val (.int (1 : Int32)), .val (.int (0 : Int32)), .val (.int (byt.toInt8.toInt32)), .val (.int (((byt.toUInt32 >>> ((8 : Int32) &&& 31).toUInt32).toInt32).toInt8.toInt32)), .val (.int (((byt.toUInt32 >>> ((16 : Int32) &&& 31).toUInt32).toInt32).toInt8.toInt32)), .val (.ref b58), .unset, .unset, .unset, .unset, .unset, .unset, .unset]) rfl ?_
        refine XS.iload X58.here hx rfl (hb hby at_189) rfl ?_
        refine XS.ifYes X58.here hx rfl (pc0 := 191) (pc' := 200) rfl (hb hby at_191) rfl ((if0 _ _).trans (flt (by decide : ¬ ((0 : Int32) < (0 : Int32)))).2.2.2) (by decide) (by decide) ?_
        refine XS.iload X58.here hx rfl (hb hby at_200) rfl ?_
        refine XS.iconst X58.here hx rfl (hb hby at_202) ?_
        refine XS.icmpYes X58.here hx rfl (pc0 := 203) (pc' := 212) rfl (hb hby at_203) rfl (flt (by decide : ¬ ((1 : Int32) < (0 : Int32)))).2.2.2 (by decide) (by decide) ?_
        refine XS.iload X58.here hx rfl (hb hby at_212) rfl ?_
        refine XS.iconst X58.here hx rfl (hb hby at_214) ?_
        refine XS.icmpYes X58.here hx rfl (pc0 := 215) (pc' := 224) rfl (hb hby at_215) rfl (flt (by decide : ¬ ((2 : Int32) < (0 : Int32)))).2.2.2 (by decide) (by decide) ?_
        exact k
      exact cont_fn kx tt sel (0 : Int32) (byt.toInt8.toInt32) (((byt.toUInt32 >>> ((8 : Int32) &&& 31).toUInt32).toInt32).toInt8.toInt32) (((byt.toUInt32 >>> ((16 : Int32) &&& 31).toUInt32).toInt32).toInt8.toInt32) b58 k58 [] _ _ _ Ek Ft Fv Fs htt X58 e58 N0 K58 sz_b58 AE58 V_b58 (by decide) (by decide) (fun q => absurd (by decide) q) (fun q => absurd (by decide) q) (fun q => absurd (by decide) q)
    · rw [en]
      have KK0 : Keep h0 h0 [] := Keep.refl h0 _
      refine own_stepW (B := Tt.setTop (mkF m 185 #[.val (.int ks), .val (.int len), .val (.int byt), .val (.long tms), .second, .val (.int qb), .val (.int sel), .val (.ref kx), .val (.int (0 : Int32)), .val (.int tt), .val (.int (1 : Int32)), .val (.int (1 : Int32)), .val (.int (byt.toInt8.toInt32)), .val (.int (((byt.toUInt32 >>> ((8 : Int32) &&& 31).toUInt32).toInt32).toInt8.toInt32)), .val (.int (((byt.toUInt32 >>> ((16 : Int32) &&& 31).toUInt32).toInt32).toInt8.toInt32)), .unset, .unset, .unset, .unset, .unset, .unset, .unset, .unset] [(.int (1 : Int32))])) (fun t k => ?_) ?_
      · show Steps p.tables e below (Tt.setTop (mkF m 183 #[.val (.int ks), .val (.int len), .val (.int byt), .val (.long tms), .second, .val (.int qb), .val (.int sel), .val (.ref kx), .val (.int (0 : Int32)), .val (.int tt), .val (.int (1 : Int32)), .val (.int (1 : Int32)), .val (.int (byt.toInt8.toInt32)), .val (.int (((byt.toUInt32 >>> ((8 : Int32) &&& 31).toUInt32).toInt32).toInt8.toInt32)), .val (.int (((byt.toUInt32 >>> ((16 : Int32) &&& 31).toUInt32).toInt32).toInt8.toInt32)), .unset, .unset, .unset, .unset, .unset, .unset, .unset, .unset] [])) _
        refine XS.iload Xt.here hx rfl (hb hby at_183) rfl ?_
        exact k
      obtain ⟨T59, h59, k59, X59, e59, E59, A59, AE59, st59⟩ := newPE Xt hx hZ (hw _ (List.mem_of_getElem? (i := 4) rfl)) et (g := (mkF m 185 #[.val (.int ks), .val (.int len), .val (.int byt), .val (.long tms), .second, .val (.int qb), .val (.int sel), .val (.ref kx), .val (.int (0 : Int32)), .val (.int tt), .val (.int (1 : Int32)), .val (.int (1 : Int32)), .val (.int (byt.toInt8.toInt32)), .val (.int (((byt.toUInt32 >>> ((8 : Int32) &&& 31).toUInt32).toInt32).toInt8.toInt32)), .val (.int (((byt.toUInt32 >>> ((16 : Int32) &&& 31).toUInt32).toInt32).toInt8.toInt32)), .unset, .unset, .unset, .unset, .unset, .unset, .unset, .unset] [(.int (1 : Int32))])) rfl (hb hby at_185) rfl (by decide) (cap := 3) (by decide) (by decide) (by decide) (by decide) (ad := "[B") rfl
      obtain ⟨b59, g59⟩ : ∃ z, z = h0.size := ⟨_, rfl⟩
      rw [← g59] at A59 AE59 st59
      have g_b59 : n0 ≤ b59 := Nat.le_trans Z0 (Nat.le_of_eq g59.symm)
      have sz_b59 : h0.size ≤ b59 := Nat.le_trans KK0.1 (Nat.le_of_eq g59.symm)
      have V_b59 : Arv Z h59 b59 k59 .byte (1 : Int32) [(.int (0 : Int32))] (.int (0 : Int32)) := (Arv.new A59 (by decide)).pad (pad_rep [] (.int (0 : Int32)) 1)
      have K59 : Keep h0 h59 [] := KK0.ext E59
      refine own_stepW st59 ?_
      show own_GoW p e below s _ _ _ (T59.setTop (mkF m 187 #[.val (.int ks), .val (.int len), .val (.int byt), .val (.long tms), .second, .val (.int qb), .val (.int sel), .val (.ref kx), .val (.int (0 : Int32)), .val (.int tt), .val (.int (1 : Int32)), .val (.int (1 : Int32)), .val (.int (byt.toInt8.toInt32)), .val (.int (((byt.toUInt32 >>> ((8 : Int32) &&& 31).toUInt32).toInt32).toInt8.toInt32)), .val (.int (((byt.toUInt32 >>> ((16 : Int32) &&& 31).toUInt32).toInt32).toInt8.toInt32)), .unset, .unset, .unset, .unset, .unset, .unset, .unset, .unset] [(.ref b59)]))
      refine own_stepW (B := T59.setTop (mkF m 199 #[.val (.int ks), .val (.int len), .val (.int byt), .val (.long tms), .second, .val (.int qb), .val (.int sel), .val (.ref kx), .val (.int (0 : Int32)), .val (.int tt), .val (.int (1 : Int32)), .val (.int (1 : Int32)), .val (.int (byt.toInt8.toInt32)), .val (.int (((byt.toUInt32 >>> ((8 : Int32) &&& 31).toUInt32).toInt32).toInt8.toInt32)), .val (.int (((byt.toUInt32 >>> ((16 : Int32) &&& 31).toUInt32).toInt32).toInt8.toInt32)), .val (.ref b59), .unset, .unset, .unset, .unset, .unset, .unset, .unset] [(.int (byt.toInt8.toInt32)), (.int (0 : Int32)), (.ref b59)])) (fun t k => ?_) ?_
      · show Steps p.tables e below (T59.setTop (mkF m 187 #[.val (.int ks), .val (.int len), .val (.int byt), .val (.long tms), .second, .val (.int qb), .val (.int sel), .val (.ref kx), .val (.int (0 : Int32)), .val (.int tt), .val (.int (1 : Int32)), .val (.int (1 : Int32)), .val (.int (byt.toInt8.toInt32)), .val (.int (((byt.toUInt32 >>> ((8 : Int32) &&& 31).toUInt32).toInt32).toInt8.toInt32)), .val (.int (((byt.toUInt32 >>> ((16 : Int32) &&& 31).toUInt32).toInt32).toInt8.toInt32)), .unset, .unset, .unset, .unset, .unset, .unset, .unset, .unset] [(.ref b59)])) _
        refine XS.astore X59.here hx rfl (hb hby at_187) rfl rfl (l' := #[.val (.int ks), .val (.int len), .val (.int byt), .val (.long tms), .second, .val (.int qb), .val (.int sel), .val (.ref kx), .val (.int (0 : Int32)), .val (.int tt), .val (.int (1 : Int32)), .val (.int (1 : Int32)), .val (.int (byt.toInt8.toInt32)), .val (.int (((byt.toUInt32 >>> ((8 : Int32) &&& 31).toUInt32).toInt32).toInt8.toInt32)), .val (.int (((byt.toUInt32 >>> ((16 : Int32) &&& 31).toUInt32).toInt32).toInt8.toInt32)), .val (.ref b59), .unset, .unset, .unset, .unset, .unset, .unset, .unset]) rfl ?_
        refine XS.iload X59.here hx rfl (hb hby at_189) rfl ?_
        refine XS.ifNo X59.here hx rfl (hb hby at_191) rfl ((if0 _ _).trans (tlt (by decide : ((0 : Int32) < (1 : Int32)))).2.2.2) ?_
        refine XS.aload X59.here hx rfl (hb hby at_194) rfl rfl ?_
        refine XS.iconst X59.here hx rfl (hb hby at_196) ?_
        refine XS.iload X59.here hx rfl (hb hby at_197) rfl ?_
        exact k
      obtain ⟨cl60, Ar60, q60, S60, NN60, Hs60, G60⟩ := V_b59
      have hin60 : ¬ ((0 : Int32) < 0 ∨ cl60.slots.size ≤ ((0 : Int32)).toNatClampNeg) := inb_of S60 ⟨by decide, by decide⟩
      obtain ⟨T60, h60, X60, e60, W60, st60⟩ := stB X59 hx hZ e59 Ar60 (j := (0 : Int32)) hin60 (g := (mkF m 199 #[.val (.int ks), .val (.int len), .val (.int byt), .val (.long tms), .second, .val (.int qb), .val (.int sel), .val (.ref kx), .val (.int (0 : Int32)), .val (.int tt), .val (.int (1 : Int32)), .val (.int (1 : Int32)), .val (.int (byt.toInt8.toInt32)), .val (.int (((byt.toUInt32 >>> ((8 : Int32) &&& 31).toUInt32).toInt32).toInt8.toInt32)), .val (.int (((byt.toUInt32 >>> ((16 : Int32) &&& 31).toUInt32).toInt32).toInt8.toInt32)), .val (.ref b59), .unset, .unset, .unset, .unset, .unset, .unset, .unset] [(.int (byt.toInt8.toInt32)), (.int (0 : Int32)), (.ref b59)])) rfl rfl (hb hby at_199)
      have V60 : Arv Z h60 b59 k59 .byte (1 : Int32) [(.int (nar .byte (byt.toInt8.toInt32)))] (.int (0 : Int32)) := Arv.set Ar60 q60 S60 NN60 Hs60 G60 (fits_nar_byte _) W60 0 rfl (Nat.le_of_ble_eq_true rfl)
      have N60 := Fr.snoc X60 N0 g_b59
      have K60 : Keep h0 h60 [] := K59.wr W60 (Or.inr sz_b59)
      refine own_stepW st60 ?_
      show own_GoW p e below s _ _ _ (T60.setTop (mkF m 200 #[.val (.int ks), .val (.int len), .val (.int byt), .val (.long tms), .second, .val (.int qb), .val (.int sel), .val (.ref kx), .val (.int (0 : Int32)), .val (.int tt), .val (.int (1 : Int32)), .val (.int (1 : Int32)), .val (.int (byt.toInt8.toInt32)), .val (.int (((byt.toUInt32 >>> ((8 : Int32) &&& 31).toUInt32).toInt32).toInt8.toInt32)), .val (.int (((byt.toUInt32 >>> ((16 : Int32) &&& 31).toUInt32).toInt32).toInt8.toInt32)), .val (.ref b59), .unset, .unset, .unset, .unset, .unset, .unset, .unset] []))
      refine own_stepW (B := T60.setTop (mkF m 224 #[.val (.int ks), .val (.int len), .val (.int byt), .val (.long tms), .second, .val (.int qb), .val (.int sel), .val (.ref kx), .val (.int (0 : Int32)), .val (.int tt), .val (.int (1 : Int32)), .val (.int (1 : Int32)), .val (.int (byt.toInt8.toInt32)), .val (.int (((byt.toUInt32 >>> ((8 : Int32) &&& 31).toUInt32).toInt32).toInt8.toInt32)), .val (.int (((byt.toUInt32 >>> ((16 : Int32) &&& 31).toUInt32).toInt32).toInt8.toInt32)), .val (.ref b59), .unset, .unset, .unset, .unset, .unset, .unset, .unset] [])) (fun t k => ?_) ?_
      · show Steps p.tables e below (T60.setTop (mkF m 200 #[.val (.int ks), .val (.int len), .val (.int byt), .val (.long tms), .second, .val (.int qb), .val (.int sel), .val (.ref kx), .val (.int (0 : Int32)), .val (.int tt), .val (.int (1 : Int32)), .val (.int (1 : Int32)), .val (.int (byt.toInt8.toInt32)), .val (.int (((byt.toUInt32 >>> ((8 : Int32) &&& 31).toUInt32).toInt32).toInt8.toInt32)), .val (.int (((byt.toUInt32 >>> ((16 : Int32) &&& 31).toUInt32).toInt32).toInt8.toInt32)), .val (.ref b59), .unset, .unset, .unset, .unset, .unset, .unset, .unset] [])) _
        refine XS.iload X60.here hx rfl (hb hby at_200) rfl ?_
        refine XS.iconst X60.here hx rfl (hb hby at_202) ?_
        refine XS.icmpYes X60.here hx rfl (pc0 := 203) (pc' := 212) rfl (hb hby at_203) rfl (flt (by decide : ¬ ((1 : Int32) < (1 : Int32)))).2.2.2 (by decide) (by decide) ?_
        refine XS.iload X60.here hx rfl (hb hby at_212) rfl ?_
        refine XS.iconst X60.here hx rfl (hb hby at_214) ?_
        refine XS.icmpYes X60.here hx rfl (pc0 := 215) (pc' := 224) rfl (hb hby at_215) rfl (flt (by decide : ¬ ((2 : Int32) < (1 : Int32)))).2.2.2 (by decide) (by decide) ?_
        exact k
      exact cont_fn kx tt sel (1 : Int32) (byt.toInt8.toInt32) (((byt.toUInt32 >>> ((8 : Int32) &&& 31).toUInt32).toInt32).toInt8.toInt32) (((byt.toUInt32 >>> ((16 : Int32) &&& 31).toUInt32).toInt32).toInt8.toInt32) b59 k59 [(.int (nar .byte (byt.toInt8.toInt32)))] _ _ _ Ek Ft Fv Fs htt X60 e60 N60 K60 sz_b59 (AE59.wr W60) V60 (by decide) (by decide) (fun _ => congrArg Value.int (own_i8 _)) (fun q => absurd (by decide) q) (fun q => absurd (by decide) q)
    · rw [en]
      have KK0 : Keep h0 h0 [] := Keep.refl h0 _
      refine own_stepW (B := Tt.setTop (mkF m 185 #[.val (.int ks), .val (.int len), .val (.int byt), .val (.long tms), .second, .val (.int qb), .val (.int sel), .val (.ref kx), .val (.int (0 : Int32)), .val (.int tt), .val (.int (1 : Int32)), .val (.int (2 : Int32)), .val (.int (byt.toInt8.toInt32)), .val (.int (((byt.toUInt32 >>> ((8 : Int32) &&& 31).toUInt32).toInt32).toInt8.toInt32)), .val (.int (((byt.toUInt32 >>> ((16 : Int32) &&& 31).toUInt32).toInt32).toInt8.toInt32)), .unset, .unset, .unset, .unset, .unset, .unset, .unset, .unset] [(.int (2 : Int32))])) (fun t k => ?_) ?_
      · show Steps p.tables e below (Tt.setTop (mkF m 183 #[.val (.int ks), .val (.int len), .val (.int byt), .val (.long tms), .second, .val (.int qb), .val (.int sel), .val (.ref kx), .val (.int (0 : Int32)), .val (.int tt), .val (.int (1 : Int32)), .val (.int (2 : Int32)), .val (.int (byt.toInt8.toInt32)), .val (.int (((byt.toUInt32 >>> ((8 : Int32) &&& 31).toUInt32).toInt32).toInt8.toInt32)), .val (.int (((byt.toUInt32 >>> ((16 : Int32) &&& 31).toUInt32).toInt32).toInt8.toInt32)), .unset, .unset, .unset, .unset, .unset, .unset, .unset, .unset] [])) _
        refine XS.iload Xt.here hx rfl (hb hby at_183) rfl ?_
        exact k
      obtain ⟨T61, h61, k61, X61, e61, E61, A61, AE61, st61⟩ := newPE Xt hx hZ (hw _ (List.mem_of_getElem? (i := 4) rfl)) et (g := (mkF m 185 #[.val (.int ks), .val (.int len), .val (.int byt), .val (.long tms), .second, .val (.int qb), .val (.int sel), .val (.ref kx), .val (.int (0 : Int32)), .val (.int tt), .val (.int (1 : Int32)), .val (.int (2 : Int32)), .val (.int (byt.toInt8.toInt32)), .val (.int (((byt.toUInt32 >>> ((8 : Int32) &&& 31).toUInt32).toInt32).toInt8.toInt32)), .val (.int (((byt.toUInt32 >>> ((16 : Int32) &&& 31).toUInt32).toInt32).toInt8.toInt32)), .unset, .unset, .unset, .unset, .unset, .unset, .unset, .unset] [(.int (2 : Int32))])) rfl (hb hby at_185) rfl (by decide) (cap := 3) (by decide) (by decide) (by decide) (by decide) (ad := "[B") rfl
      obtain ⟨b61, g61⟩ : ∃ z, z = h0.size := ⟨_, rfl⟩
      rw [← g61] at A61 AE61 st61
      have g_b61 : n0 ≤ b61 := Nat.le_trans Z0 (Nat.le_of_eq g61.symm)
      have sz_b61 : h0.size ≤ b61 := Nat.le_trans KK0.1 (Nat.le_of_eq g61.symm)
      have V_b61 : Arv Z h61 b61 k61 .byte (2 : Int32) [(.int (0 : Int32)), (.int (0 : Int32))] (.int (0 : Int32)) := (Arv.new A61 (by decide)).pad (pad_rep [] (.int (0 : Int32)) 2)
      have K61 : Keep h0 h61 [] := KK0.ext E61
      refine own_stepW st61 ?_
      show own_GoW p e below s _ _ _ (T61.setTop (mkF m 187 #[.val (.int ks), .val (.int len), .val (.int byt), .val (.long tms), .second, .val (.int qb), .val (.int sel), .val (.ref kx), .val (.int (0 : Int32)), .val (.int tt), .val (.int (1 : Int32)), .val (.int (2 : Int32)), .val (.int (byt.toInt8.toInt32)), .val (.int (((byt.toUInt32 >>> ((8 : Int32) &&& 31).toUInt32).toInt32).toInt8.toInt32)), .val (.int (((byt.toUInt32 >>> ((16 : Int32) &&& 31).toUInt32).toInt32).toInt8.toInt32)), .unset, .unset, .unset, .unset, .unset, .unset, .unset, .unset] [(.ref b61)]))
      refine own_stepW (B := T61.setTop (mkF m 199 #[.val (.int ks), .val (.int len), .val (.int byt), .val (.long tms), .second, .val (.int qb), .val (.int sel), .val (.ref kx), .val (.int (0 : Int32)), .val (.int tt), .val (.int (1 : Int32)), .val (.int (2 : Int32)), .val (.int (byt.toInt8.toInt32)), .val (.int (((byt.toUInt32 >>> ((8 : Int32) &&& 31).toUInt32).toInt32).toInt8.toInt32)), .val (.int (((byt.toUInt32 >>> ((16 : Int32) &&& 31).toUInt32).toInt32).toInt8.toInt32)), .val (.ref b61), .unset, .unset, .unset, .unset, .unset, .unset, .unset] [(.int (byt.toInt8.toInt32)), (.int (0 : Int32)), (.ref b61)])) (fun t k => ?_) ?_
      · show Steps p.tables e below (T61.setTop (mkF m 187 #[.val (.int ks), .val (.int len), .val (.int byt), .val (.long tms), .second, .val (.int qb), .val (.int sel), .val (.ref kx), .val (.int (0 : Int32)), .val (.int tt), .val (.int (1 : Int32)), .val (.int (2 : Int32)), .val (.int (byt.toInt8.toInt32)), .val (.int (((byt.toUInt32 >>> ((8 : Int32) &&& 31).toUInt32).toInt32).toInt8.toInt32)), .val (.int (((byt.toUInt32 >>> ((16 : Int32) &&& 31).toUInt32).toInt32).toInt8.toInt32)), .unset, .unset, .unset, .unset, .unset, .unset, .unset, .unset] [(.ref b61)])) _
        refine XS.astore X61.here hx rfl (hb hby at_187) rfl rfl (l' := #[.val (.int ks), .val (.int len), .val (.int byt), .val (.long tms), .second, .val (.int qb), .val (.int sel), .val (.ref kx), .val (.int (0 : Int32)), .val (.int tt), .val (.int (1 : Int32)), .val (.int (2 : Int32)), .val (.int (byt.toInt8.toInt32)), .val (.int (((byt.toUInt32 >>> ((8 : Int32) &&& 31).toUInt32).toInt32).toInt8.toInt32)), .val (.int (((byt.toUInt32 >>> ((16 : Int32) &&& 31).toUInt32).toInt32).toInt8.toInt32)), .val (.ref b61), .unset, .unset, .unset, .unset, .unset, .unset, .unset]) rfl ?_
        refine XS.iload X61.here hx rfl (hb hby at_189) rfl ?_
        refine XS.ifNo X61.here hx rfl (hb hby at_191) rfl ((if0 _ _).trans (tlt (by decide : ((0 : Int32) < (2 : Int32)))).2.2.2) ?_
        refine XS.aload X61.here hx rfl (hb hby at_194) rfl rfl ?_
        refine XS.iconst X61.here hx rfl (hb hby at_196) ?_
        refine XS.iload X61.here hx rfl (hb hby at_197) rfl ?_
        exact k
      obtain ⟨cl62, Ar62, q62, S62, NN62, Hs62, G62⟩ := V_b61
      have hin62 : ¬ ((0 : Int32) < 0 ∨ cl62.slots.size ≤ ((0 : Int32)).toNatClampNeg) := inb_of S62 ⟨by decide, by decide⟩
      obtain ⟨T62, h62, X62, e62, W62, st62⟩ := stB X61 hx hZ e61 Ar62 (j := (0 : Int32)) hin62 (g := (mkF m 199 #[.val (.int ks), .val (.int len), .val (.int byt), .val (.long tms), .second, .val (.int qb), .val (.int sel), .val (.ref kx), .val (.int (0 : Int32)), .val (.int tt), .val (.int (1 : Int32)), .val (.int (2 : Int32)), .val (.int (byt.toInt8.toInt32)), .val (.int (((byt.toUInt32 >>> ((8 : Int32) &&& 31).toUInt32).toInt32).toInt8.toInt32)), .val (.int (((byt.toUInt32 >>> ((16 : Int32) &&& 31).toUInt32).toInt32).toInt8.toInt32)), .val (.ref b61), .unset, .unset, .unset, .unset, .unset, .unset, .unset] [(.int (byt.toInt8.toInt32)), (.int (0 : Int32)), (.ref b61)])) rfl rfl (hb hby at_199)
      have V62 : Arv Z h62 b61 k61 .byte (2 : Int32) [(.int (nar .byte (byt.toInt8.toInt32))), (.int (0 : Int32))] (.int (0 : Int32)) := Arv.set Ar62 q62 S62 NN62 Hs62 G62 (fits_nar_byte _) W62 0 rfl (Nat.le_of_ble_eq_true rfl)
      have N62 := Fr.snoc X62 N0 g_b61
      have K62 : Keep h0 h62 [] := K61.wr W62 (Or.inr sz_b61)
      refine own_stepW st62 ?_
      show own_GoW p e below s _ _ _ (T62.setTop (mkF m 200 #[.val (.int ks), .val (.int len), .val (.int byt), .val (.long tms), .second, .val (.int qb), .val (.int sel), .val (.ref kx), .val (.int (0 : Int32)), .val (.int tt), .val (.int (1 : Int32)), .val (.int (2 : Int32)), .val (.int (byt.toInt8.toInt32)), .val (.int (((byt.toUInt32 >>> ((8 : Int32) &&& 31).toUInt32).toInt32).toInt8.toInt32)), .val (.int (((byt.toUInt32 >>> ((16 : Int32) &&& 31).toUInt32).toInt32).toInt8.toInt32)), .val (.ref b61), .unset, .unset, .unset, .unset, .unset, .unset, .unset] []))
      refine own_stepW (B := T62.setTop (mkF m 211 #[.val (.int ks), .val (.int len), .val (.int byt), .val (.long tms), .second, .val (.int qb), .val (.int sel), .val (.ref kx), .val (.int (0 : Int32)), .val (.int tt), .val (.int (1 : Int32)), .val (.int (2 : Int32)), .val (.int (byt.toInt8.toInt32)), .val (.int (((byt.toUInt32 >>> ((8 : Int32) &&& 31).toUInt32).toInt32).toInt8.toInt32)), .val (.int (((byt.toUInt32 >>> ((16 : Int32) &&& 31).toUInt32).toInt32).toInt8.toInt32)), .val (.ref b61), .unset, .unset, .unset, .unset, .unset, .unset, .unset] [(.int (((byt.toUInt32 >>> ((8 : Int32) &&& 31).toUInt32).toInt32).toInt8.toInt32)), (.int (1 : Int32)), (.ref b61)])) (fun t k => ?_) ?_
      · show Steps p.tables e below (T62.setTop (mkF m 200 #[.val (.int ks), .val (.int len), .val (.int byt), .val (.long tms), .second, .val (.int qb), .val (.int sel), .val (.ref kx), .val (.int (0 : Int32)), .val (.int tt), .val (.int (1 : Int32)), .val (.int (2 : Int32)), .val (.int (byt.toInt8.toInt32)), .val (.int (((byt.toUInt32 >>> ((8 : Int32) &&& 31).toUInt32).toInt32).toInt8.toInt32)), .val (.int (((byt.toUInt32 >>> ((16 : Int32) &&& 31).toUInt32).toInt32).toInt8.toInt32)), .val (.ref b61), .unset, .unset, .unset, .unset, .unset, .unset, .unset] [])) _
        refine XS.iload X62.here hx rfl (hb hby at_200) rfl ?_
        refine XS.iconst X62.here hx rfl (hb hby at_202) ?_
        refine XS.icmpNo X62.here hx rfl (hb hby at_203) rfl (tlt (by decide : ((1 : Int32) < (2 : Int32)))).2.2.2 ?_
        refine XS.aload X62.here hx rfl (hb hby at_206) rfl rfl ?_
        refine XS.iconst X62.here hx rfl (hb hby at_208) ?_
        refine XS.iload X62.here hx rfl (hb hby at_209) rfl ?_
        exact k
      obtain ⟨cl63, Ar63, q63, S63, NN63, Hs63, G63⟩ := V62
      have hin63 : ¬ ((1 : Int32) < 0 ∨ cl63.slots.size ≤ ((1 : Int32)).toNatClampNeg) := inb_of S63 ⟨by decide, by decide⟩
      obtain ⟨T63, h63, X63, e63, W63, st63⟩ := stB X62 hx hZ e62 Ar63 (j := (1 : Int32)) hin63 (g := (mkF m 211 #[.val (.int ks), .val (.int len), .val (.int byt), .val (.long tms), .second, .val (.int qb), .val (.int sel), .val (.ref kx), .val (.int (0 : Int32)), .val (.int tt), .val (.int (1 : Int32)), .val (.int (2 : Int32)), .val (.int (byt.toInt8.toInt32)), .val (.int (((byt.toUInt32 >>> ((8 : Int32) &&& 31).toUInt32).toInt32).toInt8.toInt32)), .val (.int (((byt.toUInt32 >>> ((16 : Int32) &&& 31).toUInt32).toInt32).toInt8.toInt32)), .val (.ref b61), .unset, .unset, .unset, .unset, .unset, .unset, .unset] [(.int (((byt.toUInt32 >>> ((8 : Int32) &&& 31).toUInt32).toInt32).toInt8.toInt32)), (.int (1 : Int32)), (.ref b61)])) rfl rfl (hb hby at_211)
      have V63 : Arv Z h63 b61 k61 .byte (2 : Int32) [(.int (nar .byte (byt.toInt8.toInt32))), (.int (nar .byte (((byt.toUInt32 >>> ((8 : Int32) &&& 31).toUInt32).toInt32).toInt8.toInt32)))] (.int (0 : Int32)) := Arv.set Ar63 q63 S63 NN63 Hs63 G63 (fits_nar_byte _) W63 1 rfl (Nat.le_of_ble_eq_true rfl)
      have N63 := Fr.snoc X63 N62 g_b61
      have K63 : Keep h0 h63 [] := K62.wr W63 (Or.inr sz_b61)
      refine own_stepW st63 ?_
      show own_GoW p e below s _ _ _ (T63.setTop (mkF m 212 #[.val (.int ks), .val (.int len), .val (.int byt), .val (.long tms), .second, .val (.int qb), .val (.int sel), .val (.ref kx), .val (.int (0 : Int32)), .val (.int tt), .val (.int (1 : Int32)), .val (.int (2 : Int32)), .val (.int (byt.toInt8.toInt32)), .val (.int (((byt.toUInt32 >>> ((8 : Int32) &&& 31).toUInt32).toInt32).toInt8.toInt32)), .val (.int (((byt.toUInt32 >>> ((16 : Int32) &&& 31).toUInt32).toInt32).toInt8.toInt32)), .val (.ref b61), .unset, .unset, .unset, .unset, .unset, .unset, .unset] []))
      refine own_stepW (B := T63.setTop (mkF m 224 #[.val (.int ks), .val (.int len), .val (.int byt), .val (.long tms), .second, .val (.int qb), .val (.int sel), .val (.ref kx), .val (.int (0 : Int32)), .val (.int tt), .val (.int (1 : Int32)), .val (.int (2 : Int32)), .val (.int (byt.toInt8.toInt32)), .val (.int (((byt.toUInt32 >>> ((8 : Int32) &&& 31).toUInt32).toInt32).toInt8.toInt32)), .val (.int (((byt.toUInt32 >>> ((16 : Int32) &&& 31).toUInt32).toInt32).toInt8.toInt32)), .val (.ref b61), .unset, .unset, .unset, .unset, .unset, .unset, .unset] [])) (fun t k => ?_) ?_
      · show Steps p.tables e below (T63.setTop (mkF m 212 #[.val (.int ks), .val (.int len), .val (.int byt), .val (.long tms), .second, .val (.int qb), .val (.int sel), .val (.ref kx), .val (.int (0 : Int32)), .val (.int tt), .val (.int (1 : Int32)), .val (.int (2 : Int32)), .val (.int (byt.toInt8.toInt32)), .val (.int (((byt.toUInt32 >>> ((8 : Int32) &&& 31).toUInt32).toInt32).toInt8.toInt32)), .val (.int (((byt.toUInt32 >>> ((16 : Int32) &&& 31).toUInt32).toInt32).toInt8.toInt32)), .val (.ref b61), .unset, .unset, .unset, .unset, .unset, .unset, .unset] [])) _
        refine XS.iload X63.here hx rfl (hb hby at_212) rfl ?_
        refine XS.iconst X63.here hx rfl (hb hby at_214) ?_
        refine XS.icmpYes X63.here hx rfl (pc0 := 215) (pc' := 224) rfl (hb hby at_215) rfl (flt (by decide : ¬ ((2 : Int32) < (2 : Int32)))).2.2.2 (by decide) (by decide) ?_
        exact k
      exact cont_fn kx tt sel (2 : Int32) (byt.toInt8.toInt32) (((byt.toUInt32 >>> ((8 : Int32) &&& 31).toUInt32).toInt32).toInt8.toInt32) (((byt.toUInt32 >>> ((16 : Int32) &&& 31).toUInt32).toInt32).toInt8.toInt32) b61 k61 [(.int (nar .byte (byt.toInt8.toInt32))), (.int (nar .byte (((byt.toUInt32 >>> ((8 : Int32) &&& 31).toUInt32).toInt32).toInt8.toInt32)))] _ _ _ Ek Ft Fv Fs htt X63 e63 N63 K63 sz_b61 ((AE61.wr W62).wr W63) V63 (by decide) (by decide) (fun _ => congrArg Value.int (own_i8 _)) (fun _ => congrArg Value.int (own_i8 _)) (fun q => absurd (by decide) q)
    · rw [en]
      have KK0 : Keep h0 h0 [] := Keep.refl h0 _
      refine own_stepW (B := Tt.setTop (mkF m 185 #[.val (.int ks), .val (.int len), .val (.int byt), .val (.long tms), .second, .val (.int qb), .val (.int sel), .val (.ref kx), .val (.int (0 : Int32)), .val (.int tt), .val (.int (1 : Int32)), .val (.int (3 : Int32)), .val (.int (byt.toInt8.toInt32)), .val (.int (((byt.toUInt32 >>> ((8 : Int32) &&& 31).toUInt32).toInt32).toInt8.toInt32)), .val (.int (((byt.toUInt32 >>> ((16 : Int32) &&& 31).toUInt32).toInt32).toInt8.toInt32)), .unset, .unset, .unset, .unset, .unset, .unset, .unset, .unset] [(.int (3 : Int32))])) (fun t k => ?_) ?_
      · show Steps p.tables e below (Tt.setTop (mkF m 183 #[.val (.int ks), .val (.int len), .val (.int byt), .val (.long tms), .second, .val (.int qb), .val (.int sel), .val (.ref kx), .val (.int (0 : Int32)), .val (.int tt), .val (.int (1 : Int32)), .val (.int (3 : Int32)), .val (.int (byt.toInt8.toInt32)), .val (.int (((byt.toUInt32 >>> ((8 : Int32) &&& 31).toUInt32).toInt32).toInt8.toInt32)), .val (.int (((byt.toUInt32 >>> ((16 : Int32) &&& 31).toUInt32).toInt32).toInt8.toInt32)), .unset, .unset, .unset, .unset, .unset, .unset, .unset, .unset] [])) _
        refine XS.iload Xt.here hx rfl (hb hby at_183) rfl ?_
        exact k
      obtain ⟨T64, h64, k64, X64, e64, E64, A64, AE64, st64⟩ := newPE Xt hx hZ (hw _ (List.mem_of_getElem? (i := 4) rfl)) et (g := (mkF m 185 #[.val (.int ks), .val (.int len), .val (.int byt), .val (.long tms), .second, .val (.int qb), .val (.int sel), .val (.ref kx), .val (.int (0 : Int32)), .val (.int tt), .val (.int (1 : Int32)), .val (.int (3 : Int32)), .val (.int (byt.toInt8.toInt32)), .val (.int (((byt.toUInt32 >>> ((8 : Int32) &&& 31).toUInt32).toInt32).toInt8.toInt32)), .val (.int (((byt.toUInt32 >>> ((16 : Int32) &&& 31).toUInt32).toInt32).toInt8.toInt32)), .unset, .unset, .unset, .unset, .unset, .unset, .unset, .unset] [(.int (3 : Int32))])) rfl (hb hby at_185) rfl (by decide) (cap := 3) (by decide) (by decide) (by decide) (by decide) (ad := "[B") rfl
      obtain ⟨b64, g64⟩ : ∃ z, z = h0.size := ⟨_, rfl⟩
      rw [← g64] at A64 AE64 st64
      have g_b64 : n0 ≤ b64 := Nat.le_trans Z0 (Nat.le_of_eq g64.symm)
      have sz_b64 : h0.size ≤ b64 := Nat.le_trans KK0.1 (Nat.le_of_eq g64.symm)
      have V_b64 : Arv Z h64 b64 k64 .byte (3 : Int32) [(.int (0 : Int32)), (.int (0 : Int32)), (.int (0 : Int32))] (.int (0 : Int32)) := (Arv.new A64 (by decide)).pad (pad_rep [] (.int (0 : Int32)) 3)
      have K64 : Keep h0 h64 [] := KK0.ext E64
      refine own_stepW st64 ?_
      show own_GoW p e below s _ _ _ (T64.setTop (mkF m 187 #[.val (.int ks), .val (.int len), .val (.int byt), .val (.long tms), .second, .val (.int qb), .val (.int sel), .val (.ref kx), .val (.int (0 : Int32)), .val (.int tt), .val (.int (1 : Int32)), .val (.int (3 : Int32)), .val (.int (byt.toInt8.toInt32)), .val (.int (((byt.toUInt32 >>> ((8 : Int32) &&& 31).toUInt32).toInt32).toInt8.toInt32)), .val (.int (((byt.toUInt32 >>> ((16 : Int32) &&& 31).toUInt32).toInt32).toInt8.toInt32)), .unset, .unset, .unset, .unset, .unset, .unset, .unset, .unset] [(.ref b64)]))
      refine own_stepW (B := T64.setTop (mkF m 199 #[.val (.int ks), .val (.int len), .val (.int byt), .val (.long tms), .second, .val (.int qb), .val (.int sel), .val (.ref kx), .val (.int (0 : Int32)), .val (.int tt), .val (.int (1 : Int32)), .val (.int (3 : Int32)), .val (.int (byt.toInt8.toInt32)), .val (.int (((byt.toUInt32 >>> ((8 : Int32) &&& 31).toUInt32).toInt32).toInt8.toInt32)), .val (.int (((byt.toUInt32 >>> ((16 : Int32) &&& 31).toUInt32).toInt32).toInt8.toInt32)), .val (.ref b64), .unset, .unset, .unset, .unset, .unset, .unset, .unset] [(.int (byt.toInt8.toInt32)), (.int (0 : Int32)), (.ref b64)])) (fun t k => ?_) ?_
      · show Steps p.tables e below (T64.setTop (mkF m 187 #[.val (.int ks), .val (.int len), .val (.int byt), .val (.long tms), .second, .val (.int qb), .val (.int sel), .val (.ref kx), .val (.int (0 : Int32)), .val (.int tt), .val (.int (1 : Int32)), .val (.int (3 : Int32)), .val (.int (byt.toInt8.toInt32)), .val (.int (((byt.toUInt32 >>> ((8 : Int32) &&& 31).toUInt32).toInt32).toInt8.toInt32)), .val (.int (((byt.toUInt32 >>> ((16 : Int32) &&& 31).toUInt32).toInt32).toInt8.toInt32)), .unset, .unset, .unset, .unset, .unset, .unset, .unset, .unset] [(.ref b64)])) _
        refine XS.astore X64.here hx rfl (hb hby at_187) rfl rfl (l' := #[.val (.int ks), .val (.int len), .val (.int byt), .val (.long tms), .second, .val (.int qb), .val (.int sel), .val (.ref kx), .val (.int (0 : Int32)), .val (.int tt), .val (.int (1 : Int32)), .val (.int (3 : Int32)), .val (.int (byt.toInt8.toInt32)), .val (.int (((byt.toUInt32 >>> ((8 : Int32) &&& 31).toUInt32).toInt32).toInt8.toInt32)), .val (.int (((byt.toUInt32 >>> ((16 : Int32) &&& 31).toUInt32).toInt32).toInt8.toInt32)), .val (.ref b64), .unset, .unset, .unset, .unset, .unset, .unset, .unset]) rfl ?_
        refine XS.iload X64.here hx rfl (hb hby at_189) rfl ?_
        refine XS.ifNo X64.here hx rfl (hb hby at_191) rfl ((if0 _ _).trans (tlt (by decide : ((0 : Int32) < (3 : Int32)))).2.2.2) ?_
        refine XS.aload X64.here hx rfl (hb hby at_194) rfl rfl ?_
        refine XS.iconst X64.here hx rfl (hb hby at_196) ?_
        refine XS.iload X64.here hx rfl (hb hby at_197) rfl ?_
        exact k
      obtain ⟨cl65, Ar65, q65, S65, NN65, Hs65, G65⟩ := V_b64
      have hin65 : ¬ ((0 : Int32) < 0 ∨ cl65.slots.size ≤ ((0 : Int32)).toNatClampNeg) := inb_of S65 ⟨by decide, by decide⟩
      obtain ⟨T65, h65, X65, e65, W65, st65⟩ := stB X64 hx hZ e64 Ar65 (j := (0 : Int32)) hin65 (g := (mkF m 199 #[.val (.int ks), .val (.int len), .val (.int byt), .val (.long tms), .second, .val (.int qb), .val (.int sel), .val (.ref kx), .val (.int (0 : Int32)), .val (.int tt), .val (.int (1 : Int32)), .val (.int (3 : Int32)), .val (.int (byt.toInt8.toInt32)), .val (.int (((byt.toUInt32 >>> ((8 : Int32) &&& 31).toUInt32).toInt32).toInt8.toInt32)), .val (.int (((byt.toUInt32 >>> ((16 : Int32) &&& 31).toUInt32).toInt32).toInt8.toInt32)), .val (.ref b64), .unset, .unset, .unset, .unset, .unset, .unset, .unset] [(.int (byt.toInt8.toInt32)), (.int (0 : Int32)), (.ref b64)])) rfl rfl (hb hby at_199)
      have V65 : Arv Z h65 b64 k64 .byte (3 : Int32) [(.int (nar .byte (byt.toInt8.toInt32))), (.int (0 : Int32)), (.int (0 : Int32))] (.int (0 : Int32)) := Arv.set Ar65 q65 S65 NN65 Hs65 G65 (fits_nar_byte _) W65 0 rfl (Nat.le_of_ble_eq_true rfl)
      have N65 := Fr.snoc X65 N0 g_b64
      have K65 : Keep h0 h65 [] := K64.wr W65 (Or.inr sz_b64)
      refine own_stepW st65 ?_
      show own_GoW p e below s _ _ _ (T65.setTop (mkF m 200 #[.val (.int ks), .val (.int len), .val (.int byt), .val (.long tms), .second, .val (.int qb), .val (.int sel), .val (.ref kx), .val (.int (0 : Int32)), .val (.int tt), .val (.int (1 : Int32)), .val (.int (3 : Int32)), .val (.int (byt.toInt8.toInt32)), .val (.int (((byt.toUInt32 >>> ((8 : Int32) &&& 31).toUInt32).toInt32).toInt8.toInt32)), .val (.int (((byt.toUInt32 >>> ((16 : Int32) &&& 31).toUInt32).toInt32).toInt8.toInt32)), .val (.ref b64), .unset, .unset, .unset, .unset, .unset, .unset, .unset] []))
      refine own_stepW (B := T65.setTop (mkF m 211 #[.val (.int ks), .val (.int len), .val (.int byt), .val (.long tms), .second, .val (.int qb), .val (.int sel), .val (.ref kx), .val (.int (0 : Int32)), .val (.int tt), .val (.int (1 : Int32)), .val (.int (3 : Int32)), .val (.int (byt.toInt8.toInt32)), .val (.int (((byt.toUInt32 >>> ((8 : Int32) &&& 31).toUInt32).toInt32).toInt8.toInt32)), .val (.int (((byt.toUInt32 >>> ((16 : Int32) &&& 31).toUInt32).toInt32).toInt8.toInt32)), .val (.ref b64), .unset, .unset, .unset, .unset, .unset, .unset, .unset] [(.int (((byt.toUInt32 >>> ((8 : Int32) &&& 31).toUInt32).toInt32).toInt8.toInt32)), (.int (1 : Int32)), (.ref b64)])) (fun t k => ?_) ?_
      · show Steps p.tables e below (T65.setTop (mkF m 200 #[.val (.int ks), .val (.int len), .val (.int byt), .val (.long tms), .second, .val (.int qb), .val (.int sel), .val (.ref kx), .val (.int (0 : Int32)), .val (.int tt), .val (.int (1 : Int32)), .val (.int (3 : Int32)), .val (.int (byt.toInt8.toInt32)), .val (.int (((byt.toUInt32 >>> ((8 : Int32) &&& 31).toUInt32).toInt32).toInt8.toInt32)), .val (.int (((byt.toUInt32 >>> ((16 : Int32) &&& 31).toUInt32).toInt32).toInt8.toInt32)), .val (.ref b64), .unset, .unset, .unset, .unset, .unset, .unset, .unset] [])) _
        refine XS.iload X65.here hx rfl (hb hby at_200) rfl ?_
        refine XS.iconst X65.here hx rfl (hb hby at_202) ?_
        refine XS.icmpNo X65.here hx rfl (hb hby at_203) rfl (tlt (by decide : ((1 : Int32) < (3 : Int32)))).2.2.2 ?_
        refine XS.aload X65.here hx rfl (hb hby at_206) rfl rfl ?_
        refine XS.iconst X65.here hx rfl (hb hby at_208) ?_
        refine XS.iload X65.here hx rfl (hb hby at_209) rfl ?_
        exact k
      obtain ⟨cl66, Ar66, q66, S66, NN66, Hs66, G66⟩ := V65
      have hin66 : ¬ ((1 : Int32) < 0 ∨ cl66.slots.size ≤ ((1 : Int32)).toNatClampNeg) := inb_of S66 ⟨by decide, by decide⟩
      obtain ⟨T66, h66, X66, e66, W66, st66⟩ := stB X65 hx hZ e65 Ar66 (j := (1 : Int32)) hin66 (g := (mkF m 211 #[.val (.int ks), .val (.int len), .val (.int byt), .val (.long tms), .second, .val (.int qb), .val (.int sel), .val (.ref kx), .val (.int (0 : Int32)), .val (.int tt), .val (.int (1 : Int32)), .val (.int (3 : Int32)), .val (.int (byt.toInt8.toInt32)), .val (.int (((byt.toUInt32 >>> ((8 : Int32) &&& 31).toUInt32).toInt32).toInt8.toInt32)), .val (.int (((byt.toUInt32 >>> ((16 : Int32) &&& 31).toUInt32).toInt32).toInt8.toInt32)), .val (.ref b64), .unset, .unset, .unset, .unset, .unset, .unset, .unset] [(.int (((byt.toUInt32 >>> ((8 : Int32) &&& 31).toUInt32).toInt32).toInt8.toInt32)), (.int (1 : Int32)), (.ref b64)])) rfl rfl (hb hby at_211)
      have V66 : Arv Z h66 b64 k64 .byte (3 : Int32) [(.int (nar .byte (byt.toInt8.toInt32))), (.int (nar .byte (((byt.toUInt32 >>> ((8 : Int32) &&& 31).toUInt32).toInt32).toInt8.toInt32))), (.int (0 : Int32))] (.int (0 : Int32)) := Arv.set Ar66 q66 S66 NN66 Hs66 G66 (fits_nar_byte _) W66 1 rfl (Nat.le_of_ble_eq_true rfl)
      have N66 := Fr.snoc X66 N65 g_b64
      have K66 : Keep h0 h66 [] := K65.wr W66 (Or.inr sz_b64)
      refine own_stepW st66 ?_
      show own_GoW p e below s _ _ _ (T66.setTop (mkF m 212 #[.val (.int ks), .val (.int len), .val (.int byt), .val (.long tms), .second, .val (.int qb), .val (.int sel), .val (.ref kx), .val (.int (0 : Int32)), .val (.int tt), .val (.int (1 : Int32)), .val (.int (3 : Int32)), .val (.int (byt.toInt8.toInt32)), .val (.int (((byt.toUInt32 >>> ((8 : Int32) &&& 31).toUInt32).toInt32).toInt8.toInt32)), .val (.int (((byt.toUInt32 >>> ((16 : Int32) &&& 31).toUInt32).toInt32).toInt8.toInt32)), .val (.ref b64), .unset, .unset, .unset, .unset, .unset, .unset, .unset] []))
      refine own_stepW (B := T66.setTop (mkF m 223 #[.val (.int ks), .val (.int len), .val (.int byt), .val (.long tms), .second, .val (.int qb), .val (.int sel), .val (.ref kx), .val (.int (0 : Int32)), .val (.int tt), .val (.int (1 : Int32)), .val (.int (3 : Int32)), .val (.int (byt.toInt8.toInt32)), .val (.int (((byt.toUInt32 >>> ((8 : Int32) &&& 31).toUInt32).toInt32).toInt8.toInt32)), .val (.int (((byt.toUInt32 >>> ((16 : Int32) &&& 31).toUInt32).toInt32).toInt8.toInt32)), .val (.ref b64), .unset, .unset, .unset, .unset, .unset, .unset, .unset] [(.int (((byt.toUInt32 >>> ((16 : Int32) &&& 31).toUInt32).toInt32).toInt8.toInt32)), (.int (2 : Int32)), (.ref b64)])) (fun t k => ?_) ?_
      · show Steps p.tables e below (T66.setTop (mkF m 212 #[.val (.int ks), .val (.int len), .val (.int byt), .val (.long tms), .second, .val (.int qb), .val (.int sel), .val (.ref kx), .val (.int (0 : Int32)), .val (.int tt), .val (.int (1 : Int32)), .val (.int (3 : Int32)), .val (.int (byt.toInt8.toInt32)), .val (.int (((byt.toUInt32 >>> ((8 : Int32) &&& 31).toUInt32).toInt32).toInt8.toInt32)), .val (.int (((byt.toUInt32 >>> ((16 : Int32) &&& 31).toUInt32).toInt32).toInt8.toInt32)), .val (.ref b64), .unset, .unset, .unset, .unset, .unset, .unset, .unset] [])) _
        refine XS.iload X66.here hx rfl (hb hby at_212) rfl ?_
        refine XS.iconst X66.here hx rfl (hb hby at_214) ?_
        refine XS.icmpNo X66.here hx rfl (hb hby at_215) rfl (tlt (by decide : ((2 : Int32) < (3 : Int32)))).2.2.2 ?_
        refine XS.aload X66.here hx rfl (hb hby at_218) rfl rfl ?_
        refine XS.iconst X66.here hx rfl (hb hby at_220) ?_
        refine XS.iload X66.here hx rfl (hb hby at_221) rfl ?_
        exact k
      obtain ⟨cl67, Ar67, q67, S67, NN67, Hs67, G67⟩ := V66
      have hin67 : ¬ ((2 : Int32) < 0 ∨ cl67.slots.size ≤ ((2 : Int32)).toNatClampNeg) := inb_of S67 ⟨by decide, by decide⟩
      obtain ⟨T67, h67, X67, e67, W67, st67⟩ := stB X66 hx hZ e66 Ar67 (j := (2 : Int32)) hin67 (g := (mkF m 223 #[.val (.int ks), .val (.int len), .val (.int byt), .val (.long tms), .second, .val (.int qb), .val (.int sel), .val (.ref kx), .val (.int (0 : Int32)), .val (.int tt), .val (.int (1 : Int32)), .val (.int (3 : Int32)), .val (.int (byt.toInt8.toInt32)), .val (.int (((byt.toUInt32 >>> ((8 : Int32) &&& 31).toUInt32).toInt32).toInt8.toInt32)), .val (.int (((byt.toUInt32 >>> ((16 : Int32) &&& 31).toUInt32).toInt32).toInt8.toInt32)), .val (.ref b64), .unset, .unset, .unset, .unset, .unset, .unset, .unset] [(.int (((byt.toUInt32 >>> ((16 : Int32) &&& 31).toUInt32).toInt32).toInt8.toInt32)), (.int (2 : Int32)), (.ref b64)])) rfl rfl (hb hby at_223)
      have V67 : Arv Z h67 b64 k64 .byte (3 : Int32) [(.int (nar .byte (byt.toInt8.toInt32))), (.int (nar .byte (((byt.toUInt32 >>> ((8 : Int32) &&& 31).toUInt32).toInt32).toInt8.toInt32))), (.int (nar .byte (((byt.toUInt32 >>> ((16 : Int32) &&& 31).toUInt32).toInt32).toInt8.toInt32)))] (.int (0 : Int32)) := Arv.set Ar67 q67 S67 NN67 Hs67 G67 (fits_nar_byte _) W67 2 rfl (Nat.le_of_ble_eq_true rfl)
      have N67 := Fr.snoc X67 N66 g_b64
      have K67 : Keep h0 h67 [] := K66.wr W67 (Or.inr sz_b64)
      refine own_stepW st67 ?_
      show own_GoW p e below s _ _ _ (T67.setTop (mkF m 224 #[.val (.int ks), .val (.int len), .val (.int byt), .val (.long tms), .second, .val (.int qb), .val (.int sel), .val (.ref kx), .val (.int (0 : Int32)), .val (.int tt), .val (.int (1 : Int32)), .val (.int (3 : Int32)), .val (.int (byt.toInt8.toInt32)), .val (.int (((byt.toUInt32 >>> ((8 : Int32) &&& 31).toUInt32).toInt32).toInt8.toInt32)), .val (.int (((byt.toUInt32 >>> ((16 : Int32) &&& 31).toUInt32).toInt32).toInt8.toInt32)), .val (.ref b64), .unset, .unset, .unset, .unset, .unset, .unset, .unset] []))
      exact cont_fn kx tt sel (3 : Int32) (byt.toInt8.toInt32) (((byt.toUInt32 >>> ((8 : Int32) &&& 31).toUInt32).toInt32).toInt8.toInt32) (((byt.toUInt32 >>> ((16 : Int32) &&& 31).toUInt32).toInt32).toInt8.toInt32) b64 k64 [(.int (nar .byte (byt.toInt8.toInt32))), (.int (nar .byte (((byt.toUInt32 >>> ((8 : Int32) &&& 31).toUInt32).toInt32).toInt8.toInt32))), (.int (nar .byte (((byt.toUInt32 >>> ((16 : Int32) &&& 31).toUInt32).toInt32).toInt8.toInt32)))] _ _ _ Ek Ft Fv Fs htt X67 e67 N67 K67 sz_b64 (((AE64.wr W65).wr W66).wr W67) V67 (by decide) (by decide) (fun _ => congrArg Value.int (own_i8 _)) (fun _ => congrArg Value.int (own_i8 _)) (fun _ => congrArg Value.int (own_i8 _))
  have cont_rn : ∀ (kx : Addr) (tt sel NN c0 c1 c2 : Int32) (vb : Addr) (kv : ClassId) (vs : List Value) (Tc : State) (hc : Heap) (lc : List Loc), (Exa Z h0 kx "com/example/nests/nests/model/Mutation$Kind") → (Fld Z h0 kx "com/example/nests/nests/model/Mutation$Kind" "target" "Lcom/example/nests/nests/model/Mutation$Target;" (.ref tR)) → (Fld Z h0 kx "com/example/nests/nests/model/Mutation$Kind" "takesValue" "Z" (.int (0 : Int32))) → (Fld Z h0 kx "com/example/nests/nests/model/Mutation$Kind" "takesTimestamp" "Z" (.int tt)) → (tt = 0 ∨ tt = 1) → Stand p l e room_1 (s.setVm s.vm) m #[(.int ks), (.int len), (.int byt), (.long tms), (.int qb)] below meth c Tc lc 1 3 → Tc.heap = hc → Fr n0 lc → Keep h0 hc [] → h0.size ≤ vb → Exa Z hc vb "[B" → Arv Z hc vb kv .byte NN vs (.int (0 : Int32)) → NN.toNatClampNeg ≤ 3 → ¬ (NN < 0) → (¬ (NN < (1 : Int32)) → vs.getD 0 (.int (0 : Int32)) = .int c0) → (¬ (NN < (2 : Int32)) → vs.getD 1 (.int (0 : Int32)) = .int c1) → (¬ (NN < (3 : Int32)) → vs.getD 2 (.int (0 : Int32)) = .int c2) → own_GoW p e below s (Q0 Z ks len byt tms qb x0 x1 x2 x3 x4 x5 x6 tC tF tR cs vf h0 n0) room_1.cells room_1.slots (Tc.setTop (mkF m 224 #[.val (.int ks), .val (.int len), .val (.int byt), .val (.long tms), .second, .val (.int qb), .val (.int sel), .val (.ref kx), .val (.int (0 : Int32)), .val (.int tt), .val (.int (0 : Int32)), .val (.int NN), .val (.int c0), .val (.int c1), .val (.int c2), .val (.ref vb), .unset, .unset, .unset, .unset, .unset, .unset, .unset] [])) := by
    intro kx tt sel NN c0 c1 c2 vb kv vs Tc hc lc Ek Ft Fv Fs htt Xc ec Nc Kc szv Ev Vv hN3 hN0 w0 w1 w2
    clear cont_cv tail_cv cont_cn tail_cn cont_fn tail_fn
    clear S_SET E_SET Ft_SET Fv_SET Fs_SET S_SET_AT E_SET_AT Ft_SET_AT Fv_SET_AT Fs_SET_AT S_DELETE E_DELETE Ft_DELETE Fv_DELETE Fs_DELETE S_DELETE_AT E_DELETE_AT Ft_DELETE_AT Fv_DELETE_AT Fs_DELETE_AT S_DELETE_UPTO E_DELETE_UPTO Ft_DELETE_UPTO Fv_DELETE_UPTO Fs_DELETE_UPTO S_DELETE_FAMILY E_DELETE_FAMILY Ft_DELETE_FAMILY Fv_DELETE_FAMILY Fs_DELETE_FAMILY S_DELETE_ROW E_DELETE_ROW Ft_DELETE_ROW Fv_DELETE_ROW Fs_DELETE_ROW
    have g_vb : n0 ≤ vb := Nat.le_trans Z0 szv
    refine own_stepW (B := Tc.setTop (mkF m 258 #[.val (.int ks), .val (.int len), .val (.int byt), .val (.long tms), .second, .val (.int qb), .val (.int sel), .val (.ref kx), .val (.int (0 : Int32)), .val (.int tt), .val (.int (0 : Int32)), .val (.int NN), .val (.int c0), .val (.int c1), .val (.int c2), .val (.ref vb), .val .null, .val .null, .unset, .unset, .unset, .unset, .unset] [])) (fun t k => ?_) ?_
    · show Steps p.tables e below (Tc.setTop (mkF m 224 #[.val (.int ks), .val (.int len), .val (.int byt), .val (.long tms), .second, .val (.int qb), .val (.int sel), .val (.ref kx), .val (.int (0 : Int32)), .val (.int tt), .val (.int (0 : Int32)), .val (.int NN), .val (.int c0), .val (.int c1), .val (.int c2), .val (.ref vb), .unset, .unset, .unset, .unset, .unset, .unset, .unset] [])) _
      refine XS.iload Xc.here hx rfl (hb hby at_224) rfl ?_
      refine XS.ifNo Xc.here hx rfl (hb hby at_226) rfl ((if0 _ _).trans (teq (by decide : ((0 : Int32) = (0 : Int32)))).2) ?_
      refine XS.aconstNull Xc.here hx rfl (hb hby at_229) ?_
      refine XS.goto Xc.here hx rfl (pc0 := 230) (pc' := 235) rfl (hb hby at_230) (by decide) (by decide) ?_
      refine XS.astore Xc.here hx rfl (hb hby at_235) rfl rfl (l' := #[.val (.int ks), .val (.int len), .val (.int byt), .val (.long tms), .second, .val (.int qb), .val (.int sel), .val (.ref kx), .val (.int (0 : Int32)), .val (.int tt), .val (.int (0 : Int32)), .val (.int NN), .val (.int c0), .val (.int c1), .val (.int c2), .val (.ref vb), .val .null, .unset, .unset, .unset, .unset, .unset, .unset]) rfl ?_
      refine XS.iload Xc.here hx rfl (hb hby at_237) rfl ?_
      refine XS.iconst Xc.here hx rfl (hb hby at_239) ?_
      refine XS.icmpYes Xc.here hx rfl (pc0 := 240) (pc' := 255) rfl (hb hby at_240) rfl (feq (by decide : ¬ ((0 : Int32) = (2 : Int32)))).2 (by decide) (by decide) ?_
      refine XS.aconstNull Xc.here hx rfl (hb hby at_255) ?_
      refine XS.astore Xc.here hx rfl (hb hby at_256) rfl rfl (l' := #[.val (.int ks), .val (.int len), .val (.int byt), .val (.long tms), .second, .val (.int qb), .val (.int sel), .val (.ref kx), .val (.int (0 : Int32)), .val (.int tt), .val (.int (0 : Int32)), .val (.int NN), .val (.int c0), .val (.int c1), .val (.int c2), .val (.ref vb), .val .null, .val .null, .unset, .unset, .unset, .unset, .unset]) rfl ?_
      exact k
    refine own_stepW (B := Tc.setTop (mkF m 268 #[.val (.int ks), .val (.int len), .val (.int byt), .val (.long tms), .second, .val (.int qb), .val (.int sel), .val (.ref kx), .val (.int (0 : Int32)), .val (.int tt), .val (.int (0 : Int32)), .val (.int NN), .val (.int c0), .val (.int c1), .val (.int c2), .val (.ref vb), .val .null, .val .null, .unset, .unset, .unset, .unset, .unset] [(.long (if tt = (0 : Int32) then (0 : Int64) else tms))])) (fun t k => ?_) ?_
    · show Steps p.tables e below (Tc.setTop (mkF m 258 #[.val (.int ks), .val (.int len), .val (.int byt), .val (.long tms), .second, .val (.int qb), .val (.int sel), .val (.ref kx), .val (.int (0 : Int32)), .val (.int tt), .val (.int (0 : Int32)), .val (.int NN), .val (.int c0), .val (.int c1), .val (.int c2), .val (.ref vb), .val .null, .val .null, .unset, .unset, .unset, .unset, .unset] [])) _
      refine XS.iload Xc.here hx rfl (hb hby at_258) rfl ?_
      by_cases hc260 : tt = (0 : Int32)
      · show Steps p.tables e below (Tc.setTop (mkF m 260 #[.val (.int ks), .val (.int len), .val (.int byt), .val (.long tms), .second, .val (.int qb), .val (.int sel), .val (.ref kx), .val (.int (0 : Int32)), .val (.int tt), .val (.int (0 : Int32)), .val (.int NN), .val (.int c0), .val (.int c1), .val (.int c2), .val (.ref vb), .val .null, .val .null, .unset, .unset, .unset, .unset, .unset] [(.int tt)])) _
        refine XS.ifYes Xc.here hx rfl (pc0 := 260) (pc' := 267) rfl (hb hby at_260) rfl ((if0 _ _).trans (teq hc260).1) (by decide) (by decide) ?_
        show Steps p.tables e below (Tc.setTop (mkF m 267 #[.val (.int ks), .val (.int len), .val (.int byt), .val (.long tms), .second, .val (.int qb), .val (.int sel), .val (.ref kx), .val (.int (0 : Int32)), .val (.int tt), .val (.int (0 : Int32)), .val (.int NN), .val (.int c0), .val (.int c1), .val (.int c2), .val (.ref vb), .val .null, .val .null, .unset, .unset, .unset, .unset, .unset] [])) _
        refine XS.lconst Xc.here hx rfl (hb hby at_267) ?_
        show Steps p.tables e below (Tc.setTop (mkF m 268 #[.val (.int ks), .val (.int len), .val (.int byt), .val (.long tms), .second, .val (.int qb), .val (.int sel), .val (.ref kx), .val (.int (0 : Int32)), .val (.int tt), .val (.int (0 : Int32)), .val (.int NN), .val (.int c0), .val (.int c1), .val (.int c2), .val (.ref vb), .val .null, .val .null, .unset, .unset, .unset, .unset, .unset] [(.long (0 : Int64))])) _
        have q68 : (if tt = (0 : Int32) then (0 : Int64) else tms) = (0 : Int64) := by simp [hc260]
        rw [q68] at k
        exact k
      · show Steps p.tables e below (Tc.setTop (mkF m 260 #[.val (.int ks), .val (.int len), .val (.int byt), .val (.long tms), .second, .val (.int qb), .val (.int sel), .val (.ref kx), .val (.int (0 : Int32)), .val (.int tt), .val (.int (0 : Int32)), .val (.int NN), .val (.int c0), .val (.int c1), .val (.int c2), .val (.ref vb), .val .null, .val .null, .unset, .unset, .unset, .unset, .unset] [(.int tt)])) _
        refine XS.ifNo Xc.here hx rfl (hb hby at_260) rfl ((if0 _ _).trans (feq hc260).1) ?_
        show Steps p.tables e below (Tc.setTop (mkF m 263 #[.val (.int ks), .val (.int len), .val (.int byt), .val (.long tms), .second, .val (.int qb), .val (.int sel), .val (.ref kx), .val (.int (0 : Int32)), .val (.int tt), .val (.int (0 : Int32)), .val (.int NN), .val (.int c0), .val (.int c1), .val (.int c2), .val (.ref vb), .val .null, .val .null, .unset, .unset, .unset, .unset, .unset] [])) _
        refine XS.lloadN Xc.here hx rfl (hb hby at_263) rfl ?_
        show Steps p.tables e below (Tc.setTop (mkF m 264 #[.val (.int ks), .val (.int len), .val (.int byt), .val (.long tms), .second, .val (.int qb), .val (.int sel), .val (.ref kx), .val (.int (0 : Int32)), .val (.int tt), .val (.int (0 : Int32)), .val (.int NN), .val (.int c0), .val (.int c1), .val (.int c2), .val (.ref vb), .val .null, .val .null, .unset, .unset, .unset, .unset, .unset] [(.long tms)])) _
        refine XS.goto Xc.here hx rfl (pc0 := 264) (pc' := 268) rfl (hb hby at_264) (by decide) (by decide) ?_
        show Steps p.tables e below (Tc.setTop (mkF m 268 #[.val (.int ks), .val (.int len), .val (.int byt), .val (.long tms), .second, .val (.int qb), .val (.int sel), .val (.ref kx), .val (.int (0 : Int32)), .val (.int tt), .val (.int (0 : Int32)), .val (.int NN), .val (.int c0), .val (.int c1), .val (.int c2), .val (.ref vb), .val .null, .val .null, .unset, .unset, .unset, .unset, .unset] [(.long tms)])) _
        have q69 : (if tt = (0 : Int32) then (0 : Int64) else tms) = tms := by simp [hc260]
        rw [q69] at k
        exact k
    refine own_stepW (B := Tc.setTop (mkF m 270 #[.val (.int ks), .val (.int len), .val (.int byt), .val (.long tms), .second, .val (.int qb), .val (.int sel), .val (.ref kx), .val (.int (0 : Int32)), .val (.int tt), .val (.int (0 : Int32)), .val (.int NN), .val (.int c0), .val (.int c1), .val (.int c2), .val (.ref vb), .val .null, .val .null, .val (.long (if tt = (0 : Int32) then (0 : Int64) else tms)), .second, .unset, .unset, .unset] [])) (fun t k => ?_) ?_
    · show Steps p.tables e below (Tc.setTop (mkF m 268 #[.val (.int ks), .val (.int len), .val (.int byt), .val (.long tms), .second, .val (.int qb), .val (.int sel), .val (.ref kx), .val (.int (0 : Int32)), .val (.int tt), .val (.int (0 : Int32)), .val (.int NN), .val (.int c0), .val (.int c1), .val (.int c2), .val (.ref vb), .val .null, .val .null, .unset, .unset, .unset, .unset, .unset] [(.long (if tt = (0 : Int32) then (0 : Int64) else tms))])) _
      refine XS.lstore Xc.here hx rfl (hb hby at_268) rfl (l' := #[.val (.int ks), .val (.int len), .val (.int byt), .val (.long tms), .second, .val (.int qb), .val (.int sel), .val (.ref kx), .val (.int (0 : Int32)), .val (.int tt), .val (.int (0 : Int32)), .val (.int NN), .val (.int c0), .val (.int c1), .val (.int c2), .val (.ref vb), .val .null, .val .null, .val (.long (if tt = (0 : Int32) then (0 : Int64) else tms)), .second, .unset, .unset, .unset]) rfl ?_
      exact k
    obtain ⟨T70, h70, X70, e70, E70, A70, D70, -, st70⟩ := newO Xc hx hZ hown (hw _ (List.mem_of_getElem? (i := 12) rfl)) (hw _ (List.mem_of_getElem? (i := 13) rfl)) (hw _ (List.mem_of_getElem? (i := 14) rfl)) ec (g := (mkF m 270 #[.val (.int ks), .val (.int len), .val (.int byt), .val (.long tms), .second, .val (.int qb), .val (.int sel), .val (.ref kx), .val (.int (0 : Int32)), .val (.int tt), .val (.int (0 : Int32)), .val (.int NN), .val (.int c0), .val (.int c1), .val (.int c2), .val (.ref vb), .val .null, .val .null, .val (.long (if tt = (0 : Int32) then (0 : Int64) else tms)), .second, .unset, .unset, .unset] [])) rfl (hb hby at_270) (by decide) (by decide)
    obtain ⟨b70, g70⟩ : ∃ z, z = hc.size := ⟨_, rfl⟩
    rw [← g70] at A70 D70 st70
    have g_b70 : n0 ≤ b70 := Nat.le_trans (Nat.le_trans Z0 Kc.1) (Nat.le_of_eq g70.symm)
    have ne_kx_b70 : kx ≠ b70 := Nat.ne_of_lt (Nat.lt_of_lt_of_le (Ek.keep Kc).lt (Nat.le_of_eq g70.symm))
    have ne_vb_b70 : vb ≠ b70 := Nat.ne_of_lt (Nat.lt_of_lt_of_le Ev.lt (Nat.le_of_eq g70.symm))
    have F_kind_b70 : Fld Z h70 b70 "com/example/nests/nests/model/Mutation" "kind" "Lcom/example/nests/nests/model/Mutation$Kind;" .null := D70 (Or.inr (hw _ (List.mem_of_getElem? (i := 93) rfl))) (ty := (.object "com/example/nests/nests/model/Mutation$Kind")) (by decide)
    have F_family_b70 : Fld Z h70 b70 "com/example/nests/nests/model/Mutation" "family" "Ljava/lang/String;" .null := D70 (Or.inr (hw _ (List.mem_of_getElem? (i := 95) rfl))) (ty := (.object "java/lang/String")) (by decide)
    have F_qualifier_b70 : Fld Z h70 b70 "com/example/nests/nests/model/Mutation" "qualifier" "[B" .null := D70 (Or.inr (hw _ (List.mem_of_getElem? (i := 106) rfl))) (ty := (.array .byte)) (by decide)
    have F_timestamp_b70 : Fld Z h70 b70 "com/example/nests/nests/model/Mutation" "timestamp" "J" (.long (0 : Int64)) := D70 (Or.inr (hw _ (List.mem_of_getElem? (i := 108) rfl))) (ty := .long) (by decide)
    have F_value_b70 : Fld Z h70 b70 "com/example/nests/nests/model/Mutation" "value" "[B" .null := D70 (Or.inr (hw _ (List.mem_of_getElem? (i := 110) rfl))) (ty := (.array .byte)) (by decide)
    refine own_stepW st70 ?_
    show own_GoW p e below s _ _ _ (T70.setTop (mkF m 273 #[.val (.int ks), .val (.int len), .val (.int byt), .val (.long tms), .second, .val (.int qb), .val (.int sel), .val (.ref kx), .val (.int (0 : Int32)), .val (.int tt), .val (.int (0 : Int32)), .val (.int NN), .val (.int c0), .val (.int c1), .val (.int c2), .val (.ref vb), .val .null, .val .null, .val (.long (if tt = (0 : Int32) then (0 : Int64) else tms)), .second, .unset, .unset, .unset] [(.ref b70)]))
    refine own_stepW (B := T70.setTop (mkF m 293 #[.val (.int ks), .val (.int len), .val (.int byt), .val (.long tms), .second, .val (.int qb), .val (.int sel), .val (.ref kx), .val (.int (0 : Int32)), .val (.int tt), .val (.int (0 : Int32)), .val (.int NN), .val (.int c0), .val (.int c1), .val (.int c2), .val (.ref vb), .val .null, .val .null, .val (.long (if tt = (0 : Int32) then (0 : Int64) else tms)), .second, .unset, .unset, .unset] [.null, (.long (if tt = (0 : Int32) then (0 : Int64) else tms)), .null, .null, (.ref kx), (.ref b70), (.ref b70)])) (fun t k => ?_) ?_
    · show Steps p.tables e below (T70.setTop (mkF m 273 #[.val (.int ks), .val (.int len), .val (.int byt), .val (.long tms), .second, .val (.int qb), .val (.int sel), .val (.ref kx), .val (.int (0 : Int32)), .val (.int tt), .val (.int (0 : Int32)), .val (.int NN), .val (.int c0), .val (.int c1), .val (.int c2), .val (.ref vb), .val .null, .val .null, .val (.long (if tt = (0 : Int32) then (0 : Int64) else tms)), .second, .unset, .unset, .unset] [(.ref b70)])) _
      refine XS.dup X70.here hx rfl (hb hby at_273) rfl rfl ?_
      refine XS.aload X70.here hx rfl (hb hby at_274) rfl rfl ?_
      refine XS.aload X70.here hx rfl (hb hby at_276) rfl rfl ?_
      refine XS.aload X70.here hx rfl (hb hby at_278) rfl rfl ?_
      refine XS.lload X70.here hx rfl (hb hby at_280) rfl ?_
      refine XS.iload X70.here hx rfl (hb hby at_282) rfl ?_
      refine XS.ifYes X70.here hx rfl (pc0 := 284) (pc' := 292) rfl (hb hby at_284) rfl ((if0 _ _).trans (teq (by decide : ((0 : Int32) = (0 : Int32)))).1) (by decide) (by decide) ?_
      refine XS.aconstNull X70.here hx rfl (hb hby at_292) ?_
      exact k
    obtain ⟨_, _, ⟨T71, L71, k71, n71⟩, -, X71, ⟨Lc71, hQ71, l71, y71, z71⟩, st71⟩ := X70.specialBack hx (y := (⟨"com/example/nests/nests/model/Mutation", "<init>", "(Lcom/example/nests/nests/model/Mutation$Kind;Ljava/lang/String;[BJ[B)V"⟩ : MethodName)) rfl hown (mvT hZ (hw _ (List.mem_of_getElem? (i := 15) rfl))) (mvT hZ (hw _ (List.mem_of_getElem? (i := 16) rfl))) (mvT hZ (hw _ (List.mem_of_getElem? (i := 17) rfl))) (by decide) (backOf (W := 1) (rm1rn l Z a0 hw [] b70 kx (if tt = (0 : Int32) then (0 : Int64) else tms) _ _ _ _ _ tC tF tR tt h70 n0 (Nat.le_trans (Nat.le_trans Z0 Kc.1) E70.1) A70 F_kind_b70 F_family_b70 F_qualifier_b70 F_timestamp_b70 F_value_b70 g_b70 ((Ek.keep Kc).ext E70) ((Ft.keep Kc nin0).ext E70) ((Fv.keep Kc nin0).ext E70) ((Fs.keep Kc nin0).ext E70) ((own_staKeep S_R Kc ns0).ext E70) ((own_staKeep S_L Kc ns0).ext E70) nCR nFR nFC (by rcases htt with z | z; exact Or.inl (if_pos z); exact Or.inr z) (by rcases htt with rfl | rfl <;> rfl)) hZ (hw _ (List.mem_of_getElem? (i := 17) rfl)) (hw _ (List.mem_of_getElem? (i := 14) rfl)) (by decide) (by decide)) (g := (mkF m 293 #[.val (.int ks), .val (.int len), .val (.int byt), .val (.long tms), .second, .val (.int qb), .val (.int sel), .val (.ref kx), .val (.int (0 : Int32)), .val (.int tt), .val (.int (0 : Int32)), .val (.int NN), .val (.int c0), .val (.int c1), .val (.int c2), .val (.ref vb), .val .null, .val .null, .val (.long (if tt = (0 : Int32) then (0 : Int64) else tms)), .second, .unset, .unset, .unset] [.null, (.long (if tt = (0 : Int32) then (0 : Int64) else tms)), .null, .null, (.ref kx), (.ref b70), (.ref b70)])) rfl (by rw [hml]; rfl) (Steps.refl _) (a := b70) (argsL := [(.ref kx), .null, .null, (.long (if tt = (0 : Int32) then (0 : Int64) else tms)), .null]) (rest := [(.ref b70)]) (lenOf pd_21 rfl) rfl (by show 2 * 0 + _ ≤ _; exact Nat.le_of_eq rfl) (hb hby at_293) (fun _ _ => ⟨rfl, e70, (by decide : 2 + 0 ≤ _), (by decide : 8 + 0 ≤ _)⟩)
    dsimp only [Pt.U, Pt.locs, Pt.cells, Pt.slots] at X71 l71 y71 z71 st71 hQ71
    subst l71 y71 z71
    obtain ⟨rfl, N71q, K71, Em71, Fq71, Fv71⟩ := hQ71
    have N71 := Fr.app Nc N71q
    refine own_viaW st71 ?_
    show own_GoW p e below s _ _ _ (T71.setTop (mkF m 296 #[.val (.int ks), .val (.int len), .val (.int byt), .val (.long tms), .second, .val (.int qb), .val (.int sel), .val (.ref kx), .val (.int (0 : Int32)), .val (.int tt), .val (.int (0 : Int32)), .val (.int NN), .val (.int c0), .val (.int c1), .val (.int c2), .val (.ref vb), .val .null, .val .null, .val (.long (if tt = (0 : Int32) then (0 : Int64) else tms)), .second, .unset, .unset, .unset] [(.ref b70)]))
    refine own_stepW (B := T71.setTop (mkF m 305 #[.val (.int ks), .val (.int len), .val (.int byt), .val (.long tms), .second, .val (.int qb), .val (.int sel), .val (.ref kx), .val (.int (0 : Int32)), .val (.int tt), .val (.int (0 : Int32)), .val (.int NN), .val (.int c0), .val (.int c1), .val (.int c2), .val (.ref vb), .val .null, .val .null, .val (.long (if tt = (0 : Int32) then (0 : Int64) else tms)), .second, .val (.ref b70), .unset, .unset] [(.ref b70)])) (fun t k => ?_) ?_
    · show Steps p.tables e below (T71.setTop (mkF m 296 #[.val (.int ks), .val (.int len), .val (.int byt), .val (.long tms), .second, .val (.int qb), .val (.int sel), .val (.ref kx), .val (.int (0 : Int32)), .val (.int tt), .val (.int (0 : Int32)), .val (.int NN), .val (.int c0), .val (.int c1), .val (.int c2), .val (.ref vb), .val .null, .val .null, .val (.long (if tt = (0 : Int32) then (0 : Int64) else tms)), .second, .unset, .unset, .unset] [(.ref b70)])) _
      refine XS.astore X71.here hx rfl (hb hby at_296) rfl rfl (l' := #[.val (.int ks), .val (.int len), .val (.int byt), .val (.long tms), .second, .val (.int qb), .val (.int sel), .val (.ref kx), .val (.int (0 : Int32)), .val (.int tt), .val (.int (0 : Int32)), .val (.int NN), .val (.int c0), .val (.int c1), .val (.int c2), .val (.ref vb), .val .null, .val .null, .val (.long (if tt = (0 : Int32) then (0 : Int64) else tms)), .second, .val (.ref b70), .unset, .unset]) rfl ?_
      refine XS.iload X71.here hx rfl (hb hby at_298) rfl ?_
      refine XS.ifNo X71.here hx rfl (hb hby at_300) rfl ((if0 _ _).trans (teq (by decide : ((0 : Int32) = (0 : Int32)))).2) ?_
      refine XS.aload X71.here hx rfl (hb hby at_303) rfl rfl ?_
      exact k
    obtain ⟨cq72, kq72, q72a, q72b, q72c⟩ := isOf hZ rfl Em71
    obtain ⟨_, _, ⟨T72, L72, k72, n72⟩, -, X72, ⟨Lc72, hQ72, l72, y72, z72⟩, st72⟩ := X71.virtualBack hx (y := (⟨"com/example/nests/nests/model/Mutation", "getValue", "()[B"⟩ : MethodName)) (z := (⟨"com/example/nests/nests/model/Mutation", "getValue", "()[B"⟩ : MethodName)) hown (mvT hZ (hw _ (List.mem_of_getElem? (i := 111) rfl))) (mvT hZ (hw _ (List.mem_of_getElem? (i := 112) rfl))) (notFace_of_selects (args := #[]) (mvT hZ (hw _ (List.mem_of_getElem? (i := 114) rfl)))) (mvT hZ (hw _ (List.mem_of_getElem? (i := 114) rfl))) (mvT hZ (hw _ (List.mem_of_getElem? (i := 113) rfl))) (by decide) (backOf (W := 0) (rm16n l Z a0 hw [] b70  T71.heap n0 (Nat.le_trans (Nat.le_trans (Nat.le_trans Z0 Kc.1) E70.1) K71.1) Fv71) hZ (hw _ (List.mem_of_getElem? (i := 115) rfl)) (hw _ (List.mem_of_getElem? (i := 14) rfl)) (by decide) (by decide)) q72a q72c (g := (mkF m 305 #[.val (.int ks), .val (.int len), .val (.int byt), .val (.long tms), .second, .val (.int qb), .val (.int sel), .val (.ref kx), .val (.int (0 : Int32)), .val (.int tt), .val (.int (0 : Int32)), .val (.int NN), .val (.int c0), .val (.int c1), .val (.int c2), .val (.ref vb), .val .null, .val .null, .val (.long (if tt = (0 : Int32) then (0 : Int64) else tms)), .second, .val (.ref b70), .unset, .unset] [(.ref b70)])) rfl (by rw [hml]; rfl) (Steps.refl _) (argsL := []) (rest := []) (lenOf pd_22 rfl) rfl (by show 2 * 0 + _ ≤ _; exact Nat.le_of_eq rfl) (hb hby at_305) (fun _ _ => ⟨rfl, rfl, (by decide : 2 + 0 ≤ _), (by decide : 8 + 0 ≤ _)⟩)
    dsimp only [Pt.U, Pt.locs, Pt.cells, Pt.slots] at X72 l72 y72 z72 st72 hQ72
    subst l72 y72 z72
    obtain ⟨rfl, N72q, e72⟩ := hQ72
    have N72 := Fr.app N71 N72q
    refine own_viaW st72 ?_
    show own_GoW p e below s _ _ _ (T72.setTop (mkF m 308 #[.val (.int ks), .val (.int len), .val (.int byt), .val (.long tms), .second, .val (.int qb), .val (.int sel), .val (.ref kx), .val (.int (0 : Int32)), .val (.int tt), .val (.int (0 : Int32)), .val (.int NN), .val (.int c0), .val (.int c1), .val (.int c2), .val (.ref vb), .val .null, .val .null, .val (.long (if tt = (0 : Int32) then (0 : Int64) else tms)), .second, .val (.ref b70), .unset, .unset] [.null]))
    refine own_stepW (B := T72.setTop (mkF m 316 #[.val (.int ks), .val (.int len), .val (.int byt), .val (.long tms), .second, .val (.int qb), .val (.int sel), .val (.ref kx), .val (.int (0 : Int32)), .val (.int tt), .val (.int (0 : Int32)), .val (.int NN), .val (.int c0), .val (.int c1), .val (.int c2), .val (.ref vb), .val .null, .val .null, .val (.long (if tt = (0 : Int32) then (0 : Int64) else tms)), .second, .val (.ref b70), .unset, .unset] [(.int (1 : Int32))])) (fun t k => ?_) ?_
    · show Steps p.tables e below (T72.setTop (mkF m 308 #[.val (.int ks), .val (.int len), .val (.int byt), .val (.long tms), .second, .val (.int qb), .val (.int sel), .val (.ref kx), .val (.int (0 : Int32)), .val (.int tt), .val (.int (0 : Int32)), .val (.int NN), .val (.int c0), .val (.int c1), .val (.int c2), .val (.ref vb), .val .null, .val .null, .val (.long (if tt = (0 : Int32) then (0 : Int64) else tms)), .second, .val (.ref b70), .unset, .unset] [.null])) _
      refine XS.ifnonnullNo X72.here hx rfl (hb hby at_308) rfl ?_
      refine XS.iconst X72.here hx rfl (hb hby at_311) ?_
      refine XS.goto X72.here hx rfl (pc0 := 312) (pc' := 316) rfl (hb hby at_312) (by decide) (by decide) ?_
      exact k
    exact own_retNW X72 hS0 (by rw [e72]; exact (Nat.le_trans (Nat.le_trans (Nat.le_trans hk0 Kc.1) E70.1) K71.1)) hx Bd.notSynchronized (t := .boolean) Bd.returns (by simp) (hb hby at_316) ⟨rfl, N72⟩ (by decide) (by decide)
  have tail_rn : ∀ (kx : Addr) (tt sel : Int32) (Tt : State), (Exa Z h0 kx "com/example/nests/nests/model/Mutation$Kind") → (Fld Z h0 kx "com/example/nests/nests/model/Mutation$Kind" "target" "Lcom/example/nests/nests/model/Mutation$Target;" (.ref tR)) → (Fld Z h0 kx "com/example/nests/nests/model/Mutation$Kind" "takesValue" "Z" (.int (0 : Int32))) → (Fld Z h0 kx "com/example/nests/nests/model/Mutation$Kind" "takesTimestamp" "Z" (.int tt)) → (tt = 0 ∨ tt = 1) → Stand p l e room_1 (s.setVm s.vm) m #[(.int ks), (.int len), (.int byt), (.long tms), (.int qb)] below meth c Tt [] 0 0 → Tt.heap = h0 → own_GoW p e below s (Q0 Z ks len byt tms qb x0 x1 x2 x3 x4 x5 x6 tC tF tR cs vf h0 n0) room_1.cells room_1.slots (Tt.setTop (mkF m 160 #[.val (.int ks), .val (.int len), .val (.int byt), .val (.long tms), .second, .val (.int qb), .val (.int sel), .val (.ref kx), .val (.int (0 : Int32)), .val (.int tt), .val (.int (0 : Int32)), .unset, .unset, .unset, .unset, .unset, .unset, .unset, .unset, .unset, .unset, .unset, .unset] [])) := by
    intro kx tt sel Tt Ek Ft Fv Fs htt Xt et
    clear S_SET E_SET Ft_SET Fv_SET Fs_SET S_SET_AT E_SET_AT Ft_SET_AT Fv_SET_AT Fs_SET_AT S_DELETE E_DELETE Ft_DELETE Fv_DELETE Fs_DELETE S_DELETE_AT E_DELETE_AT Ft_DELETE_AT Fv_DELETE_AT Fs_DELETE_AT S_DELETE_UPTO E_DELETE_UPTO Ft_DELETE_UPTO Fv_DELETE_UPTO Fs_DELETE_UPTO S_DELETE_FAMILY E_DELETE_FAMILY Ft_DELETE_FAMILY Fv_DELETE_FAMILY Fs_DELETE_FAMILY S_DELETE_ROW E_DELETE_ROW Ft_DELETE_ROW Fv_DELETE_ROW Fs_DELETE_ROW
    refine own_stepW (B := Tt.setTop (mkF m 183 #[.val (.int ks), .val (.int len), .val (.int byt), .val (.long tms), .second, .val (.int qb), .val (.int sel), .val (.ref kx), .val (.int (0 : Int32)), .val (.int tt), .val (.int (0 : Int32)), .val (.int (len &&& (3 : Int32))), .val (.int (byt.toInt8.toInt32)), .val (.int (((byt.toUInt32 >>> ((8 : Int32) &&& 31).toUInt32).toInt32).toInt8.toInt32)), .val (.int (((byt.toUInt32 >>> ((16 : Int32) &&& 31).toUInt32).toInt32).toInt8.toInt32)), .unset, .unset, .unset, .unset, .unset, .unset, .unset, .unset] [])) (fun t k => ?_) ?_
    · show Steps p.tables e below (Tt.setTop (mkF m 160 #[.val (.int ks), .val (.int len), .val (.int byt), .val (.long tms), .second, .val (.int qb), .val (.int sel), .val (.ref kx), .val (.int (0 : Int32)), .val (.int tt), .val (.int (0 : Int32)), .unset, .unset, .unset, .unset, .unset, .unset, .unset, .unset, .unset, .unset, .unset, .unset] [])) _
      refine XS.iloadN Xt.here hx rfl (hb hby at_160) rfl ?_
      refine XS.iconst Xt.here hx rfl (hb hby at_161) ?_
      refine XS.iand Xt.here hx rfl (hb hby at_162) rfl ?_
      refine XS.istore Xt.here hx rfl (hb hby at_163) rfl (l' := #[.val (.int ks), .val (.int len), .val (.int byt), .val (.long tms), .second, .val (.int qb), .val (.int sel), .val (.ref kx), .val (.int (0 : Int32)), .val (.int tt), .val (.int (0 : Int32)), .val (.int (len &&& (3 : Int32))), .unset, .unset, .unset, .unset, .unset, .unset, .unset, .unset, .unset, .unset, .unset]) rfl ?_
      refine XS.iloadN Xt.here hx rfl (hb hby at_165) rfl ?_
      refine XS.i2b Xt.here hx rfl (hb hby at_166) rfl ?_
      refine XS.istore Xt.here hx rfl (hb hby at_167) rfl (l' := #[.val (.int ks), .val (.int len), .val (.int byt), .val (.long tms), .second, .val (.int qb), .val (.int sel), .val (.ref kx), .val (.int (0 : Int32)), .val (.int tt), .val (.int (0 : Int32)), .val (.int (len &&& (3 : Int32))), .val (.int (byt.toInt8.toInt32)), .unset, .unset, .unset, .unset, .unset, .unset, .unset, .unset, .unset, .unset]) rfl ?_
      refine XS.iloadN Xt.here hx rfl (hb hby at_169) rfl ?_
      refine XS.bipush Xt.here hx rfl (hb hby at_170) ?_
      refine XS.iushr Xt.here hx rfl (hb hby at_172) rfl ?_
      refine XS.i2b Xt.here hx rfl (hb hby at_173) rfl ?_
      refine XS.istore Xt.here hx rfl (hb hby at_174) rfl (l' := #[.val (.int ks), .val (.int len), .val (.int byt), .val (.long tms), .second, .val (.int qb), .val (.int sel), .val (.ref kx), .val (.int (0 : Int32)), .val (.int tt), .val (.int (0 : Int32)), .val (.int (len &&& (3 : Int32))), .val (.int (byt.toInt8.toInt32)), .val (.int (((byt.toUInt32 >>> ((8 : Int32) &&& 31).toUInt32).toInt32).toInt8.toInt32)), .unset, .unset, .unset, .unset, .unset, .unset, .unset, .unset, .unset]) rfl ?_
      refine XS.iloadN Xt.here hx rfl (hb hby at_176) rfl ?_
      refine XS.bipush Xt.here hx rfl (hb hby at_177) ?_
      refine XS.iushr Xt.here hx rfl (hb hby at_179) rfl ?_
      refine XS.i2b Xt.here hx rfl (hb hby at_180) rfl ?_
      refine XS.istore Xt.here hx rfl (hb hby at_181) rfl (l' := #[.val (.int ks), .val (.int len), .val (.int byt), .val (.long tms), .second, .val (.int qb), .val (.int sel), .val (.ref kx), .val (.int (0 : Int32)), .val (.int tt), .val (.int (0 : Int32)), .val (.int (len &&& (3 : Int32))), .val (.int (byt.toInt8.toInt32)), .val (.int (((byt.toUInt32 >>> ((8 : Int32) &&& 31).toUInt32).toInt32).toInt8.toInt32)), .val (.int (((byt.toUInt32 >>> ((16 : Int32) &&& 31).toUInt32).toInt32).toInt8.toInt32)), .unset, .unset, .unset, .unset, .unset, .unset, .unset, .unset]) rfl ?_
      exact k
    rcases own_n3 len with en | en | en | en
    · rw [en]
      have KK0 : Keep h0 h0 [] := Keep.refl h0 _
      refine own_stepW (B := Tt.setTop (mkF m 185 #[.val (.int ks), .val (.int len), .val (.int byt), .val (.long tms), .second, .val (.int qb), .val (.int sel), .val (.ref kx), .val (.int (0 : Int32)), .val (.int tt), .val (.int (0 : Int32)), .val (.int (0 : Int32)), .val (.int (byt.toInt8.toInt32)), .val (.int (((byt.toUInt32 >>> ((8 : Int32) &&& 31).toUInt32).toInt32).toInt8.toInt32)), .val (.int (((byt.toUInt32 >>> ((16 : Int32) &&& 31).toUInt32).toInt32).toInt8.toInt32)), .unset, .unset, .unset, .unset, .unset, .unset, .unset, .unset] [(.int (0 : Int32))])) (fun t k => ?_) ?_
      · show Steps p.tables e below (Tt.setTop (mkF m 183 #[.val (.int ks), .val (.int len), .val (.int byt), .val (.long tms), .second, .val (.int qb), .val (.int sel), .val (.ref kx), .val (.int (0 : Int32)), .val (.int tt), .val (.int (0 : Int32)), .val (.int (0 : Int32)), .val (.int (byt.toInt8.toInt32)), .val (.int (((byt.toUInt32 >>> ((8 : Int32) &&& 31).toUInt32).toInt32).toInt8.toInt32)), .val (.int (((byt.toUInt32 >>> ((16 : Int32) &&& 31).toUInt32).toInt32).toInt8.toInt32)), .unset, .unset, .unset, .unset, .unset, .unset, .unset, .unset] [])) _
        refine XS.iload Xt.here hx rfl (hb hby at_183) rfl ?_
        exact k
      obtain ⟨T73, h73, k73, X73, e73, E73, A73, AE73, st73⟩ := newPE Xt hx hZ (hw _ (List.mem_of_getElem? (i := 4) rfl)) et (g := (mkF m 185 #[.val (.int ks), .val (.int len), .val (.int byt), .val (.long tms), .second, .val (.int qb), .val (.int sel), .val (.ref kx), .val (.int (0 : Int32)), .val (.int tt), .val (.int (0 : Int32)), .val (.int (0 : Int32)), .val (.int (byt.toInt8.toInt32)), .val (.int (((byt.toUInt32 >>> ((8 : Int32) &&& 31).toUInt32).toInt32).toInt8.toInt32)), .val (.int (((byt.toUInt32 >>> ((16 : Int32) &&& 31).toUInt32).toInt32).toInt8.toInt32)), .unset, .unset, .unset, .unset, .unset, .unset, .unset, .unset] [(.int (0 : Int32))])) rfl (hb hby at_185) rfl (by decide) (cap := 3) (by decide) (by decide) (by decide) (by decide) (ad := "[B") rfl
      obtain ⟨b73, g73⟩ : ∃ z, z = h0.size := ⟨_, rfl⟩
      rw [← g73] at A73 AE73 st73
      have g_b73 : n0 ≤ b73 := Nat.le_trans Z0 (Nat.le_of_eq g73.symm)
      have sz_b73 : h0.size ≤ b73 := Nat.le_trans KK0.1 (Nat.le_of_eq g73.symm)
      have V_b73 : Arv Z h73 b73 k73 .byte (0 : Int32) [] (.int (0 : Int32)) := (Arv.new A73 (by decide)).pad (pad_rep [] (.int (0 : Int32)) 0)
      have K73 : Keep h0 h73 [] := KK0.ext E73
      refine own_stepW st73 ?_
      show own_GoW p e below s _ _ _ (T73.setTop (mkF m 187 #[.val (.int ks), .val (.int len), .val (.int byt), .val (.long tms), .second, .val (.int qb), .val (.int sel), .val (.ref kx), .val (.int (0 : Int32)), .val (.int tt), .val (.int (0 : Int32)), .val (.int (0 : Int32)), .val (.int (byt.toInt8.toInt32)), .val (.int (((byt.toUInt32 >>> ((8 : Int32) &&& 31).toUInt32).toInt32).toInt8.toInt32)), .val (.int (((byt.toUInt32 >>> ((16 : Int32) &&& 31).toUInt32).toInt32).toInt8.toInt32)), .unset, .unset, .unset, .unset, .unset, .unset, .unset, .unset] [(.ref b73)]))
      refine own_stepW (B := T73.setTop (mkF m 224 #[.val (.int ks), .val (.int len), .val (.int byt), .val (.long tms), .second, .val (.int qb), .val (.int sel), .val (.ref kx), .val (.int (0 : Int32)), .val (.int tt), .val (.int (0 : Int32)), .val (.int (0 : Int32)), .val (.int (byt.toInt8.toInt32)), .val (.int (((byt.toUInt32 >>> ((8 : Int32) &&& 31).toUInt32).toInt32).toInt8.toInt32)), .val (.int (((byt.toUInt32 >>> ((16 : Int32) &&& 31).toUInt32).toInt32).toInt8.toInt32)), .val (.ref b73), .unset, .unset, .unset, .unset, .unset, .unset, .unset] [])) (fun t k => ?_) ?_
      · show Steps p.tables e below (T73.setTop (mkF m 187 #[.val (.int ks), .val (.int len), .val (.int byt), .val (.long tms), .second, .val (.int qb), .val (.int sel), .val (.ref kx), .val (.int (0 : Int32)), .val (.int tt), .val (.int (0 : Int32)), .val (.int (0 : Int32)), .val (.int (byt.toInt8.toInt32)), .val (.int (((byt.toUInt32 >>> ((8 : Int32) &&& 31).toUInt32).toInt32).toInt8.toInt32)), .val (.int (((byt.toUInt32 >>> ((16 : Int32) &&& 31).toUInt32).toInt32).toInt8.toInt32)), .unset, .unset, .unset, .unset, .unset, .unset, .unset, .unset] [(.ref b73)])) _
        refine XS.astore X73.here hx rfl (hb hby at_187) rfl rfl (l' := #[.val (.int ks), .val (.int len), .val (.int byt), .val (.long tms), .second, .val (.int qb), .val (.int sel), .val (.ref kx), .val (.int (0 : Int32)), .val (.int tt), .val (.int (0 : Int32)), .val (.int (0 : Int32)), .val (.int (byt.toInt8.toInt32)), .val (.int (((byt.toUInt32 >>> ((8 : Int32) &&& 31).toUInt32).toInt32).toInt8.toInt32)), .val (.int (((byt.toUInt32 >>> ((16 : Int32) &&& 31).toUInt32).toInt32).toInt8.toInt32)), .val (.ref b73), .unset, .unset, .unset, .unset, .unset, .unset, .unset]) rfl ?_
        refine XS.iload X73.here hx rfl (hb hby at_189) rfl ?_
        refine XS.ifYes X73.here hx rfl (pc0 := 191) (pc' := 200) rfl (hb hby at_191) rfl ((if0 _ _).trans (flt (by decide : ¬ ((0 : Int32) < (0 : Int32)))).2.2.2) (by decide) (by decide) ?_
        refine XS.iload X73.here hx rfl (hb hby at_200) rfl ?_
        refine XS.iconst X73.here hx rfl (hb hby at_202) ?_
        refine XS.icmpYes X73.here hx rfl (pc0 := 203) (pc' := 212) rfl (hb hby at_203) rfl (flt (by decide : ¬ ((1 : Int32) < (0 : Int32)))).2.2.2 (by decide) (by decide) ?_
        refine XS.iload X73.here hx rfl (hb hby at_212) rfl ?_
        refine XS.iconst X73.here hx rfl (hb hby at_214) ?_
        refine XS.icmpYes X73.here hx rfl (pc0 := 215) (pc' := 224) rfl (hb hby at_215) rfl (flt (by decide : ¬ ((2 : Int32) < (0 : Int32)))).2.2.2 (by decide) (by decide) ?_
        exact k
      exact cont_rn kx tt sel (0 : Int32) (byt.toInt8.toInt32) (((byt.toUInt32 >>> ((8 : Int32) &&& 31).toUInt32).toInt32).toInt8.toInt32) (((byt.toUInt32 >>> ((16 : Int32) &&& 31).toUInt32).toInt32).toInt8.toInt32) b73 k73 [] _ _ _ Ek Ft Fv Fs htt X73 e73 N0 K73 sz_b73 AE73 V_b73 (by decide) (by decide) (fun q => absurd (by decide) q) (fun q => absurd (by decide) q) (fun q => absurd (by decide) q)
    · rw [en]
      have KK0 : Keep h0 h0 [] := Keep.refl h0 _
      refine own_stepW (B := Tt.setTop (mkF m 185 #[.val (.int ks), .val (.int len), .val (.int byt), .val (.long tms), .second, .val (.int qb), .val (.int sel), .val (.ref kx), .val (.int (0 : Int32)), .val (.int tt), .val (.int (0 : Int32)), .val (.int (1 : Int32)), .val (.int (byt.toInt8.toInt32)), .val (.int (((byt.toUInt32 >>> ((8 : Int32) &&& 31).toUInt32).toInt32).toInt8.toInt32)), .val (.int (((byt.toUInt32 >>> ((16 : Int32) &&& 31).toUInt32).toInt32).toInt8.toInt32)), .unset, .unset, .unset, .unset, .unset, .unset, .unset, .unset] [(.int (1 : Int32))])) (fun t k => ?_) ?_
      · show Steps p.tables e below (Tt.setTop (mkF m 183 #[.val (.int ks), .val (.int len), .val (.int byt), .val (.long tms), .second, .val (.int qb), .val (.int sel), .val (.ref kx), .val (.int (0 : Int32)), .val (.int tt), .val (.int (0 : Int32)), .val (.int (1 : Int32)), .val (.int (byt.toInt8.toInt32)), .val (.int (((byt.toUInt32 >>> ((8 : Int32) &&& 31).toUInt32).toInt32).toInt8.toInt32)), .val (.int (((byt.toUInt32 >>> ((16 : Int32) &&& 31).toUInt32).toInt32).toInt8.toInt32)), .unset, .unset, .unset, .unset, .unset, .unset, .unset, .unset] [])) _
        refine XS.iload Xt.here hx rfl (hb hby at_183) rfl ?_
        exact k
      obtain ⟨T74, h74, k74, X74, e74, E74, A74, AE74, st74⟩ := newPE Xt hx hZ (hw _ (List.mem_of_getElem? (i := 4) rfl)) et (g := (mkF m 185 #[.val (.int ks), .val (.int len), .val (.int byt), .val (.long tms), .second, .val (.int qb), .val (.int sel), .val (.ref kx), .val (.int (0 : Int32)), .val (.int tt), .val (.int (0 : Int32)), .val (.int (1 : Int32)), .val (.int (byt.toInt8.toInt32)), .val (.int (((byt.toUInt32 >>> ((8 : Int32) &&& 31).toUInt32).toInt32).toInt8.toInt32)), .val (.int (((byt.toUInt32 >>> ((16 : Int32) &&& 31).toUInt32).toInt32).toInt8.toInt32)), .unset, .unset, .unset, .unset, .unset, .unset, .unset, .unset] [(.int (1 : Int32))])) rfl (hb hby at_185) rfl (by decide) (cap := 3) (by decide) (by decide) (by decide) (by decide) (ad := "[B") rfl
      obtain ⟨b74, g74⟩ : ∃ z, z = h0.size := ⟨_, rfl⟩
      rw [← g74] at A74 AE74 st74
      have g_b74 : n0 ≤ b74 := Nat.le_trans Z0 (Nat.le_of_eq g74.symm)
      have sz_b74 : h0.size ≤ b74 := Nat.le_trans KK0.1 (Nat.le_of_eq g74.symm)
      have V_b74 : Arv Z h74 b74 k74 .byte (1 : Int32) [(.int (0 : Int32))] (.int (0 : Int32)) := (Arv.new A74 (by decide)).pad (pad_rep [] (.int (0 : Int32)) 1)
      have K74 : Keep h0 h74 [] := KK0.ext E74
      refine own_stepW st74 ?_
      show own_GoW p e below s _ _ _ (T74.setTop (mkF m 187 #[.val (.int ks), .val (.int len), .val (.int byt), .val (.long tms), .second, .val (.int qb), .val (.int sel), .val (.ref kx), .val (.int (0 : Int32)), .val (.int tt), .val (.int (0 : Int32)), .val (.int (1 : Int32)), .val (.int (byt.toInt8.toInt32)), .val (.int (((byt.toUInt32 >>> ((8 : Int32) &&& 31).toUInt32).toInt32).toInt8.toInt32)), .val (.int (((byt.toUInt32 >>> ((16 : Int32) &&& 31).toUInt32).toInt32).toInt8.toInt32)), .unset, .unset, .unset, .unset, .unset, .unset, .unset, .unset] [(.ref b74)]))
      refine own_stepW (B := T74.setTop (mkF m 199 #[.val (.int ks), .val (.int len), .val (.int byt), .val (.long tms), .second, .val (.int qb), .val (.int sel), .val (.ref kx), .val (.int (0 : Int32)), .val (.int tt), .val (.int (0 : Int32)), .val (.int (1 : Int32)), .val (.int (byt.toInt8.toInt32)), .val (.int (((byt.toUInt32 >>> ((8 : Int32) &&& 31).toUInt32).toInt32).toInt8.toInt32)), .val (.int (((byt.toUInt32 >>> ((16 : Int32) &&& 31).toUInt32).toInt32).toInt8.toInt32)), .val (.ref b74), .unset, .unset, .unset, .unset, .unset, .unset, .unset] [(.int (byt.toInt8.toInt32)), (.int (0 : Int32)), (.ref b74)])) (fun t k => ?_) ?_
      · show Steps p.tables e below (T74.setTop (mkF m 187 #[.val (.int ks), .val (.int len), .val (.int byt), .val (.long tms), .second, .val (.int qb), .val (.int sel), .val (.ref kx), .val (.int (0 : Int32)), .val (.int tt), .val (.int (0 : Int32)), .val (.int (1 : Int32)), .val (.int (byt.toInt8.toInt32)), .val (.int (((byt.toUInt32 >>> ((8 : Int32) &&& 31).toUInt32).toInt32).toInt8.toInt32)), .val (.int (((byt.toUInt32 >>> ((16 : Int32) &&& 31).toUInt32).toInt32).toInt8.toInt32)), .unset, .unset, .unset, .unset, .unset, .unset, .unset, .unset] [(.ref b74)])) _
        refine XS.astore X74.here hx rfl (hb hby at_187) rfl rfl (l' := #[.val (.int ks), .val (.int len), .val (.int byt), .val (.long tms), .second, .val (.int qb), .val (.int sel), .val (.ref kx), .val (.int (0 : Int32)), .val (.int tt), .val (.int (0 : Int32)), .val (.int (1 : Int32)), .val (.int (byt.toInt8.toInt32)), .val (.int (((byt.toUInt32 >>> ((8 : Int32) &&& 31).toUInt32).toInt32).toInt8.toInt32)), .val (.int (((byt.toUInt32 >>> ((16 : Int32) &&& 31).toUInt32).toInt32).toInt8.toInt32)), .val (.ref b74), .unset, .unset, .unset, .unset, .unset, .unset, .unset]) rfl ?_
        refine XS.iload X74.here hx rfl (hb hby at_189) rfl ?_
        refine XS.ifNo X74.here hx rfl (hb hby at_191) rfl ((if0 _ _).trans (tlt (by decide : ((0 : Int32) < (1 : Int32)))).2.2.2) ?_
        refine XS.aload X74.here hx rfl (hb hby at_194) rfl rfl ?_
        refine XS.iconst X74.here hx rfl (hb hby at_196) ?_
        refine XS.iload X74.here hx rfl (hb hby at_197) rfl ?_
        exact k
      obtain ⟨cl75, Ar75, q75, S75, NN75, Hs75, G75⟩ := V_b74
      have hin75 : ¬ ((0 : Int32) < 0 ∨ cl75.slots.size ≤ ((0 : Int32)).toNatClampNeg) := inb_of S75 ⟨by decide, by decide⟩
      obtain ⟨T75, h75, X75, e75, W75, st75⟩ := stB X74 hx hZ e74 Ar75 (j := (0 : Int32)) hin75 (g := (mkF m 199 #[.val (.int ks), .val (.int len), .val (.int byt), .val (.long tms), .second, .val (.int qb), .val (.int sel), .val (.ref kx), .val (.int (0 : Int32)), .val (.int tt), .val (.int (0 : Int32)), .val (.int (1 : Int32)), .val (.int (byt.toInt8.toInt32)), .val (.int (((byt.toUInt32 >>> ((8 : Int32) &&& 31).toUInt32).toInt32).toInt8.toInt32)), .val (.int (((byt.toUInt32 >>> ((16 : Int32) &&& 31).toUInt32).toInt32).toInt8.toInt32)), .val (.ref b74), .unset, .unset, .unset, .unset, .unset, .unset, .unset] [(.int (byt.toInt8.toInt32)), (.int (0 : Int32)), (.ref b74)])) rfl rfl (hb hby at_199)
      have V75 : Arv Z h75 b74 k74 .byte (1 : Int32) [(.int (nar .byte (byt.toInt8.toInt32)))] (.int (0 : Int32)) := Arv.set Ar75 q75 S75 NN75 Hs75 G75 (fits_nar_byte _) W75 0 rfl (Nat.le_of_ble_eq_true rfl)
      have N75 := Fr.snoc X75 N0 g_b74
      have K75 : Keep h0 h75 [] := K74.wr W75 (Or.inr sz_b74)
      refine own_stepW st75 ?_
      show own_GoW p e below s _ _ _ (T75.setTop (mkF m 200 #[.val (.int ks), .val (.int len), .val (.int byt), .val (.long tms), .second, .val (.int qb), .val (.int sel), .val (.ref kx), .val (.int (0 : Int32)), .val (.int tt), .val (.int (0 : Int32)), .val (.int (1 : Int32)), .val (.int (byt.toInt8.toInt32)), .val (.int (((byt.toUInt32 >>> ((8 : Int32) &&& 31).toUInt32).toInt32).toInt8.toInt32)), .val (.int (((byt.toUInt32 >>> ((16 : Int32) &&& 31).toUInt32).toInt32).toInt8.toInt32)), .val (.ref b74), .unset, .unset, .unset, .unset, .unset, .unset, .unset] []))
      refine own_stepW (B := T75.setTop (mkF m 224 #[.val (.int ks), .val (.int len), .val (.int byt), .val (.long tms), .second, .val (.int qb), .val (.int sel), .val (.ref kx), .val (.int (0 : Int32)), .val (.int tt), .val (.int (0 : Int32)), .val (.int (1 : Int32)), .val (.int (byt.toInt8.toInt32)), .val (.int (((byt.toUInt32 >>> ((8 : Int32) &&& 31).toUInt32).toInt32).toInt8.toInt32)), .val (.int (((byt.toUInt32 >>> ((16 : Int32) &&& 31).toUInt32).toInt32).toInt8.toInt32)), .val (.ref b74), .unset, .unset, .unset, .unset, .unset, .unset, .unset] [])) (fun t k => ?_) ?_
      · show Steps p.tables e below (T75.setTop (mkF m 200 #[.val (.int ks), .val (.int len), .val (.int byt), .val (.long tms), .second, .val (.int qb), .val (.int sel), .val (.ref kx), .val (.int (0 : Int32)), .val (.int tt), .val (.int (0 : Int32)), .val (.int (1 : Int32)), .val (.int (byt.toInt8.toInt32)), .val (.int (((byt.toUInt32 >>> ((8 : Int32) &&& 31).toUInt32).toInt32).toInt8.toInt32)), .val (.int (((byt.toUInt32 >>> ((16 : Int32) &&& 31).toUInt32).toInt32).toInt8.toInt32)), .val (.ref b74), .unset, .unset, .unset, .unset, .unset, .unset, .unset] [])) _
        refine XS.iload X75.here hx rfl (hb hby at_200) rfl ?_
        refine XS.iconst X75.here hx rfl (hb hby at_202) ?_
        refine XS.icmpYes X75.here hx rfl (pc0 := 203) (pc' := 212) rfl (hb hby at_203) rfl (flt (by decide : ¬ ((1 : Int32) < (1 : Int32)))).2.2.2 (by decide) (by decide) ?_
        refine XS.iload X75.here hx rfl (hb hby at_212) rfl ?_
        refine XS.iconst X75.here hx rfl (hb hby at_214) ?_
        refine XS.icmpYes X75.here hx rfl (pc0 := 215) (pc' := 224) rfl (hb hby at_215) rfl (flt (by decide : ¬ ((2 : Int32) < (1 : Int32)))).2.2.2 (by decide) (by decide) ?_
        exact k
      exact cont_rn kx tt sel (1 : Int32) (byt.toInt8.toInt32) (((byt.toUInt32 >>> ((8 : Int32) &&& 31).toUInt32).toInt32).toInt8.toInt32) (((byt.toUInt32 >>> ((16 : Int32) &&& 31).toUInt32).toInt32).toInt8.toInt32) b74 k74 [(.int (nar .byte (byt.toInt8.toInt32)))] _ _ _ Ek Ft Fv Fs htt X75 e75 N75 K75 sz_b74 (AE74.wr W75) V75 (by decide) (by decide) (fun _ => congrArg Value.int (own_i8 _)) (fun q => absurd (by decide) q) (fun q => absurd (by decide) q)
    · rw [en]
      have KK0 : Keep h0 h0 [] := Keep.refl h0 _
      refine own_stepW (B := Tt.setTop (mkF m 185 #[.val (.int ks), .val (.int len), .val (.int byt), .val (.long tms), .second, .val (.int qb), .val (.int sel), .val (.ref kx), .val (.int (0 : Int32)), .val (.int tt), .val (.int (0 : Int32)), .val (.int (2 : Int32)), .val (.int (byt.toInt8.toInt32)), .val (.int (((byt.toUInt32 >>> ((8 : Int32) &&& 31).toUInt32).toInt32).toInt8.toInt32)), .val (.int (((byt.toUInt32 >>> ((16 : Int32) &&& 31).toUInt32).toInt32).toInt8.toInt32)), .unset, .unset, .unset, .unset, .unset, .unset, .unset, .unset] [(.int (2 : Int32))])) (fun t k => ?_) ?_
      · show Steps p.tables e below (Tt.setTop (mkF m 183 #[.val (.int ks), .val (.int len), .val (.int byt), .val (.long tms), .second, .val (.int qb), .val (.int sel), .val (.ref kx), .val (.int (0 : Int32)), .val (.int tt), .val (.int (0 : Int32)), .val (.int (2 : Int32)), .val (.int (byt.toInt8.toInt32)), .val (.int (((byt.toUInt32 >>> ((8 : Int32) &&& 31).toUInt32).toInt32).toInt8.toInt32)), .val (.int (((byt.toUInt32 >>> ((16 : Int32) &&& 31).toUInt32).toInt32).toInt8.toInt32)), .unset, .unset, .unset, .unset, .unset, .unset, .unset, .unset] [])) _
        refine XS.iload Xt.here hx rfl (hb hby at_183) rfl ?_
        exact k
      obtain ⟨T76, h76, k76, X76, e76, E76, A76, AE76, st76⟩ := newPE Xt hx hZ (hw _ (List.mem_of_getElem? (i := 4) rfl)) et (g := (mkF m 185 #[.val (.int ks), .val (.int len), .val (.int byt), .val (.long tms), .second, .val (.int qb), .val (.int sel), .val (.ref kx), .val (.int (0 : Int32)), .val (.int tt), .val (.int (0 : Int32)), .val (.int (2 : Int32)), .val (.int (byt.toInt8.toInt32)), .val (.int (((byt.toUInt32 >>> ((8 : Int32) &&& 31).toUInt32).toInt32).toInt8.toInt32)), .val (.int (((byt.toUInt32 >>> ((16 : Int32) &&& 31).toUInt32).toInt32).toInt8.toInt32)), .unset, .unset, .unset, .unset, .unset, .unset, .unset, .unset] [(.int (2 : Int32))])) rfl (hb hby at_185) rfl (by decide) (cap := 3) (by decide) (by decide) (by decide) (by decide) (ad := "[B") rfl
      obtain ⟨b76, g76⟩ : ∃ z, z = h0.size := ⟨_, rfl⟩
      rw [← g76] at A76 AE76 st76
      have g_b76 : n0 ≤ b76 := Nat.le_trans Z0 (Nat.le_of_eq g76.symm)
      have sz_b76 : h0.size ≤ b76 := Nat.le_trans KK0.1 (Nat.le_of_eq g76.symm)
      have V_b76 : Arv Z h76 b76 k76 .byte (2 : Int32) [(.int (0 : Int32)), (.int (0 : Int32))] (.int (0 : Int32)) := (Arv.new A76 (by decide)).pad (pad_rep [] (.int (0 : Int32)) 2)
      have K76 : Keep h0 h76 [] := KK0.ext E76
      refine own_stepW st76 ?_
      show own_GoW p e below s _ _ _ (T76.setTop (mkF m 187 #[.val (.int ks), .val (.int len), .val (.int byt), .val (.long tms), .second, .val (.int qb), .val (.int sel), .val (.ref kx), .val (.int (0 : Int32)), .val (.int tt), .val (.int (0 : Int32)), .val (.int (2 : Int32)), .val (.int (byt.toInt8.toInt32)), .val (.int (((byt.toUInt32 >>> ((8 : Int32) &&& 31).toUInt32).toInt32).toInt8.toInt32)), .val (.int (((byt.toUInt32 >>> ((16 : Int32) &&& 31).toUInt32).toInt32).toInt8.toInt32)), .unset, .unset, .unset, .unset, .unset, .unset, .unset, .unset] [(.ref b76)]))
      refine own_stepW (B := T76.setTop (mkF m 199 #[.val (.int ks), .val (.int len), .val (.int byt), .val (.long tms), .second, .val (.int qb), .val (.int sel), .val (.ref kx), .val (.int (0 : Int32)), .val (.int tt), .val (.int (0 : Int32)), .val (.int (2 : Int32)), .val (.int (byt.toInt8.toInt32)), .val (.int (((byt.toUInt32 >>> ((8 : Int32) &&& 31).toUInt32).toInt32).toInt8.toInt32)), .val (.int (((byt.toUInt32 >>> ((16 : Int32) &&& 31).toUInt32).toInt32).toInt8.toInt32)), .val (.ref b76), .unset, .unset, .unset, .unset, .unset, .unset, .unset] [(.int (byt.toInt8.toInt32)), (.int (0 : Int32)), (.ref b76)])) (fun t k => ?_) ?_
      · show Steps p.tables e below (T76.setTop (mkF m 187 #[.val (.int ks), .val (.int len), .val (.int byt), .val (.long tms), .second, .val (.int qb), .val (.int sel), .val (.ref kx), .val (.int (0 : Int32)), .val (.int tt), .val (.int (0 : Int32)), .val (.int (2 : Int32)), .val (.int (byt.toInt8.toInt32)), .val (.int (((byt.toUInt32 >>> ((8 : Int32) &&& 31).toUInt32).toInt32).toInt8.toInt32)), .val (.int (((byt.toUInt32 >>> ((16 : Int32) &&& 31).toUInt32).toInt32).toInt8.toInt32)), .unset, .unset, .unset, .unset, .unset, .unset, .unset, .unset] [(.ref b76)])) _
        refine XS.astore X76.here hx rfl (hb hby at_187) rfl rfl (l' := #[.val (.int ks), .val (.int len), .val (.int byt), .val (.long tms), .second, .val (.int qb), .val (.int sel), .val (.ref kx), .val (.int (0 : Int32)), .val (.int tt), .val (.int (0 : Int32)), .val (.int (2 : Int32)), .val (.int (byt.toInt8.toInt32)), .val (.int (((byt.toUInt32 >>> ((8 : Int32) &&& 31).toUInt32).toInt32).toInt8.toInt32)), .val (.int (((byt.toUInt32 >>> ((16 : Int32) &&& 31).toUInt32).toInt32).toInt8.toInt32)), .val (.ref b76), .unset, .unset, .unset, .unset, .unset, .unset, .unset]) rfl ?_
        refine XS.iload X76.here hx rfl (hb hby at_189) rfl ?_
        refine XS.ifNo X76.here hx rfl (hb hby at_191) rfl ((if0 _ _).trans (tlt (by decide : ((0 : Int32) < (2 : Int32)))).2.2.2) ?_
        refine XS.aload X76.here hx rfl (hb hby at_194) rfl rfl ?_
        refine XS.iconst X76.here hx rfl (hb hby at_196) ?_
        refine XS.iload X76.here hx rfl (hb hby at_197) rfl ?_
        exact k
      obtain ⟨cl77, Ar77, q77, S77, NN77, Hs77, G77⟩ := V_b76
      have hin77 : ¬ ((0 : Int32) < 0 ∨ cl77.slots.size ≤ ((0 : Int32)).toNatClampNeg) := inb_of S77 ⟨by decide, by decide⟩
      obtain ⟨T77, h77, X77, e77, W77, st77⟩ := stB X76 hx hZ e76 Ar77 (j := (0 : Int32)) hin77 (g := (mkF m 199 #[.val (.int ks), .val (.int len), .val (.int byt), .val (.long tms), .second, .val (.int qb), .val (.int sel), .val (.ref kx), .val (.int (0 : Int32)), .val (.int tt), .val (.int (0 : Int32)), .val (.int (2 : Int32)), .val (.int (byt.toInt8.toInt32)), .val (.int (((byt.toUInt32 >>> ((8 : Int32) &&& 31).toUInt32).toInt32).toInt8.toInt32)), .val (.int (((byt.toUInt32 >>> ((16 : Int32) &&& 31).toUInt32).toInt32).toInt8.toInt32)), .val (.ref b76), .unset, .unset, .unset, .unset, .unset, .unset, .unset] [(.int (byt.toInt8.toInt32)), (.int (0 : Int32)), (.ref b76)])) rfl rfl (hb hby at_199)
      have V77 : Arv Z h77 b76 k76 .byte (2 : Int32) [(.int (nar .byte (byt.toInt8.toInt32))), (.int (0 : Int32))] (.int (0 : Int32)) := Arv.set Ar77 q77 S77 NN77 Hs77 G77 (fits_nar_byte _) W77 0 rfl (Nat.le_of_ble_eq_true rfl)
      have N77 := Fr.snoc X77 N0 g_b76
      have K77 : Keep h0 h77 [] := K76.wr W77 (Or.inr sz_b76)
      refine own_stepW st77 ?_
      show own_GoW p e below s _ _ _ (T77.setTop (mkF m 200 #[.val (.int ks), .val (.int len), .val (.int byt), .val (.long tms), .second, .val (.int qb), .val (.int sel), .val (.ref kx), .val (.int (0 : Int32)), .val (.int tt), .val (.int (0 : Int32)), .val (.int (2 : Int32)), .val (.int (byt.toInt8.toInt32)), .val (.int (((byt.toUInt32 >>> ((8 : Int32) &&& 31).toUInt32).toInt32).toInt8.toInt32)), .val (.int (((byt.toUInt32 >>> ((16 : Int32) &&& 31).toUInt32).toInt32).toInt8.toInt32)), .val (.ref b76), .unset, .unset, .unset, .unset, .unset, .unset, .unset] []))
      refine own_stepW (B := T77.setTop (mkF m 211 #[.val (.int ks), .val (.int len), .val (.int byt), .val (.long tms), .second, .val (.int qb), .val (.int sel), .val (.ref kx), .val (.int (0 : Int32)), .val (.int tt), .val (.int (0 : Int32)), .val (.int (2 : Int32)), .val (.int (byt.toInt8.toInt32)), .val (.int (((byt.toUInt32 >>> ((8 : Int32) &&& 31).toUInt32).toInt32).toInt8.toInt32)), .val (.int (((byt.toUInt32 >>> ((16 : Int32) &&& 31).toUInt32).toInt32).toInt8.toInt32)), .val (.ref b76), .unset, .unset, .unset, .unset, .unset, .unset, .unset] [(.int (((byt.toUInt32 >>> ((8 : Int32) &&& 31).toUInt32).toInt32).toInt8.toInt32)), (.int (1 : Int32)), (.ref b76)])) (fun t k => ?_) ?_
      · show Steps p.tables e below (T77.setTop (mkF m 200 #[.val (.int ks), .val (.int len), .val (.int byt), .val (.long tms), .second, .val (.int qb), .val (.int sel), .val (.ref kx), .val (.int (0 : Int32)), .val (.int tt), .val (.int (0 : Int32)), .val (.int (2 : Int32)), .val (.int (byt.toInt8.toInt32)), .val (.int (((byt.toUInt32 >>> ((8 : Int32) &&& 31).toUInt32).toInt32).toInt8.toInt32)), .val (.int (((byt.toUInt32 >>> ((16 : Int32) &&& 31).toUInt32).toInt32).toInt8.toInt32)), .val (.ref b76), .unset, .unset, .unset, .unset, .unset, .unset, .unset] [])) _
        refine XS.iload X77.here hx rfl (hb hby at_200) rfl ?_
        refine XS.iconst X77.here hx rfl (hb hby at_202) ?_
        refine XS.icmpNo X77.here hx rfl (hb hby at_203) rfl (tlt (by decide : ((1 : Int32) < (2 : Int32)))).2.2.2 ?_
        refine XS.aload X77.here hx rfl (hb hby at_206) rfl rfl ?_
        refine XS.iconst X77.here hx rfl (hb hby at_208) ?_
        refine XS.iload X77.here hx rfl (hb hby at_209) rfl ?_
        exact k
      obtain ⟨cl78, Ar78, q78, S78, NN78, Hs78, G78⟩ := V77
      have hin78 : ¬ ((1 : Int32) < 0 ∨ cl78.slots.size ≤ ((1 : Int32)).toNatClampNeg) := inb_of S78 ⟨by decide, by decide⟩
      obtain ⟨T78, h78, X78, e78, W78, st78⟩ := stB X77 hx hZ e77 Ar78 (j := (1 : Int32)) hin78 (g := (mkF m 211 #[.val (.int ks), .val (.int len), .val (.int byt), .val (.long tms), .second, .val (.int qb), .val (.int sel), .val (.ref kx), .val (.int (0 : Int32)), .val (.int tt), .val (.int (0 : Int32)), .val (.int (2 : Int32)), .val (.int (byt.toInt8.toInt32)), .val (.int (((byt.toUInt32 >>> ((8 : Int32) &&& 31).toUInt32).toInt32).toInt8.toInt32)), .val (.int (((byt.toUInt32 >>> ((16 : Int32) &&& 31).toUInt32).toInt32).toInt8.toInt32)), .val (.ref b76), .unset, .unset, .unset, .unset, .unset, .unset, .unset] [(.int (((byt.toUInt32 >>> ((8 : Int32) &&& 31).toUInt32).toInt32).toInt8.toInt32)), (.int (1 : Int32)), (.ref b76)])) rfl rfl (hb hby at_211)
      have V78 : Arv Z h78 b76 k76 .byte (2 : Int32) [(.int (nar .byte (byt.toInt8.toInt32))), (.int (nar .byte (((byt.toUInt32 >>> ((8 : Int32) &&& 31).toUInt32).toInt32).toInt8.toInt32)))] (.int (0 : Int32)) := Arv.set Ar78 q78 S78 NN78 Hs78 G78 (fits_nar_byte _) W78 1 rfl (Nat.le_of_ble_eq_true rfl)
      have N78 := Fr.snoc X78 N77 g_b76
      have K78 : Keep h0 h78 [] := K77.wr W78 (Or.inr sz_b76)
      refine own_stepW st78 ?_
      show own_GoW p e below s _ _ _ (T78.setTop (mkF m 212 #[.val (.int ks), .val (.int len), .val (.int byt), .val (.long tms), .second, .val (.int qb), .val (.int sel), .val (.ref kx), .val (.int (0 : Int32)), .val (.int tt), .val (.int (0 : Int32)), .val (.int (2 : Int32)), .val (.int (byt.toInt8.toInt32)), .val (.int (((byt.toUInt32 >>> ((8 : Int32) &&& 31).toUInt32).toInt32).toInt8.toInt32)), .val (.int (((byt.toUInt32 >>> ((16 : Int32) &&& 31).toUInt32).toInt32).toInt8.toInt32)), .val (.ref b76), .unset, .unset, .unset, .unset, .unset, .unset, .unset] []))
      refine own_stepW (B := T78.setTop (mkF m 224 #[.val (.int ks), .val (.int len), .val (.int byt), .val (.long tms), .second, .val (.int qb), .val (.int sel), .val (.ref kx), .val (.int (0 : Int32)), .val (.int tt), .val (.int (0 : Int32)), .val (.int (2 : Int32)), .val (.int (byt.toInt8.toInt32)), .val (.int (((byt.toUInt32 >>> ((8 : Int32) &&& 31).toUInt32).toInt32).toInt8.toInt32)), .val (.int (((byt.toUInt32 >>> ((16 : Int32) &&& 31).toUInt32).toInt32).toInt8.toInt32)), .val (.ref b76), .unset, .unset, .unset, .unset, .unset, .unset, .unset] [])) (fun t k => ?_) ?_
      · show Steps p.tables e below (T78.setTop (mkF m 212 #[.val (.int ks), .val (.int len), .val (.int byt), .val (.long tms), .second, .val (.int qb), .val (.int sel), .val (.ref kx), .val (.int (0 : Int32)), .val (.int tt), .val (.int (0 : Int32)), .val (.int (2 : Int32)), .val (.int (byt.toInt8.toInt32)), .val (.int (((byt.toUInt32 >>> ((8 : Int32) &&& 31).toUInt32).toInt32).toInt8.toInt32)), .val (.int (((byt.toUInt32 >>> ((16 : Int32) &&& 31).toUInt32).toInt32).toInt8.toInt32)), .val (.ref b76), .unset, .unset, .unset, .unset, .unset, .unset, .unset] [])) _
        refine XS.iload X78.here hx rfl (hb hby at_212) rfl ?_
        refine XS.iconst X78.here hx rfl (hb hby at_214) ?_
        refine XS.icmpYes X78.here hx rfl (pc0 := 215) (pc' := 224) rfl (hb hby at_215) rfl (flt (by decide : ¬ ((2 : Int32) < (2 : Int32)))).2.2.2 (by decide) (by decide) ?_
        exact k
      exact cont_rn kx tt sel (2 : Int32) (byt.toInt8.toInt32) (((byt.toUInt32 >>> ((8 : Int32) &&& 31).toUInt32).toInt32).toInt8.toInt32) (((byt.toUInt32 >>> ((16 : Int32) &&& 31).toUInt32).toInt32).toInt8.toInt32) b76 k76 [(.int (nar .byte (byt.toInt8.toInt32))), (.int (nar .byte (((byt.toUInt32 >>> ((8 : Int32) &&& 31).toUInt32).toInt32).toInt8.toInt32)))] _ _ _ Ek Ft Fv Fs htt X78 e78 N78 K78 sz_b76 ((AE76.wr W77).wr W78) V78 (by decide) (by decide) (fun _ => congrArg Value.int (own_i8 _)) (fun _ => congrArg Value.int (own_i8 _)) (fun q => absurd (by decide) q)
    · rw [en]
      have KK0 : Keep h0 h0 [] := Keep.refl h0 _
      refine own_stepW (B := Tt.setTop (mkF m 185 #[.val (.int ks), .val (.int len), .val (.int byt), .val (.long tms), .second, .val (.int qb), .val (.int sel), .val (.ref kx), .val (.int (0 : Int32)), .val (.int tt), .val (.int (0 : Int32)), .val (.int (3 : Int32)), .val (.int (byt.toInt8.toInt32)), .val (.int (((byt.toUInt32 >>> ((8 : Int32) &&& 31).toUInt32).toInt32).toInt8.toInt32)), .val (.int (((byt.toUInt32 >>> ((16 : Int32) &&& 31).toUInt32).toInt32).toInt8.toInt32)), .unset, .unset, .unset, .unset, .unset, .unset, .unset, .unset] [(.int (3 : Int32))])) (fun t k => ?_) ?_
      · show Steps p.tables e below (Tt.setTop (mkF m 183 #[.val (.int ks), .val (.int len), .val (.int byt), .val (.long tms), .second, .val (.int qb), .val (.int sel), .val (.ref kx), .val (.int (0 : Int32)), .val (.int tt), .val (.int (0 : Int32)), .val (.int (3 : Int32)), .val (.int (byt.toInt8.toInt32)), .val (.int (((byt.toUInt32 >>> ((8 : Int32) &&& 31).toUInt32).toInt32).toInt8.toInt32)), .val (.int (((byt.toUInt32 >>> ((16 : Int32) &&& 31).toUInt32).toInt32).toInt8.toInt32)), .unset, .unset, .unset, .unset, .unset, .unset, .unset, .unset] [])) _
        refine XS.iload Xt.here hx rfl (hb hby at_183) rfl ?_
        exact k
      obtain ⟨T79, h79, k79, X79, e79, E79, A79, AE79, st79⟩ := newPE Xt hx hZ (hw _ (List.mem_of_getElem? (i := 4) rfl)) et (g := (mkF m 185 #[.val (.int ks), .val (.int len), .val (.int byt), .val (.long tms), .second, .val (.int qb), .val (.int sel), .val (.ref kx), .val (.int (0 : Int32)), .val (.int tt), .val (.int (0 : Int32)), .val (.int (3 : Int32)), .val (.int (byt.toInt8.toInt32)), .val (.int (((byt.toUInt32 >>> ((8 : Int32) &&& 31).toUInt32).toInt32).toInt8.toInt32)), .val (.int (((byt.toUInt32 >>> ((16 : Int32) &&& 31).toUInt32).toInt32).toInt8.toInt32)), .unset, .unset, .unset, .unset, .unset, .unset, .unset, .unset] [(.int (3 : Int32))])) rfl (hb hby at_185) rfl (by decide) (cap := 3) (by decide) (by decide) (by decide) (by decide) (ad := "[B") rfl
      obtain ⟨b79, g79⟩ : ∃ z, z = h0.size := ⟨_, rfl⟩
      rw [← g79] at A79 AE79 st79
      have g_b79 : n0 ≤ b79 := Nat.le_trans Z0 (Nat.le_of_eq g79.symm)
      have sz_b79 : h0.size ≤ b79 := Nat.le_trans KK0.1 (Nat.le_of_eq g79.symm)
      have V_b79 : Arv Z h79 b79 k79 .byte (3 : Int32) [(.int (0 : Int32)), (.int (0 : Int32)), (.int (0 : Int32))] (.int (0 : Int32)) := (Arv.new A79 (by decide)).pad (pad_rep [] (.int (0 : Int32)) 3)
      have K79 : Keep h0 h79 [] := KK0.ext E79
      refine own_stepW st79 ?_
      show own_GoW p e below s _ _ _ (T79.setTop (mkF m 187 #[.val (.int ks), .val (.int len), .val (.int byt), .val (.long tms), .second, .val (.int qb), .val (.int sel), .val (.ref kx), .val (.int (0 : Int32)), .val (.int tt), .val (.int (0 : Int32)), .val (.int (3 : Int32)), .val (.int (byt.toInt8.toInt32)), .val (.int (((byt.toUInt32 >>> ((8 : Int32) &&& 31).toUInt32).toInt32).toInt8.toInt32)), .val (.int (((byt.toUInt32 >>> ((16 : Int32) &&& 31).toUInt32).toInt32).toInt8.toInt32)), .unset, .unset, .unset, .unset, .unset, .unset, .unset, .unset] [(.ref b79)]))
      refine own_stepW (B := T79.setTop (mkF m 199 #[.val (.int ks), .val (.int len), .val (.int byt), .val (.long tms), .second, .val (.int qb), .val (.int sel), .val (.ref kx), .val (.int (0 : Int32)), .val (.int tt), .val (.int (0 : Int32)), .val (.int (3 : Int32)), .val (.int (byt.toInt8.toInt32)), .val (.int (((byt.toUInt32 >>> ((8 : Int32) &&& 31).toUInt32).toInt32).toInt8.toInt32)), .val (.int (((byt.toUInt32 >>> ((16 : Int32) &&& 31).toUInt32).toInt32).toInt8.toInt32)), .val (.ref b79), .unset, .unset, .unset, .unset, .unset, .unset, .unset] [(.int (byt.toInt8.toInt32)), (.int (0 : Int32)), (.ref b79)])) (fun t k => ?_) ?_
      · show Steps p.tables e below (T79.setTop (mkF m 187 #[.val (.int ks), .val (.int len), .val (.int byt), .val (.long tms), .second, .val (.int qb), .val (.int sel), .val (.ref kx), .val (.int (0 : Int32)), .val (.int tt), .val (.int (0 : Int32)), .val (.int (3 : Int32)), .val (.int (byt.toInt8.toInt32)), .val (.int (((byt.toUInt32 >>> ((8 : Int32) &&& 31).toUInt32).toInt32).toInt8.toInt32)), .val (.int (((byt.toUInt32 >>> ((16 : Int32) &&& 31).toUInt32).toInt32).toInt8.toInt32)), .unset, .unset, .unset, .unset, .unset, .unset, .unset, .unset] [(.ref b79)])) _
        refine XS.astore X79.here hx rfl (hb hby at_187) rfl rfl (l' := #[.val (.int ks), .val (.int len), .val (.int byt), .val (.long tms), .second, .val (.int qb), .val (.int sel), .val (.ref kx), .val (.int (0 : Int32)), .val (.int tt), .val (.int (0 : Int32)), .val (.int (3 : Int32)), .val (.int (byt.toInt8.toInt32)), .val (.int (((byt.toUInt32 >>> ((8 : Int32) &&& 31).toUInt32).toInt32).toInt8.toInt32)), .val (.int (((byt.toUInt32 >>> ((16 : Int32) &&& 31).toUInt32).toInt32).toInt8.toInt32)), .val (.ref b79), .unset, .unset, .unset, .unset, .unset, .unset, .unset]) rfl ?_
        refine XS.iload X79.here hx rfl (hb hby at_189) rfl ?_
        refine XS.ifNo X79.here hx rfl (hb hby at_191) rfl ((if0 _ _).trans (tlt (by decide : ((0 : Int32) < (3 : Int32)))).2.2.2) ?_
        refine XS.aload X79.here hx rfl (hb hby at_194) rfl rfl ?_
        refine XS.iconst X79.here hx rfl (hb hby at_196) ?_
        refine XS.iload X79.here hx rfl (hb hby at_197) rfl ?_
        exact k
      obtain ⟨cl80, Ar80, q80, S80, NN80, Hs80, G80⟩ := V_b79
      have hin80 : ¬ ((0 : Int32) < 0 ∨ cl80.slots.size ≤ ((0 : Int32)).toNatClampNeg) := inb_of S80 ⟨by decide, by decide⟩
      obtain ⟨T80, h80, X80, e80, W80, st80⟩ := stB X79 hx hZ e79 Ar80 (j := (0 : Int32)) hin80 (g := (mkF m 199 #[.val (.int ks), .val (.int len), .val (.int byt), .val (.long tms), .second, .val (.int qb), .val (.int sel), .val (.ref kx), .val (.int (0 : Int32)), .val (.int tt), .val (.int (0 : Int32)), .val (.int (3 : Int32)), .val (.int (byt.toInt8.toInt32)), .val (.int (((byt.toUInt32 >>> ((8 : Int32) &&& 31).toUInt32).toInt32).toInt8.toInt32)), .val (.int (((byt.toUInt32 >>> ((16 : Int32) &&& 31).toUInt32).toInt32).toInt8.toInt32)), .val (.ref b79), .unset, .unset, .unset, .unset, .unset, .unset, .unset] [(.int (byt.toInt8.toInt32)), (.int (0 : Int32)), (.ref b79)])) rfl rfl (hb hby at_199)
      have V80 : Arv Z h80 b79 k79 .byte (3 : Int32) [(.int (nar .byte (byt.toInt8.toInt32))), (.int (0 : Int32)), (.int (0 : Int32))] (.int (0 : Int32)) := Arv.set Ar80 q80 S80 NN80 Hs80 G80 (fits_nar_byte _) W80 0 rfl (Nat.le_of_ble_eq_true rfl)
      have N80 := Fr.snoc X80 N0 g_b79
      have K80 : Keep h0 h80 [] := K79.wr W80 (Or.inr sz_b79)
      refine own_stepW st80 ?_
      show own_GoW p e below s _ _ _ (T80.setTop (mkF m 200 #[.val (.int ks), .val (.int len), .val (.int byt), .val (.long tms), .second, .val (.int qb), .val (.int sel), .val (.ref kx), .val (.int (0 : Int32)), .val (.int tt), .val (.int (0 : Int32)), .val (.int (3 : Int32)), .val (.int (byt.toInt8.toInt32)), .val (.int (((byt.toUInt32 >>> ((8 : Int32) &&& 31).toUInt32).toInt32).toInt8.toInt32)), .val (.int (((byt.toUInt32 >>> ((16 : Int32) &&& 31).toUInt32).toInt32).toInt8.toInt32)), .val (.ref b79), .unset, .unset, .unset, .unset, .unset, .unset, .unset] []))
      refine own_stepW (B := T80.setTop (mkF m 211 #[.val (.int ks), .val (.int len), .val (.int byt), .val (.long tms), .second, .val (.int qb), .val (.int sel), .val (.ref kx), .val (.int (0 : Int32)), .val (.int tt), .val (.int (0 : Int32)), .val (.int (3 : Int32)), .val (.int (byt.toInt8.toInt32)), .val (.int (((byt.toUInt32 >>> ((8 : Int32) &&& 31).toUInt32).toInt32).toInt8.toInt32)), .val (.int (((byt.toUInt32 >>> ((16 : Int32) &&& 31).toUInt32).toInt32).toInt8.toInt32)), .val (.ref b79), .unset, .unset, .unset, .unset, .unset, .unset, .unset] [(.int (((byt.toUInt32 >>> ((8 : Int32) &&& 31).toUInt32).toInt32).toInt8.toInt32)), (.int (1 : Int32)), (.ref b79)])) (fun t k => ?_) ?_
      · show Steps p.tables e below (T80.setTop (mkF m 200 #[.val (.int ks), .val (.int len), .val (.int byt), .val (.long tms), .second, .val (.int qb), .val (.int sel), .val (.ref kx), .val (.int (0 : Int32)), .val (.int tt), .val (.int (0 : Int32)), .val (.int (3 : Int32)), .val (.int (byt.toInt8.toInt32)), .val (.int (((byt.toUInt32 >>> ((8 : Int32) &&& 31).toUInt32).toInt32).toInt8.toInt32)), .val (.int (((byt.toUInt32 >>> ((16 : Int32) &&& 31).toUInt32).toInt32).toInt8.toInt32)), .val (.ref b79), .unset, .unset, .unset, .unset, .unset, .unset, .unset] [])) _
        refine XS.iload X80.here hx rfl (hb hby at_200) rfl ?_
        refine XS.iconst X80.here hx rfl (hb hby at_202) ?_
        refine XS.icmpNo X80.here hx rfl (hb hby at_203) rfl (tlt (by decide : ((1 : Int32) < (3 : Int32)))).2.2.2 ?_
        refine XS.aload X80.here hx rfl (hb hby at_206) rfl rfl ?_
        refine XS.iconst X80.here hx rfl (hb hby at_208) ?_
        refine XS.iload X80.here hx rfl (hb hby at_209) rfl ?_
        exact k
      obtain ⟨cl81, Ar81, q81, S81, NN81, Hs81, G81⟩ := V80
      have hin81 : ¬ ((1 : Int32) < 0 ∨ cl81.slots.size ≤ ((1 : Int32)).toNatClampNeg) := inb_of S81 ⟨by decide, by decide⟩
      obtain ⟨T81, h81, X81, e81, W81, st81⟩ := stB X80 hx hZ e80 Ar81 (j := (1 : Int32)) hin81 (g := (mkF m 211 #[.val (.int ks), .val (.int len), .val (.int byt), .val (.long tms), .second, .val (.int qb), .val (.int sel), .val (.ref kx), .val (.int (0 : Int32)), .val (.int tt), .val (.int (0 : Int32)), .val (.int (3 : Int32)), .val (.int (byt.toInt8.toInt32)), .val (.int (((byt.toUInt32 >>> ((8 : Int32) &&& 31).toUInt32).toInt32).toInt8.toInt32)), .val (.int (((byt.toUInt32 >>> ((16 : Int32) &&& 31).toUInt32).toInt32).toInt8.toInt32)), .val (.ref b79), .unset, .unset, .unset, .unset, .unset, .unset, .unset] [(.int (((byt.toUInt32 >>> ((8 : Int32) &&& 31).toUInt32).toInt32).toInt8.toInt32)), (.int (1 : Int32)), (.ref b79)])) rfl rfl (hb hby at_211)
      have V81 : Arv Z h81 b79 k79 .byte (3 : Int32) [(.int (nar .byte (byt.toInt8.toInt32))), (.int (nar .byte (((byt.toUInt32 >>> ((8 : Int32) &&& 31).toUInt32).toInt32).toInt8.toInt32))), (.int (0 : Int32))] (.int (0 : Int32)) := Arv.set Ar81 q81 S81 NN81 Hs81 G81 (fits_nar_byte _) W81 1 rfl (Nat.le_of_ble_eq_true rfl)
      have N81 := Fr.snoc X81 N80 g_b79
      have K81 : Keep h0 h81 [] := K80.wr W81 (Or.inr sz_b79)
      refine own_stepW st81 ?_
      show own_GoW p e below s _ _ _ (T81.setTop (mkF m 212 #[.val (.int ks), .val (.int len), .val (.int byt), .val (.long tms), .second, .val (.int qb), .val (.int sel), .val (.ref kx), .val (.int (0 : Int32)), .val (.int tt), .val (.int (0 : Int32)), .val (.int (3 : Int32)), .val (.int (byt.toInt8.toInt32)), .val (.int (((byt.toUInt32 >>> ((8 : Int32) &&& 31).toUInt32).toInt32).toInt8.toInt32)), .val (.int (((byt.toUInt32 >>> ((16 : Int32) &&& 31).toUInt32).toInt32).toInt8.toInt32)), .val (.ref b79), .unset, .unset, .unset, .unset, .unset, .unset, .unset] []))
      refine own_stepW (B := T81.setTop (mkF m 223 #[.val (.int ks), .val (.int len), .val (.int byt), .val (.long tms), .second, .val (.int qb), .val (.int sel), .val (.ref kx), .val (.int (0 : Int32)), .val (.int tt), .val (.int (0 : Int32)), .val (.int (3 : Int32)), .val (.int (byt.toInt8.toInt32)), .val (.int (((byt.toUInt32 >>> ((8 : Int32) &&& 31).toUInt32).toInt32).toInt8.toInt32)), .val (.int (((byt.toUInt32 >>> ((16 : Int32) &&& 31).toUInt32).toInt32).toInt8.toInt32)), .val (.ref b79), .unset, .unset, .unset, .unset, .unset, .unset, .unset] [(.int (((byt.toUInt32 >>> ((16 : Int32) &&& 31).toUInt32).toInt32).toInt8.toInt32)), (.int (2 : Int32)), (.ref b79)])) (fun t k => ?_) ?_
      · show Steps p.tables e below (T81.setTop (mkF m 212 #[.val (.int ks), .val (.int len), .val (.int byt), .val (.long tms), .second, .val (.int qb), .val (.int sel), .val (.ref kx), .val (.int (0 : Int32)), .val (.int tt), .val (.int (0 : Int32)), .val (.int (3 : Int32)), .val (.int (byt.toInt8.toInt32)), .val (.int (((byt.toUInt32 >>> ((8 : Int32) &&& 31).toUInt32).toInt32).toInt8.toInt32)), .val (.int (((byt.toUInt32 >>> ((16 : Int32) &&& 31).toUInt32).toInt32).toInt8.toInt32)), .val (.ref b79), .unset, .unset, .unset, .unset, .unset, .unset, .unset] [])) _
        refine XS.iload X81.here hx rfl (hb hby at_212) rfl ?_
        refine XS.iconst X81.here hx rfl (hb hby at_214) ?_
        refine XS.icmpNo X81.here hx rfl (hb hby at_215) rfl (tlt (by decide : ((2 : Int32) < (3 : Int32)))).2.2.2 ?_
        refine XS.aload X81.here hx rfl (hb hby at_218) rfl rfl ?_
        refine XS.iconst X81.here hx rfl (hb hby at_220) ?_
        refine XS.iload X81.here hx rfl (hb hby at_221) rfl ?_
        exact k
      obtain ⟨cl82, Ar82, q82, S82, NN82, Hs82, G82⟩ := V81
      have hin82 : ¬ ((2 : Int32) < 0 ∨ cl82.slots.size ≤ ((2 : Int32)).toNatClampNeg) := inb_of S82 ⟨by decide, by decide⟩
      obtain ⟨T82, h82, X82, e82, W82, st82⟩ := stB X81 hx hZ e81 Ar82 (j := (2 : Int32)) hin82 (g := (mkF m 223 #[.val (.int ks), .val (.int len), .val (.int byt), .val (.long tms), .second, .val (.int qb), .val (.int sel), .val (.ref kx), .val (.int (0 : Int32)), .val (.int tt), .val (.int (0 : Int32)), .val (.int (3 : Int32)), .val (.int (byt.toInt8.toInt32)), .val (.int (((byt.toUInt32 >>> ((8 : Int32) &&& 31).toUInt32).toInt32).toInt8.toInt32)), .val (.int (((byt.toUInt32 >>> ((16 : Int32) &&& 31).toUInt32).toInt32).toInt8.toInt32)), .val (.ref b79), .unset, .unset, .unset, .unset, .unset, .unset, .unset] [(.int (((byt.toUInt32 >>> ((16 : Int32) &&& 31).toUInt32).toInt32).toInt8.toInt32)), (.int (2 : Int32)), (.ref b79)])) rfl rfl (hb hby at_223)
      have V82 : Arv Z h82 b79 k79 .byte (3 : Int32) [(.int (nar .byte (byt.toInt8.toInt32))), (.int (nar .byte (((byt.toUInt32 >>> ((8 : Int32) &&& 31).toUInt32).toInt32).toInt8.toInt32))), (.int (nar .byte (((byt.toUInt32 >>> ((16 : Int32) &&& 31).toUInt32).toInt32).toInt8.toInt32)))] (.int (0 : Int32)) := Arv.set Ar82 q82 S82 NN82 Hs82 G82 (fits_nar_byte _) W82 2 rfl (Nat.le_of_ble_eq_true rfl)
      have N82 := Fr.snoc X82 N81 g_b79
      have K82 : Keep h0 h82 [] := K81.wr W82 (Or.inr sz_b79)
      refine own_stepW st82 ?_
      show own_GoW p e below s _ _ _ (T82.setTop (mkF m 224 #[.val (.int ks), .val (.int len), .val (.int byt), .val (.long tms), .second, .val (.int qb), .val (.int sel), .val (.ref kx), .val (.int (0 : Int32)), .val (.int tt), .val (.int (0 : Int32)), .val (.int (3 : Int32)), .val (.int (byt.toInt8.toInt32)), .val (.int (((byt.toUInt32 >>> ((8 : Int32) &&& 31).toUInt32).toInt32).toInt8.toInt32)), .val (.int (((byt.toUInt32 >>> ((16 : Int32) &&& 31).toUInt32).toInt32).toInt8.toInt32)), .val (.ref b79), .unset, .unset, .unset, .unset, .unset, .unset, .unset] []))
      exact cont_rn kx tt sel (3 : Int32) (byt.toInt8.toInt32) (((byt.toUInt32 >>> ((8 : Int32) &&& 31).toUInt32).toInt32).toInt8.toInt32) (((byt.toUInt32 >>> ((16 : Int32) &&& 31).toUInt32).toInt32).toInt8.toInt32) b79 k79 [(.int (nar .byte (byt.toInt8.toInt32))), (.int (nar .byte (((byt.toUInt32 >>> ((8 : Int32) &&& 31).toUInt32).toInt32).toInt8.toInt32))), (.int (nar .byte (((byt.toUInt32 >>> ((16 : Int32) &&& 31).toUInt32).toInt32).toInt8.toInt32)))] _ _ _ Ek Ft Fv Fs htt X82 e82 N82 K82 sz_b79 (((AE79.wr W80).wr W81).wr W82) V82 (by decide) (by decide) (fun _ => congrArg Value.int (own_i8 _)) (fun _ => congrArg Value.int (own_i8 _)) (fun _ => congrArg Value.int (own_i8 _))
  refine own_stepW (B := s₁.setTop (mkF m 11 #[.val (.int ks), .val (.int len), .val (.int byt), .val (.long tms), .second, .val (.int qb), .val (.int ((ks &&& (2147483647 : Int32)) - (ks &&& (2147483647 : Int32)) / (7 : Int32) * (7 : Int32))), .unset, .unset, .unset, .unset, .unset, .unset, .unset, .unset, .unset, .unset, .unset, .unset, .unset, .unset, .unset, .unset] [(.int ((ks &&& (2147483647 : Int32)) - (ks &&& (2147483647 : Int32)) / (7 : Int32) * (7 : Int32)))])) (fun t k => ?_) ?_
  · show Steps p.tables e below (s₁.setTop (mkF m 0 #[.val (.int ks), .val (.int len), .val (.int byt), .val (.long tms), .second, .val (.int qb), .unset, .unset, .unset, .unset, .unset, .unset, .unset, .unset, .unset, .unset, .unset, .unset, .unset, .unset, .unset, .unset, .unset] [])) _
    refine XS.iloadN X0.here hx rfl (hb hby at_0) rfl ?_
    refine X0.ldcInt hx hown (mvT hZ (hw _ (List.mem_of_getElem? (i := 0) rfl))) (g := (mkF m 1 #[.val (.int ks), .val (.int len), .val (.int byt), .val (.long tms), .second, .val (.int qb), .unset, .unset, .unset, .unset, .unset, .unset, .unset, .unset, .unset, .unset, .unset, .unset, .unset, .unset, .unset, .unset, .unset] [(.int ks)])) rfl (hb hby at_1) _ ?_
    refine XS.iand X0.here hx rfl (hb hby at_3) rfl ?_
    refine XS.bipush X0.here hx rfl (hb hby at_4) ?_
    refine XS.irem X0.here hx rfl (hb hby at_6) rfl (by decide) ?_
    refine XS.istore X0.here hx rfl (hb hby at_7) rfl (l' := #[.val (.int ks), .val (.int len), .val (.int byt), .val (.long tms), .second, .val (.int qb), .val (.int ((ks &&& (2147483647 : Int32)) - (ks &&& (2147483647 : Int32)) / (7 : Int32) * (7 : Int32))), .unset, .unset, .unset, .unset, .unset, .unset, .unset, .unset, .unset, .unset, .unset, .unset, .unset, .unset, .unset, .unset]) rfl ?_
    refine XS.iload X0.here hx rfl (hb hby at_9) rfl ?_
    exact k
  by_cases hc11 : ((ks &&& (2147483647 : Int32)) - (ks &&& (2147483647 : Int32)) / (7 : Int32) * (7 : Int32)) = (0 : Int32)
  · refine own_stepW (B := s₁.setTop (mkF m 14 #[.val (.int ks), .val (.int len), .val (.int byt), .val (.long tms), .second, .val (.int qb), .val (.int ((ks &&& (2147483647 : Int32)) - (ks &&& (2147483647 : Int32)) / (7 : Int32) * (7 : Int32))), .unset, .unset, .unset, .unset, .unset, .unset, .unset, .unset, .unset, .unset, .unset, .unset, .unset, .unset, .unset, .unset] [])) (fun t k => ?_) ?_
    · show Steps p.tables e below (s₁.setTop (mkF m 11 #[.val (.int ks), .val (.int len), .val (.int byt), .val (.long tms), .second, .val (.int qb), .val (.int ((ks &&& (2147483647 : Int32)) - (ks &&& (2147483647 : Int32)) / (7 : Int32) * (7 : Int32))), .unset, .unset, .unset, .unset, .unset, .unset, .unset, .unset, .unset, .unset, .unset, .unset, .unset, .unset, .unset, .unset] [(.int ((ks &&& (2147483647 : Int32)) - (ks &&& (2147483647 : Int32)) / (7 : Int32) * (7 : Int32)))])) _
      refine XS.ifNo X0.here hx rfl (hb hby at_11) rfl ((if0 _ _).trans (teq hc11).2) ?_
      exact k
    obtain ⟨T83, X83, e83, st83⟩ := getS2 X0 hx hZ hown (host := "") (Or.inl (hw _ (List.mem_of_getElem? (i := 1) rfl))) Via.refl e0 S_SET (g := (mkF m 14 #[.val (.int ks), .val (.int len), .val (.int byt), .val (.long tms), .second, .val (.int qb), .val (.int ((ks &&& (2147483647 : Int32)) - (ks &&& (2147483647 : Int32)) / (7 : Int32) * (7 : Int32))), .unset, .unset, .unset, .unset, .unset, .unset, .unset, .unset, .unset, .unset, .unset, .unset, .unset, .unset, .unset, .unset] [])) rfl (hb hby at_14)
    refine own_stepW st83 ?_
    show own_GoW p e below s _ _ _ (T83.setTop (mkF m 17 #[.val (.int ks), .val (.int len), .val (.int byt), .val (.long tms), .second, .val (.int qb), .val (.int ((ks &&& (2147483647 : Int32)) - (ks &&& (2147483647 : Int32)) / (7 : Int32) * (7 : Int32))), .unset, .unset, .unset, .unset, .unset, .unset, .unset, .unset, .unset, .unset, .unset, .unset, .unset, .unset, .unset, .unset] [(.ref x0)]))
    refine own_stepW (B := T83.setTop (mkF m 160 #[.val (.int ks), .val (.int len), .val (.int byt), .val (.long tms), .second, .val (.int qb), .val (.int ((ks &&& (2147483647 : Int32)) - (ks &&& (2147483647 : Int32)) / (7 : Int32) * (7 : Int32))), .val (.ref x0), .val (.int (1 : Int32)), .val (.int (0 : Int32)), .val (.int (2 : Int32)), .unset, .unset, .unset, .unset, .unset, .unset, .unset, .unset, .unset, .unset, .unset, .unset] [])) (fun t k => ?_) ?_
    · show Steps p.tables e below (T83.setTop (mkF m 17 #[.val (.int ks), .val (.int len), .val (.int byt), .val (.long tms), .second, .val (.int qb), .val (.int ((ks &&& (2147483647 : Int32)) - (ks &&& (2147483647 : Int32)) / (7 : Int32) * (7 : Int32))), .unset, .unset, .unset, .unset, .unset, .unset, .unset, .unset, .unset, .unset, .unset, .unset, .unset, .unset, .unset, .unset] [(.ref x0)])) _
      refine XS.astore X83.here hx rfl (hb hby at_17) rfl rfl (l' := #[.val (.int ks), .val (.int len), .val (.int byt), .val (.long tms), .second, .val (.int qb), .val (.int ((ks &&& (2147483647 : Int32)) - (ks &&& (2147483647 : Int32)) / (7 : Int32) * (7 : Int32))), .val (.ref x0), .unset, .unset, .unset, .unset, .unset, .unset, .unset, .unset, .unset, .unset, .unset, .unset, .unset, .unset, .unset]) rfl ?_
      refine XS.iconst X83.here hx rfl (hb hby at_19) ?_
      refine XS.istore X83.here hx rfl (hb hby at_20) rfl (l' := #[.val (.int ks), .val (.int len), .val (.int byt), .val (.long tms), .second, .val (.int qb), .val (.int ((ks &&& (2147483647 : Int32)) - (ks &&& (2147483647 : Int32)) / (7 : Int32) * (7 : Int32))), .val (.ref x0), .val (.int (1 : Int32)), .unset, .unset, .unset, .unset, .unset, .unset, .unset, .unset, .unset, .unset, .unset, .unset, .unset, .unset]) rfl ?_
      refine XS.iconst X83.here hx rfl (hb hby at_22) ?_
      refine XS.istore X83.here hx rfl (hb hby at_23) rfl (l' := #[.val (.int ks), .val (.int len), .val (.int byt), .val (.long tms), .second, .val (.int qb), .val (.int ((ks &&& (2147483647 : Int32)) - (ks &&& (2147483647 : Int32)) / (7 : Int32) * (7 : Int32))), .val (.ref x0), .val (.int (1 : Int32)), .val (.int (0 : Int32)), .unset, .unset, .unset, .unset, .unset, .unset, .unset, .unset, .unset, .unset, .unset, .unset, .unset]) rfl ?_
      refine XS.iconst X83.here hx rfl (hb hby at_25) ?_
      refine XS.istore X83.here hx rfl (hb hby at_26) rfl (l' := #[.val (.int ks), .val (.int len), .val (.int byt), .val (.long tms), .second, .val (.int qb), .val (.int ((ks &&& (2147483647 : Int32)) - (ks &&& (2147483647 : Int32)) / (7 : Int32) * (7 : Int32))), .val (.ref x0), .val (.int (1 : Int32)), .val (.int (0 : Int32)), .val (.int (2 : Int32)), .unset, .unset, .unset, .unset, .unset, .unset, .unset, .unset, .unset, .unset, .unset, .unset]) rfl ?_
      refine XS.goto X83.here hx rfl (pc0 := 28) (pc' := 160) rfl (hb hby at_28) (by decide) (by decide) ?_
      exact k
    exact tail_cv x0 (0 : Int32) ((ks &&& (2147483647 : Int32)) - (ks &&& (2147483647 : Int32)) / (7 : Int32) * (7 : Int32)) T83 E_SET Ft_SET Fv_SET Fs_SET (by decide) X83 e83
  · refine own_stepW (B := s₁.setTop (mkF m 34 #[.val (.int ks), .val (.int len), .val (.int byt), .val (.long tms), .second, .val (.int qb), .val (.int ((ks &&& (2147483647 : Int32)) - (ks &&& (2147483647 : Int32)) / (7 : Int32) * (7 : Int32))), .unset, .unset, .unset, .unset, .unset, .unset, .unset, .unset, .unset, .unset, .unset, .unset, .unset, .unset, .unset, .unset] [(.int (1 : Int32)), (.int ((ks &&& (2147483647 : Int32)) - (ks &&& (2147483647 : Int32)) / (7 : Int32) * (7 : Int32)))])) (fun t k => ?_) ?_
    · show Steps p.tables e below (s₁.setTop (mkF m 11 #[.val (.int ks), .val (.int len), .val (.int byt), .val (.long tms), .second, .val (.int qb), .val (.int ((ks &&& (2147483647 : Int32)) - (ks &&& (2147483647 : Int32)) / (7 : Int32) * (7 : Int32))), .unset, .unset, .unset, .unset, .unset, .unset, .unset, .unset, .unset, .unset, .unset, .unset, .unset, .unset, .unset, .unset] [(.int ((ks &&& (2147483647 : Int32)) - (ks &&& (2147483647 : Int32)) / (7 : Int32) * (7 : Int32)))])) _
      refine XS.ifYes X0.here hx rfl (pc0 := 11) (pc' := 31) rfl (hb hby at_11) rfl ((if0 _ _).trans (feq hc11).2) (by decide) (by decide) ?_
      refine XS.iload X0.here hx rfl (hb hby at_31) rfl ?_
      refine XS.iconst X0.here hx rfl (hb hby at_33) ?_
      exact k
    by_cases hc34 : ((ks &&& (2147483647 : Int32)) - (ks &&& (2147483647 : Int32)) / (7 : Int32) * (7 : Int32)) = (1 : Int32)
    · refine own_stepW (B := s₁.setTop (mkF m 37 #[.val (.int ks), .val (.int len), .val (.int byt), .val (.long tms), .second, .val (.int qb), .val (.int ((ks &&& (2147483647 : Int32)) - (ks &&& (2147483647 : Int32)) / (7 : Int32) * (7 : Int32))), .unset, .unset, .unset, .unset, .unset, .unset, .unset, .unset, .unset, .unset, .unset, .unset, .unset, .unset, .unset, .unset] [])) (fun t k => ?_) ?_
      · show Steps p.tables e below (s₁.setTop (mkF m 34 #[.val (.int ks), .val (.int len), .val (.int byt), .val (.long tms), .second, .val (.int qb), .val (.int ((ks &&& (2147483647 : Int32)) - (ks &&& (2147483647 : Int32)) / (7 : Int32) * (7 : Int32))), .unset, .unset, .unset, .unset, .unset, .unset, .unset, .unset, .unset, .unset, .unset, .unset, .unset, .unset, .unset, .unset] [(.int (1 : Int32)), (.int ((ks &&& (2147483647 : Int32)) - (ks &&& (2147483647 : Int32)) / (7 : Int32) * (7 : Int32)))])) _
        refine XS.icmpNo X0.here hx rfl (hb hby at_34) rfl (teq hc34).2 ?_
        exact k
      obtain ⟨T84, X84, e84, st84⟩ := getS2 X0 hx hZ hown (host := "") (Or.inl (hw _ (List.mem_of_getElem? (i := 131) rfl))) Via.refl e0 S_SET_AT (g := (mkF m 37 #[.val (.int ks), .val (.int len), .val (.int byt), .val (.long tms), .second, .val (.int qb), .val (.int ((ks &&& (2147483647 : Int32)) - (ks &&& (2147483647 : Int32)) / (7 : Int32) * (7 : Int32))), .unset, .unset, .unset, .unset, .unset, .unset, .unset, .unset, .unset, .unset, .unset, .unset, .unset, .unset, .unset, .unset] [])) rfl (hb hby at_37)
      refine own_stepW st84 ?_
      show own_GoW p e below s _ _ _ (T84.setTop (mkF m 40 #[.val (.int ks), .val (.int len), .val (.int byt), .val (.long tms), .second, .val (.int qb), .val (.int ((ks &&& (2147483647 : Int32)) - (ks &&& (2147483647 : Int32)) / (7 : Int32) * (7 : Int32))), .unset, .unset, .unset, .unset, .unset, .unset, .unset, .unset, .unset, .unset, .unset, .unset, .unset, .unset, .unset, .unset] [(.ref x1)]))
      refine own_stepW (B := T84.setTop (mkF m 160 #[.val (.int ks), .val (.int len), .val (.int byt), .val (.long tms), .second, .val (.int qb), .val (.int ((ks &&& (2147483647 : Int32)) - (ks &&& (2147483647 : Int32)) / (7 : Int32) * (7 : Int32))), .val (.ref x1), .val (.int (1 : Int32)), .val (.int (1 : Int32)), .val (.int (2 : Int32)), .unset, .unset, .unset, .unset, .unset, .unset, .unset, .unset, .unset, .unset, .unset, .unset] [])) (fun t k => ?_) ?_
      · show Steps p.tables e below (T84.setTop (mkF m 40 #[.val (.int ks), .val (.int len), .val (.int byt), .val (.long tms), .second, .val (.int qb), .val (.int ((ks &&& (2147483647 : Int32)) - (ks &&& (2147483647 : Int32)) / (7 : Int32) * (7 : Int32))), .unset, .unset, .unset, .unset, .unset, .unset, .unset, .unset, .unset, .unset, .unset, .unset, .unset, .unset, .unset, .unset] [(.ref x1)])) _
        refine XS.astore X84.here hx rfl (hb hby at_40) rfl rfl (l' := #[.val (.int ks), .val (.int len), .val (.int byt), .val (.long tms), .second, .val (.int qb), .val (.int ((ks &&& (2147483647 : Int32)) - (ks &&& (2147483647 : Int32)) / (7 : Int32) * (7 : Int32))), .val (.ref x1), .unset, .unset, .unset, .unset, .unset, .unset, .unset, .unset, .unset, .unset, .unset, .unset, .unset, .unset, .unset]) rfl ?_
        refine XS.iconst X84.here hx rfl (hb hby at_42) ?_
        refine XS.istore X84.here hx rfl (hb hby at_43) rfl (l' := #[.val (.int ks), .val (.int len), .val (.int byt), .val (.long tms), .second, .val (.int qb), .val (.int ((ks &&& (2147483647 : Int32)) - (ks &&& (2147483647 : Int32)) / (7 : Int32) * (7 : Int32))), .val (.ref x1), .val (.int (1 : Int32)), .unset, .unset, .unset, .unset, .unset, .unset, .unset, .unset, .unset, .unset, .unset, .unset, .unset, .unset]) rfl ?_
        refine XS.iconst X84.here hx rfl (hb hby at_45) ?_
        refine XS.istore X84.here hx rfl (hb hby at_46) rfl (l' := #[.val (.int ks), .val (.int len), .val (.int byt), .val (.long tms), .second, .val (.int qb), .val (.int ((ks &&& (2147483647 : Int32)) - (ks &&& (2147483647 : Int32)) / (7 : Int32) * (7 : Int32))), .val (.ref x1), .val (.int (1 : Int32)), .val (.int (1 : Int32)), .unset, .unset, .unset, .unset, .unset, .unset, .unset, .unset, .unset, .unset, .unset, .unset, .unset]) rfl ?_
        refine XS.iconst X84.here hx rfl (hb hby at_48) ?_
        refine XS.istore X84.here hx rfl (hb hby at_49) rfl (l' := #[.val (.int ks), .val (.int len), .val (.int byt), .val (.long tms), .second, .val (.int qb), .val (.int ((ks &&& (2147483647 : Int32)) - (ks &&& (2147483647 : Int32)) / (7 : Int32) * (7 : Int32))), .val (.ref x1), .val (.int (1 : Int32)), .val (.int (1 : Int32)), .val (.int (2 : Int32)), .unset, .unset, .unset, .unset, .unset, .unset, .unset, .unset, .unset, .unset, .unset, .unset]) rfl ?_
        refine XS.goto X84.here hx rfl (pc0 := 51) (pc' := 160) rfl (hb hby at_51) (by decide) (by decide) ?_
        exact k
      exact tail_cv x1 (1 : Int32) ((ks &&& (2147483647 : Int32)) - (ks &&& (2147483647 : Int32)) / (7 : Int32) * (7 : Int32)) T84 E_SET_AT Ft_SET_AT Fv_SET_AT Fs_SET_AT (by decide) X84 e84
    · refine own_stepW (B := s₁.setTop (mkF m 57 #[.val (.int ks), .val (.int len), .val (.int byt), .val (.long tms), .second, .val (.int qb), .val (.int ((ks &&& (2147483647 : Int32)) - (ks &&& (2147483647 : Int32)) / (7 : Int32) * (7 : Int32))), .unset, .unset, .unset, .unset, .unset, .unset, .unset, .unset, .unset, .unset, .unset, .unset, .unset, .unset, .unset, .unset] [(.int (2 : Int32)), (.int ((ks &&& (2147483647 : Int32)) - (ks &&& (2147483647 : Int32)) / (7 : Int32) * (7 : Int32)))])) (fun t k => ?_) ?_
      · show Steps p.tables e below (s₁.setTop (mkF m 34 #[.val (.int ks), .val (.int len), .val (.int byt), .val (.long tms), .second, .val (.int qb), .val (.int ((ks &&& (2147483647 : Int32)) - (ks &&& (2147483647 : Int32)) / (7 : Int32) * (7 : Int32))), .unset, .unset, .unset, .unset, .unset, .unset, .unset, .unset, .unset, .unset, .unset, .unset, .unset, .unset, .unset, .unset] [(.int (1 : Int32)), (.int ((ks &&& (2147483647 : Int32)) - (ks &&& (2147483647 : Int32)) / (7 : Int32) * (7 : Int32)))])) _
        refine XS.icmpYes X0.here hx rfl (pc0 := 34) (pc' := 54) rfl (hb hby at_34) rfl (feq hc34).2 (by decide) (by decide) ?_
        refine XS.iload X0.here hx rfl (hb hby at_54) rfl ?_
        refine XS.iconst X0.here hx rfl (hb hby at_56) ?_
        exact k
      by_cases hc57 : ((ks &&& (2147483647 : Int32)) - (ks &&& (2147483647 : Int32)) / (7 : Int32) * (7 : Int32)) = (2 : Int32)
      · refine own_stepW (B := s₁.setTop (mkF m 60 #[.val (.int ks), .val (.int len), .val (.int byt), .val (.long tms), .second, .val (.int qb), .val (.int ((ks &&& (2147483647 : Int32)) - (ks &&& (2147483647 : Int32)) / (7 : Int32) * (7 : Int32))), .unset, .unset, .unset, .unset, .unset, .unset, .unset, .unset, .unset, .unset, .unset, .unset, .unset, .unset, .unset, .unset] [])) (fun t k => ?_) ?_
        · show Steps p.tables e below (s₁.setTop (mkF m 57 #[.val (.int ks), .val (.int len), .val (.int byt), .val (.long tms), .second, .val (.int qb), .val (.int ((ks &&& (2147483647 : Int32)) - (ks &&& (2147483647 : Int32)) / (7 : Int32) * (7 : Int32))), .unset, .unset, .unset, .unset, .unset, .unset, .unset, .unset, .unset, .unset, .unset, .unset, .unset, .unset, .unset, .unset] [(.int (2 : Int32)), (.int ((ks &&& (2147483647 : Int32)) - (ks &&& (2147483647 : Int32)) / (7 : Int32) * (7 : Int32)))])) _
          refine XS.icmpNo X0.here hx rfl (hb hby at_57) rfl (teq hc57).2 ?_
          exact k
        obtain ⟨T85, X85, e85, st85⟩ := getS2 X0 hx hZ hown (host := "") (Or.inl (hw _ (List.mem_of_getElem? (i := 138) rfl))) Via.refl e0 S_DELETE (g := (mkF m 60 #[.val (.int ks), .val (.int len), .val (.int byt), .val (.long tms), .second, .val (.int qb), .val (.int ((ks &&& (2147483647 : Int32)) - (ks &&& (2147483647 : Int32)) / (7 : Int32) * (7 : Int32))), .unset, .unset, .unset, .unset, .unset, .unset, .unset, .unset, .unset, .unset, .unset, .unset, .unset, .unset, .unset, .unset] [])) rfl (hb hby at_60)
        refine own_stepW st85 ?_
        show own_GoW p e below s _ _ _ (T85.setTop (mkF m 63 #[.val (.int ks), .val (.int len), .val (.int byt), .val (.long tms), .second, .val (.int qb), .val (.int ((ks &&& (2147483647 : Int32)) - (ks &&& (2147483647 : Int32)) / (7 : Int32) * (7 : Int32))), .unset, .unset, .unset, .unset, .unset, .unset, .unset, .unset, .unset, .unset, .unset, .unset, .unset, .unset, .unset, .unset] [(.ref x2)]))
        refine own_stepW (B := T85.setTop (mkF m 160 #[.val (.int ks), .val (.int len), .val (.int byt), .val (.long tms), .second, .val (.int qb), .val (.int ((ks &&& (2147483647 : Int32)) - (ks &&& (2147483647 : Int32)) / (7 : Int32) * (7 : Int32))), .val (.ref x2), .val (.int (0 : Int32)), .val (.int (0 : Int32)), .val (.int (2 : Int32)), .unset, .unset, .unset, .unset, .unset, .unset, .unset, .unset, .unset, .unset, .unset, .unset] [])) (fun t k => ?_) ?_
        · show Steps p.tables e below (T85.setTop (mkF m 63 #[.val (.int ks), .val (.int len), .val (.int byt), .val (.long tms), .second, .val (.int qb), .val (.int ((ks &&& (2147483647 : Int32)) - (ks &&& (2147483647 : Int32)) / (7 : Int32) * (7 : Int32))), .unset, .unset, .unset, .unset, .unset, .unset, .unset, .unset, .unset, .unset, .unset, .unset, .unset, .unset, .unset, .unset] [(.ref x2)])) _
          refine XS.astore X85.here hx rfl (hb hby at_63) rfl rfl (l' := #[.val (.int ks), .val (.int len), .val (.int byt), .val (.long tms), .second, .val (.int qb), .val (.int ((ks &&& (2147483647 : Int32)) - (ks &&& (2147483647 : Int32)) / (7 : Int32) * (7 : Int32))), .val (.ref x2), .unset, .unset, .unset, .unset, .unset, .unset, .unset, .unset, .unset, .unset, .unset, .unset, .unset, .unset, .unset]) rfl ?_
          refine XS.iconst X85.here hx rfl (hb hby at_65) ?_
          refine XS.istore X85.here hx rfl (hb hby at_66) rfl (l' := #[.val (.int ks), .val (.int len), .val (.int byt), .val (.long tms), .second, .val (.int qb), .val (.int ((ks &&& (2147483647 : Int32)) - (ks &&& (2147483647 : Int32)) / (7 : Int32) * (7 : Int32))), .val (.ref x2), .val (.int (0 : Int32)), .unset, .unset, .unset, .unset, .unset, .unset, .unset, .unset, .unset, .unset, .unset, .unset, .unset, .unset]) rfl ?_
          refine XS.iconst X85.here hx rfl (hb hby at_68) ?_
          refine XS.istore X85.here hx rfl (hb hby at_69) rfl (l' := #[.val (.int ks), .val (.int len), .val (.int byt), .val (.long tms), .second, .val (.int qb), .val (.int ((ks &&& (2147483647 : Int32)) - (ks &&& (2147483647 : Int32)) / (7 : Int32) * (7 : Int32))), .val (.ref x2), .val (.int (0 : Int32)), .val (.int (0 : Int32)), .unset, .unset, .unset, .unset, .unset, .unset, .unset, .unset, .unset, .unset, .unset, .unset, .unset]) rfl ?_
          refine XS.iconst X85.here hx rfl (hb hby at_71) ?_
          refine XS.istore X85.here hx rfl (hb hby at_72) rfl (l' := #[.val (.int ks), .val (.int len), .val (.int byt), .val (.long tms), .second, .val (.int qb), .val (.int ((ks &&& (2147483647 : Int32)) - (ks &&& (2147483647 : Int32)) / (7 : Int32) * (7 : Int32))), .val (.ref x2), .val (.int (0 : Int32)), .val (.int (0 : Int32)), .val (.int (2 : Int32)), .unset, .unset, .unset, .unset, .unset, .unset, .unset, .unset, .unset, .unset, .unset, .unset]) rfl ?_
          refine XS.goto X85.here hx rfl (pc0 := 74) (pc' := 160) rfl (hb hby at_74) (by decide) (by decide) ?_
          exact k
        exact tail_cn x2 (0 : Int32) ((ks &&& (2147483647 : Int32)) - (ks &&& (2147483647 : Int32)) / (7 : Int32) * (7 : Int32)) T85 E_DELETE Ft_DELETE Fv_DELETE Fs_DELETE (by decide) X85 e85
      · refine own_stepW (B := s₁.setTop (mkF m 80 #[.val (.int ks), .val (.int len), .val (.int byt), .val (.long tms), .second, .val (.int qb), .val (.int ((ks &&& (2147483647 : Int32)) - (ks &&& (2147483647 : Int32)) / (7 : Int32) * (7 : Int32))), .unset, .unset, .unset, .unset, .unset, .unset, .unset, .unset, .unset, .unset, .unset, .unset, .unset, .unset, .unset, .unset] [(.int (3 : Int32)), (.int ((ks &&& (2147483647 : Int32)) - (ks &&& (2147483647 : Int32)) / (7 : Int32) * (7 : Int32)))])) (fun t k => ?_) ?_
        · show Steps p.tables e below (s₁.setTop (mkF m 57 #[.val (.int ks), .val (.int len), .val (.int byt), .val (.long tms), .second, .val (.int qb), .val (.int ((ks &&& (2147483647 : Int32)) - (ks &&& (2147483647 : Int32)) / (7 : Int32) * (7 : Int32))), .unset, .unset, .unset, .unset, .unset, .unset, .unset, .unset, .unset, .unset, .unset, .unset, .unset, .unset, .unset, .unset] [(.int (2 : Int32)), (.int ((ks &&& (2147483647 : Int32)) - (ks &&& (2147483647 : Int32)) / (7 : Int32) * (7 : Int32)))])) _
          refine XS.icmpYes X0.here hx rfl (pc0 := 57) (pc' := 77) rfl (hb hby at_57) rfl (feq hc57).2 (by decide) (by decide) ?_
          refine XS.iload X0.here hx rfl (hb hby at_77) rfl ?_
          refine XS.iconst X0.here hx rfl (hb hby at_79) ?_
          exact k
        by_cases hc80 : ((ks &&& (2147483647 : Int32)) - (ks &&& (2147483647 : Int32)) / (7 : Int32) * (7 : Int32)) = (3 : Int32)
        · refine own_stepW (B := s₁.setTop (mkF m 83 #[.val (.int ks), .val (.int len), .val (.int byt), .val (.long tms), .second, .val (.int qb), .val (.int ((ks &&& (2147483647 : Int32)) - (ks &&& (2147483647 : Int32)) / (7 : Int32) * (7 : Int32))), .unset, .unset, .unset, .unset, .unset, .unset, .unset, .unset, .unset, .unset, .unset, .unset, .unset, .unset, .unset, .unset] [])) (fun t k => ?_) ?_
          · show Steps p.tables e below (s₁.setTop (mkF m 80 #[.val (.int ks), .val (.int len), .val (.int byt), .val (.long tms), .second, .val (.int qb), .val (.int ((ks &&& (2147483647 : Int32)) - (ks &&& (2147483647 : Int32)) / (7 : Int32) * (7 : Int32))), .unset, .unset, .unset, .unset, .unset, .unset, .unset, .unset, .unset, .unset, .unset, .unset, .unset, .unset, .unset, .unset] [(.int (3 : Int32)), (.int ((ks &&& (2147483647 : Int32)) - (ks &&& (2147483647 : Int32)) / (7 : Int32) * (7 : Int32)))])) _
            refine XS.icmpNo X0.here hx rfl (hb hby at_80) rfl (teq hc80).2 ?_
            exact k
          obtain ⟨T86, X86, e86, st86⟩ := getS2 X0 hx hZ hown (host := "") (Or.inl (hw _ (List.mem_of_getElem? (i := 120) rfl))) Via.refl e0 S_DELETE_AT (g := (mkF m 83 #[.val (.int ks), .val (.int len), .val (.int byt), .val (.long tms), .second, .val (.int qb), .val (.int ((ks &&& (2147483647 : Int32)) - (ks &&& (2147483647 : Int32)) / (7 : Int32) * (7 : Int32))), .unset, .unset, .unset, .unset, .unset, .unset, .unset, .unset, .unset, .unset, .unset, .unset, .unset, .unset, .unset, .unset] [])) rfl (hb hby at_83)
          refine own_stepW st86 ?_
          show own_GoW p e below s _ _ _ (T86.setTop (mkF m 86 #[.val (.int ks), .val (.int len), .val (.int byt), .val (.long tms), .second, .val (.int qb), .val (.int ((ks &&& (2147483647 : Int32)) - (ks &&& (2147483647 : Int32)) / (7 : Int32) * (7 : Int32))), .unset, .unset, .unset, .unset, .unset, .unset, .unset, .unset, .unset, .unset, .unset, .unset, .unset, .unset, .unset, .unset] [(.ref x3)]))
          refine own_stepW (B := T86.setTop (mkF m 160 #[.val (.int ks), .val (.int len), .val (.int byt), .val (.long tms), .second, .val (.int qb), .val (.int ((ks &&& (2147483647 : Int32)) - (ks &&& (2147483647 : Int32)) / (7 : Int32) * (7 : Int32))), .val (.ref x3), .val (.int (0 : Int32)), .val (.int (1 : Int32)), .val (.int (2 : Int32)), .unset, .unset, .unset, .unset, .unset, .unset, .unset, .unset, .unset, .unset, .unset, .unset] [])) (fun t k => ?_) ?_
          · show Steps p.tables e below (T86.setTop (mkF m 86 #[.val (.int ks), .val (.int len), .val (.int byt), .val (.long tms), .second, .val (.int qb), .val (.int ((ks &&& (2147483647 : Int32)) - (ks &&& (2147483647 : Int32)) / (7 : Int32) * (7 : Int32))), .unset, .unset, .unset, .unset, .unset, .unset, .unset, .unset, .unset, .unset, .unset, .unset, .unset, .unset, .unset, .unset] [(.ref x3)])) _
            refine XS.astore X86.here hx rfl (hb hby at_86) rfl rfl (l' := #[.val (.int ks), .val (.int len), .val (.int byt), .val (.long tms), .second, .val (.int qb), .val (.int ((ks &&& (2147483647 : Int32)) - (ks &&& (2147483647 : Int32)) / (7 : Int32) * (7 : Int32))), .val (.ref x3), .unset, .unset, .unset, .unset, .unset, .unset, .unset, .unset, .unset, .unset, .unset, .unset, .unset, .unset, .unset]) rfl ?_
            refine XS.iconst X86.here hx rfl (hb hby at_88) ?_
            refine XS.istore X86.here hx rfl (hb hby at_89) rfl (l' := #[.val (.int ks), .val (.int len), .val (.int byt), .val (.long tms), .second, .val (.int qb), .val (.int ((ks &&& (2147483647 : Int32)) - (ks &&& (2147483647 : Int32)) / (7 : Int32) * (7 : Int32))), .val (.ref x3), .val (.int (0 : Int32)), .unset, .unset, .unset, .unset, .unset, .unset, .unset, .unset, .unset, .unset, .unset, .unset, .unset, .unset]) rfl ?_
            refine XS.iconst X86.here hx rfl (hb hby at_91) ?_
            refine XS.istore X86.here hx rfl (hb hby at_92) rfl (l' := #[.val (.int ks), .val (.int len), .val (.int byt), .val (.long tms), .second, .val (.int qb), .val (.int ((ks &&& (2147483647 : Int32)) - (ks &&& (2147483647 : Int32)) / (7 : Int32) * (7 : Int32))), .val (.ref x3), .val (.int (0 : Int32)), .val (.int (1 : Int32)), .unset, .unset, .unset, .unset, .unset, .unset, .unset, .unset, .unset, .unset, .unset, .unset, .unset]) rfl ?_
            refine XS.iconst X86.here hx rfl (hb hby at_94) ?_
            refine XS.istore X86.here hx rfl (hb hby at_95) rfl (l' := #[.val (.int ks), .val (.int len), .val (.int byt), .val (.long tms), .second, .val (.int qb), .val (.int ((ks &&& (2147483647 : Int32)) - (ks &&& (2147483647 : Int32)) / (7 : Int32) * (7 : Int32))), .val (.ref x3), .val (.int (0 : Int32)), .val (.int (1 : Int32)), .val (.int (2 : Int32)), .unset, .unset, .unset, .unset, .unset, .unset, .unset, .unset, .unset, .unset, .unset, .unset]) rfl ?_
            refine XS.goto X86.here hx rfl (pc0 := 97) (pc' := 160) rfl (hb hby at_97) (by decide) (by decide) ?_
            exact k
          exact tail_cn x3 (1 : Int32) ((ks &&& (2147483647 : Int32)) - (ks &&& (2147483647 : Int32)) / (7 : Int32) * (7 : Int32)) T86 E_DELETE_AT Ft_DELETE_AT Fv_DELETE_AT Fs_DELETE_AT (by decide) X86 e86
        · refine own_stepW (B := s₁.setTop (mkF m 103 #[.val (.int ks), .val (.int len), .val (.int byt), .val (.long tms), .second, .val (.int qb), .val (.int ((ks &&& (2147483647 : Int32)) - (ks &&& (2147483647 : Int32)) / (7 : Int32) * (7 : Int32))), .unset, .unset, .unset, .unset, .unset, .unset, .unset, .unset, .unset, .unset, .unset, .unset, .unset, .unset, .unset, .unset] [(.int (4 : Int32)), (.int ((ks &&& (2147483647 : Int32)) - (ks &&& (2147483647 : Int32)) / (7 : Int32) * (7 : Int32)))])) (fun t k => ?_) ?_
          · show Steps p.tables e below (s₁.setTop (mkF m 80 #[.val (.int ks), .val (.int len), .val (.int byt), .val (.long tms), .second, .val (.int qb), .val (.int ((ks &&& (2147483647 : Int32)) - (ks &&& (2147483647 : Int32)) / (7 : Int32) * (7 : Int32))), .unset, .unset, .unset, .unset, .unset, .unset, .unset, .unset, .unset, .unset, .unset, .unset, .unset, .unset, .unset, .unset] [(.int (3 : Int32)), (.int ((ks &&& (2147483647 : Int32)) - (ks &&& (2147483647 : Int32)) / (7 : Int32) * (7 : Int32)))])) _
            refine XS.icmpYes X0.here hx rfl (pc0 := 80) (pc' := 100) rfl (hb hby at_80) rfl (feq hc80).2 (by decide) (by decide) ?_
            refine XS.iload X0.here hx rfl (hb hby at_100) rfl ?_
            refine XS.iconst X0.here hx rfl (hb hby at_102) ?_
            exact k
          by_cases hc103 : ((ks &&& (2147483647 : Int32)) - (ks &&& (2147483647 : Int32)) / (7 : Int32) * (7 : Int32)) = (4 : Int32)
          · refine own_stepW (B := s₁.setTop (mkF m 106 #[.val (.int ks), .val (.int len), .val (.int byt), .val (.long tms), .second, .val (.int qb), .val (.int ((ks &&& (2147483647 : Int32)) - (ks &&& (2147483647 : Int32)) / (7 : Int32) * (7 : Int32))), .unset, .unset, .unset, .unset, .unset, .unset, .unset, .unset, .unset, .unset, .unset, .unset, .unset, .unset, .unset, .unset] [])) (fun t k => ?_) ?_
            · show Steps p.tables e below (s₁.setTop (mkF m 103 #[.val (.int ks), .val (.int len), .val (.int byt), .val (.long tms), .second, .val (.int qb), .val (.int ((ks &&& (2147483647 : Int32)) - (ks &&& (2147483647 : Int32)) / (7 : Int32) * (7 : Int32))), .unset, .unset, .unset, .unset, .unset, .unset, .unset, .unset, .unset, .unset, .unset, .unset, .unset, .unset, .unset, .unset] [(.int (4 : Int32)), (.int ((ks &&& (2147483647 : Int32)) - (ks &&& (2147483647 : Int32)) / (7 : Int32) * (7 : Int32)))])) _
              refine XS.icmpNo X0.here hx rfl (hb hby at_103) rfl (teq hc103).2 ?_
              exact k
            obtain ⟨T87, X87, e87, st87⟩ := getS2 X0 hx hZ hown (host := "") (Or.inl (hw _ (List.mem_of_getElem? (i := 136) rfl))) Via.refl e0 S_DELETE_UPTO (g := (mkF m 106 #[.val (.int ks), .val (.int len), .val (.int byt), .val (.long tms), .second, .val (.int qb), .val (.int ((ks &&& (2147483647 : Int32)) - (ks &&& (2147483647 : Int32)) / (7 : Int32) * (7 : Int32))), .unset, .unset, .unset, .unset, .unset, .unset, .unset, .unset, .unset, .unset, .unset, .unset, .unset, .unset, .unset, .unset] [])) rfl (hb hby at_106)
            refine own_stepW st87 ?_
            show own_GoW p e below s _ _ _ (T87.setTop (mkF m 109 #[.val (.int ks), .val (.int len), .val (.int byt), .val (.long tms), .second, .val (.int qb), .val (.int ((ks &&& (2147483647 : Int32)) - (ks &&& (2147483647 : Int32)) / (7 : Int32) * (7 : Int32))), .unset, .unset, .unset, .unset, .unset, .unset, .unset, .unset, .unset, .unset, .unset, .unset, .unset, .unset, .unset, .unset] [(.ref x4)]))
            refine own_stepW (B := T87.setTop (mkF m 160 #[.val (.int ks), .val (.int len), .val (.int byt), .val (.long tms), .second, .val (.int qb), .val (.int ((ks &&& (2147483647 : Int32)) - (ks &&& (2147483647 : Int32)) / (7 : Int32) * (7 : Int32))), .val (.ref x4), .val (.int (0 : Int32)), .val (.int (1 : Int32)), .val (.int (2 : Int32)), .unset, .unset, .unset, .unset, .unset, .unset, .unset, .unset, .unset, .unset, .unset, .unset] [])) (fun t k => ?_) ?_
            · show Steps p.tables e below (T87.setTop (mkF m 109 #[.val (.int ks), .val (.int len), .val (.int byt), .val (.long tms), .second, .val (.int qb), .val (.int ((ks &&& (2147483647 : Int32)) - (ks &&& (2147483647 : Int32)) / (7 : Int32) * (7 : Int32))), .unset, .unset, .unset, .unset, .unset, .unset, .unset, .unset, .unset, .unset, .unset, .unset, .unset, .unset, .unset, .unset] [(.ref x4)])) _
              refine XS.astore X87.here hx rfl (hb hby at_109) rfl rfl (l' := #[.val (.int ks), .val (.int len), .val (.int byt), .val (.long tms), .second, .val (.int qb), .val (.int ((ks &&& (2147483647 : Int32)) - (ks &&& (2147483647 : Int32)) / (7 : Int32) * (7 : Int32))), .val (.ref x4), .unset, .unset, .unset, .unset, .unset, .unset, .unset, .unset, .unset, .unset, .unset, .unset, .unset, .unset, .unset]) rfl ?_
              refine XS.iconst X87.here hx rfl (hb hby at_111) ?_
              refine XS.istore X87.here hx rfl (hb hby at_112) rfl (l' := #[.val (.int ks), .val (.int len), .val (.int byt), .val (.long tms), .second, .val (.int qb), .val (.int ((ks &&& (2147483647 : Int32)) - (ks &&& (2147483647 : Int32)) / (7 : Int32) * (7 : Int32))), .val (.ref x4), .val (.int (0 : Int32)), .unset, .unset, .unset, .unset, .unset, .unset, .unset, .unset, .unset, .unset, .unset, .unset, .unset, .unset]) rfl ?_
              refine XS.iconst X87.here hx rfl (hb hby at_114) ?_
              refine XS.istore X87.here hx rfl (hb hby at_115) rfl (l' := #[.val (.int ks), .val (.int len), .val (.int byt), .val (.long tms), .second, .val (.int qb), .val (.int ((ks &&& (2147483647 : Int32)) - (ks &&& (2147483647 : Int32)) / (7 : Int32) * (7 : Int32))), .val (.ref x4), .val (.int (0 : Int32)), .val (.int (1 : Int32)), .unset, .unset, .unset, .unset, .unset, .unset, .unset, .unset, .unset, .unset, .unset, .unset, .unset]) rfl ?_
              refine XS.iconst X87.here hx rfl (hb hby at_117) ?_
              refine XS.istore X87.here hx rfl (hb hby at_118) rfl (l' := #[.val (.int ks), .val (.int len), .val (.int byt), .val (.long tms), .second, .val (.int qb), .val (.int ((ks &&& (2147483647 : Int32)) - (ks &&& (2147483647 : Int32)) / (7 : Int32) * (7 : Int32))), .val (.ref x4), .val (.int (0 : Int32)), .val (.int (1 : Int32)), .val (.int (2 : Int32)), .unset, .unset, .unset, .unset, .unset, .unset, .unset, .unset, .unset, .unset, .unset, .unset]) rfl ?_
              refine XS.goto X87.here hx rfl (pc0 := 120) (pc' := 160) rfl (hb hby at_120) (by decide) (by decide) ?_
              exact k
            exact tail_cn x4 (1 : Int32) ((ks &&& (2147483647 : Int32)) - (ks &&& (2147483647 : Int32)) / (7 : Int32) * (7 : Int32)) T87 E_DELETE_UPTO Ft_DELETE_UPTO Fv_DELETE_UPTO Fs_DELETE_UPTO (by decide) X87 e87
          · refine own_stepW (B := s₁.setTop (mkF m 126 #[.val (.int ks), .val (.int len), .val (.int byt), .val (.long tms), .second, .val (.int qb), .val (.int ((ks &&& (2147483647 : Int32)) - (ks &&& (2147483647 : Int32)) / (7 : Int32) * (7 : Int32))), .unset, .unset, .unset, .unset, .unset, .unset, .unset, .unset, .unset, .unset, .unset, .unset, .unset, .unset, .unset, .unset] [(.int (5 : Int32)), (.int ((ks &&& (2147483647 : Int32)) - (ks &&& (2147483647 : Int32)) / (7 : Int32) * (7 : Int32)))])) (fun t k => ?_) ?_
            · show Steps p.tables e below (s₁.setTop (mkF m 103 #[.val (.int ks), .val (.int len), .val (.int byt), .val (.long tms), .second, .val (.int qb), .val (.int ((ks &&& (2147483647 : Int32)) - (ks &&& (2147483647 : Int32)) / (7 : Int32) * (7 : Int32))), .unset, .unset, .unset, .unset, .unset, .unset, .unset, .unset, .unset, .unset, .unset, .unset, .unset, .unset, .unset, .unset] [(.int (4 : Int32)), (.int ((ks &&& (2147483647 : Int32)) - (ks &&& (2147483647 : Int32)) / (7 : Int32) * (7 : Int32)))])) _
              refine XS.icmpYes X0.here hx rfl (pc0 := 103) (pc' := 123) rfl (hb hby at_103) rfl (feq hc103).2 (by decide) (by decide) ?_
              refine XS.iload X0.here hx rfl (hb hby at_123) rfl ?_
              refine XS.iconst X0.here hx rfl (hb hby at_125) ?_
              exact k
            by_cases hc126 : ((ks &&& (2147483647 : Int32)) - (ks &&& (2147483647 : Int32)) / (7 : Int32) * (7 : Int32)) = (5 : Int32)
            · refine own_stepW (B := s₁.setTop (mkF m 129 #[.val (.int ks), .val (.int len), .val (.int byt), .val (.long tms), .second, .val (.int qb), .val (.int ((ks &&& (2147483647 : Int32)) - (ks &&& (2147483647 : Int32)) / (7 : Int32) * (7 : Int32))), .unset, .unset, .unset, .unset, .unset, .unset, .unset, .unset, .unset, .unset, .unset, .unset, .unset, .unset, .unset, .unset] [])) (fun t k => ?_) ?_
              · show Steps p.tables e below (s₁.setTop (mkF m 126 #[.val (.int ks), .val (.int len), .val (.int byt), .val (.long tms), .second, .val (.int qb), .val (.int ((ks &&& (2147483647 : Int32)) - (ks &&& (2147483647 : Int32)) / (7 : Int32) * (7 : Int32))), .unset, .unset, .unset, .unset, .unset, .unset, .unset, .unset, .unset, .unset, .unset, .unset, .unset, .unset, .unset, .unset] [(.int (5 : Int32)), (.int ((ks &&& (2147483647 : Int32)) - (ks &&& (2147483647 : Int32)) / (7 : Int32) * (7 : Int32)))])) _
                refine XS.icmpNo X0.here hx rfl (hb hby at_126) rfl (teq hc126).2 ?_
                exact k
              obtain ⟨T88, X88, e88, st88⟩ := getS2 X0 hx hZ hown (host := "") (Or.inl (hw _ (List.mem_of_getElem? (i := 133) rfl))) Via.refl e0 S_DELETE_FAMILY (g := (mkF m 129 #[.val (.int ks), .val (.int len), .val (.int byt), .val (.long tms), .second, .val (.int qb), .val (.int ((ks &&& (2147483647 : Int32)) - (ks &&& (2147483647 : Int32)) / (7 : Int32) * (7 : Int32))), .unset, .unset, .unset, .unset, .unset, .unset, .unset, .unset, .unset, .unset, .unset, .unset, .unset, .unset, .unset, .unset] [])) rfl (hb hby at_129)
              refine own_stepW st88 ?_
              show own_GoW p e below s _ _ _ (T88.setTop (mkF m 132 #[.val (.int ks), .val (.int len), .val (.int byt), .val (.long tms), .second, .val (.int qb), .val (.int ((ks &&& (2147483647 : Int32)) - (ks &&& (2147483647 : Int32)) / (7 : Int32) * (7 : Int32))), .unset, .unset, .unset, .unset, .unset, .unset, .unset, .unset, .unset, .unset, .unset, .unset, .unset, .unset, .unset, .unset] [(.ref x5)]))
              refine own_stepW (B := T88.setTop (mkF m 160 #[.val (.int ks), .val (.int len), .val (.int byt), .val (.long tms), .second, .val (.int qb), .val (.int ((ks &&& (2147483647 : Int32)) - (ks &&& (2147483647 : Int32)) / (7 : Int32) * (7 : Int32))), .val (.ref x5), .val (.int (0 : Int32)), .val (.int (0 : Int32)), .val (.int (1 : Int32)), .unset, .unset, .unset, .unset, .unset, .unset, .unset, .unset, .unset, .unset, .unset, .unset] [])) (fun t k => ?_) ?_
              · show Steps p.tables e below (T88.setTop (mkF m 132 #[.val (.int ks), .val (.int len), .val (.int byt), .val (.long tms), .second, .val (.int qb), .val (.int ((ks &&& (2147483647 : Int32)) - (ks &&& (2147483647 : Int32)) / (7 : Int32) * (7 : Int32))), .unset, .unset, .unset, .unset, .unset, .unset, .unset, .unset, .unset, .unset, .unset, .unset, .unset, .unset, .unset, .unset] [(.ref x5)])) _
                refine XS.astore X88.here hx rfl (hb hby at_132) rfl rfl (l' := #[.val (.int ks), .val (.int len), .val (.int byt), .val (.long tms), .second, .val (.int qb), .val (.int ((ks &&& (2147483647 : Int32)) - (ks &&& (2147483647 : Int32)) / (7 : Int32) * (7 : Int32))), .val (.ref x5), .unset, .unset, .unset, .unset, .unset, .unset, .unset, .unset, .unset, .unset, .unset, .unset, .unset, .unset, .unset]) rfl ?_
                refine XS.iconst X88.here hx rfl (hb hby at_134) ?_
                refine XS.istore X88.here hx rfl (hb hby at_135) rfl (l' := #[.val (.int ks), .val (.int len), .val (.int byt), .val (.long tms), .second, .val (.int qb), .val (.int ((ks &&& (2147483647 : Int32)) - (ks &&& (2147483647 : Int32)) / (7 : Int32) * (7 : Int32))), .val (.ref x5), .val (.int (0 : Int32)), .unset, .unset, .unset, .unset, .unset, .unset, .unset, .unset, .unset, .unset, .unset, .unset, .unset, .unset]) rfl ?_
                refine XS.iconst X88.here hx rfl (hb hby at_137) ?_
                refine XS.istore X88.here hx rfl (hb hby at_138) rfl (l' := #[.val (.int ks), .val (.int len), .val (.int byt), .val (.long tms), .second, .val (.int qb), .val (.int ((ks &&& (2147483647 : Int32)) - (ks &&& (2147483647 : Int32)) / (7 : Int32) * (7 : Int32))), .val (.ref x5), .val (.int (0 : Int32)), .val (.int (0 : Int32)), .unset, .unset, .unset, .unset, .unset, .unset, .unset, .unset, .unset, .unset, .unset, .unset, .unset]) rfl ?_
                refine XS.iconst X88.here hx rfl (hb hby at_140) ?_
                refine XS.istore X88.here hx rfl (hb hby at_141) rfl (l' := #[.val (.int ks), .val (.int len), .val (.int byt), .val (.long tms), .second, .val (.int qb), .val (.int ((ks &&& (2147483647 : Int32)) - (ks &&& (2147483647 : Int32)) / (7 : Int32) * (7 : Int32))), .val (.ref x5), .val (.int (0 : Int32)), .val (.int (0 : Int32)), .val (.int (1 : Int32)), .unset, .unset, .unset, .unset, .unset, .unset, .unset, .unset, .unset, .unset, .unset, .unset]) rfl ?_
                refine XS.goto X88.here hx rfl (pc0 := 143) (pc' := 160) rfl (hb hby at_143) (by decide) (by decide) ?_
                exact k
              exact tail_fn x5 (0 : Int32) ((ks &&& (2147483647 : Int32)) - (ks &&& (2147483647 : Int32)) / (7 : Int32) * (7 : Int32)) T88 E_DELETE_FAMILY Ft_DELETE_FAMILY Fv_DELETE_FAMILY Fs_DELETE_FAMILY (by decide) X88 e88
            · refine own_stepW (B := s₁.setTop (mkF m 146 #[.val (.int ks), .val (.int len), .val (.int byt), .val (.long tms), .second, .val (.int qb), .val (.int ((ks &&& (2147483647 : Int32)) - (ks &&& (2147483647 : Int32)) / (7 : Int32) * (7 : Int32))), .unset, .unset, .unset, .unset, .unset, .unset, .unset, .unset, .unset, .unset, .unset, .unset, .unset, .unset, .unset, .unset] [])) (fun t k => ?_) ?_
              · show Steps p.tables e below (s₁.setTop (mkF m 126 #[.val (.int ks), .val (.int len), .val (.int byt), .val (.long tms), .second, .val (.int qb), .val (.int ((ks &&& (2147483647 : Int32)) - (ks &&& (2147483647 : Int32)) / (7 : Int32) * (7 : Int32))), .unset, .unset, .unset, .unset, .unset, .unset, .unset, .unset, .unset, .unset, .unset, .unset, .unset, .unset, .unset, .unset] [(.int (5 : Int32)), (.int ((ks &&& (2147483647 : Int32)) - (ks &&& (2147483647 : Int32)) / (7 : Int32) * (7 : Int32)))])) _
                refine XS.icmpYes X0.here hx rfl (pc0 := 126) (pc' := 146) rfl (hb hby at_126) rfl (feq hc126).2 (by decide) (by decide) ?_
                exact k
              obtain ⟨T89, X89, e89, st89⟩ := getS2 X0 hx hZ hown (host := "") (Or.inl (hw _ (List.mem_of_getElem? (i := 129) rfl))) Via.refl e0 S_DELETE_ROW (g := (mkF m 146 #[.val (.int ks), .val (.int len), .val (.int byt), .val (.long tms), .second, .val (.int qb), .val (.int ((ks &&& (2147483647 : Int32)) - (ks &&& (2147483647 : Int32)) / (7 : Int32) * (7 : Int32))), .unset, .unset, .unset, .unset, .unset, .unset, .unset, .unset, .unset, .unset, .unset, .unset, .unset, .unset, .unset, .unset] [])) rfl (hb hby at_146)
              refine own_stepW st89 ?_
              show own_GoW p e below s _ _ _ (T89.setTop (mkF m 149 #[.val (.int ks), .val (.int len), .val (.int byt), .val (.long tms), .second, .val (.int qb), .val (.int ((ks &&& (2147483647 : Int32)) - (ks &&& (2147483647 : Int32)) / (7 : Int32) * (7 : Int32))), .unset, .unset, .unset, .unset, .unset, .unset, .unset, .unset, .unset, .unset, .unset, .unset, .unset, .unset, .unset, .unset] [(.ref x6)]))
              refine own_stepW (B := T89.setTop (mkF m 160 #[.val (.int ks), .val (.int len), .val (.int byt), .val (.long tms), .second, .val (.int qb), .val (.int ((ks &&& (2147483647 : Int32)) - (ks &&& (2147483647 : Int32)) / (7 : Int32) * (7 : Int32))), .val (.ref x6), .val (.int (0 : Int32)), .val (.int (0 : Int32)), .val (.int (0 : Int32)), .unset, .unset, .unset, .unset, .unset, .unset, .unset, .unset, .unset, .unset, .unset, .unset] [])) (fun t k => ?_) ?_
              · show Steps p.tables e below (T89.setTop (mkF m 149 #[.val (.int ks), .val (.int len), .val (.int byt), .val (.long tms), .second, .val (.int qb), .val (.int ((ks &&& (2147483647 : Int32)) - (ks &&& (2147483647 : Int32)) / (7 : Int32) * (7 : Int32))), .unset, .unset, .unset, .unset, .unset, .unset, .unset, .unset, .unset, .unset, .unset, .unset, .unset, .unset, .unset, .unset] [(.ref x6)])) _
                refine XS.astore X89.here hx rfl (hb hby at_149) rfl rfl (l' := #[.val (.int ks), .val (.int len), .val (.int byt), .val (.long tms), .second, .val (.int qb), .val (.int ((ks &&& (2147483647 : Int32)) - (ks &&& (2147483647 : Int32)) / (7 : Int32) * (7 : Int32))), .val (.ref x6), .unset, .unset, .unset, .unset, .unset, .unset, .unset, .unset, .unset, .unset, .unset, .unset, .unset, .unset, .unset]) rfl ?_
                refine XS.iconst X89.here hx rfl (hb hby at_151) ?_
                refine XS.istore X89.here hx rfl (hb hby at_152) rfl (l' := #[.val (.int ks), .val (.int len), .val (.int byt), .val (.long tms), .second, .val (.int qb), .val (.int ((ks &&& (2147483647 : Int32)) - (ks &&& (2147483647 : Int32)) / (7 : Int32) * (7 : Int32))), .val (.ref x6), .val (.int (0 : Int32)), .unset, .unset, .unset, .unset, .unset, .unset, .unset, .unset, .unset, .unset, .unset, .unset, .unset, .unset]) rfl ?_
                refine XS.iconst X89.here hx rfl (hb hby at_154) ?_
                refine XS.istore X89.here hx rfl (hb hby at_155) rfl (l' := #[.val (.int ks), .val (.int len), .val (.int byt), .val (.long tms), .second, .val (.int qb), .val (.int ((ks &&& (2147483647 : Int32)) - (ks &&& (2147483647 : Int32)) / (7 : Int32) * (7 : Int32))), .val (.ref x6), .val (.int (0 : Int32)), .val (.int (0 : Int32)), .unset, .unset, .unset, .unset, .unset, .unset, .unset, .unset, .unset, .unset, .unset, .unset, .unset]) rfl ?_
                refine XS.iconst X89.here hx rfl (hb hby at_157) ?_
                refine XS.istore X89.here hx rfl (hb hby at_158) rfl (l' := #[.val (.int ks), .val (.int len), .val (.int byt), .val (.long tms), .second, .val (.int qb), .val (.int ((ks &&& (2147483647 : Int32)) - (ks &&& (2147483647 : Int32)) / (7 : Int32) * (7 : Int32))), .val (.ref x6), .val (.int (0 : Int32)), .val (.int (0 : Int32)), .val (.int (0 : Int32)), .unset, .unset, .unset, .unset, .unset, .unset, .unset, .unset, .unset, .unset, .unset, .unset]) rfl ?_
                exact k
              exact tail_rn x6 (0 : Int32) ((ks &&& (2147483647 : Int32)) - (ks &&& (2147483647 : Int32)) / (7 : Int32) * (7 : Int32)) T89 E_DELETE_ROW Ft_DELETE_ROW Fv_DELETE_ROW Fs_DELETE_ROW (by decide) X89 e89
theorem own_ord {t : Term} {x : Addr} {k : Int32} {C n d : String} {args : Array Value} {s : State} (ht : t.eval args s none [] s = some (.ref x)) (h : (Cond.eq (.field t C n d) (.int k)).value args s none s [] = some true) : s.fieldOf? x C n d = some (.int k) := by
  rw [← fld_at (C := C) (n := n) (dd := d) ht]
  exact Jvm.Free.NT.SwA.eq_int (Cond.before_iff.mpr h)
theorem own_apart {x y : Addr} {j k : Int32} {C n d : String} {s : State} (h1 : s.fieldOf? x C n d = some (.int j)) (h2 : s.fieldOf? y C n d = some (.int k)) (hjk : j ≠ k) : ¬ (x = y) := by
  rintro rfl
  exact hjk (Value.int.inj (Option.some.inj (h1.symm.trans h2)))
theorem own_fref {t u : Term} {x y : Addr} {C n d : String} {args : Array Value} {s : State} (ht : t.eval args s none [] s = some (.ref x)) (hu : u.eval args s none [] s = some (.ref y)) (h : (Cond.eq (.field t C n d) u).value args s none s [] = some true) : s.fieldOf? x C n d = some (.ref y) := by
  rw [← fld_at (C := C) (n := n) (dd := d) ht]
  cases he : (Term.field t C n d).eval args s none [] s with
  | none => simp [Cond.value, he] at h
  | some v =>
    cases v <;> simp [Cond.value, he, hu] at h
    rw [h]
set_option maxRecDepth 65536 in
set_option maxHeartbeats 40000000 in
theorem comes_1 {Post : Tables → Env → Array Value → State → Outcome → State → Prop} (hpost : ∀ tb e args s v u, (limb_1_1.after args s (.returned v) u = true ∧ limb_1_2.after args s (.returned v) u = true ∧ True) → ReturnedEndW s (.returned v) u (Jvm.fieldLocs frame_1_writes args s ++ Jvm.arrayLocs frame_1_arrays args s ++ Jvm.staticLocs frame_1_statics s) 32 2176 → Post tb e args s (.returned v) u) :
    ArmFor flags0 classFile x code maxLocals ret World_1 tables_1 room_1 Calls_1 rest_1 Pre_1 Post := by
  intro l hfl _ _ p e ha hc hk s m args below hf hA hF happ hP
  obtain ⟨hcalls, hrest, hpre⟩ := hP
  obtain ⟨-, -, -, hnamed, -, -, -, hat⟩ := (Spec.applies_iff hf).mp happ
  obtain ⟨hg, hn⟩ := and_e (Cond.before_iff.mp (show (Jvm.Cond.and given_1 narrow_1).before args s = true from hpre))
  obtain ⟨g1, g2⟩ := and_e hg
  obtain ⟨g3, g4⟩ := and_e g2
  obtain ⟨g5, g6⟩ := and_e g4
  obtain ⟨g7, g8⟩ := and_e g6
  obtain ⟨g9, g10⟩ := and_e g8
  obtain ⟨w0, w1, w2, w3, w4, rfl⟩ : ∃ w0 w1 w2 w3 w4 : Value, args = #[w0, w1, w2, w3, w4] := by
    have hs : args.size = 5 := by simpa [Cond.value, given_1] using g1
    obtain ⟨L⟩ := args
    match L, hs with
    | [w0, w1, w2, w3, w4], _ => exact ⟨w0, w1, w2, w3, w4, rfl⟩
  have hw := fun d (hd : d ∈ tables_1) => atoms_spec (ws := Jvm.Cond.code x code maxLocals ret :: tables_1) hat d (List.mem_cons_of_mem _ hd)
  have hfit : Fit s := fun {y c} hc i hi => by
    obtain ⟨ha, rfl⟩ := Array.getElem?_eq_some_iff.mp hc
    have q := List.all_eq_true.mp ((Array.all_eq_true_iff_forall_mem.mp hF) _ (Array.getElem_mem ha)) i (List.mem_range.mpr hi)
    simpa [Array.getElem?_eq_getElem hi] using q
  obtain ⟨hsets, hown0⟩ := atoms_of _ (rest_1_c_eq ▸ (show rest_1_c.before _ s = true from hrest))
  have hr0 := Cond.before_iff.mp hown0
  obtain ⟨i0, ei0⟩ := is_v g3
  obtain rfl : w0 = (.int i0) := Option.some.inj ei0
  obtain ⟨i1, ei1⟩ := is_v g5
  obtain rfl : w1 = (.int i1) := Option.some.inj ei1
  obtain ⟨i2, ei2⟩ := is_v g7
  obtain rfl : w2 = (.int i2) := Option.some.inj ei2
  obtain ⟨i3, ei3⟩ := isL_v g9
  obtain rfl : w3 = (.long i3) := Option.some.inj ei3
  obtain ⟨i4, ei4⟩ := is_v g10
  obtain rfl : w4 = (.int i4) := Option.some.inj ei4
  have hcw : Jvm.Lit.compactW.before _ s = true := (hsets _ (List.mem_of_getElem? (i := 2) rfl))
  obtain ⟨cs, evC⟩ := is_v (Cond.before_iff.mp (hsets _ (List.mem_of_getElem? (i := 1) rfl)))
  have S_C := Sta.start evC (Or.inl (hsets _ (List.mem_of_getElem? (i := 0) rfl)))
  have hcs : ¬ (cs = (0 : Int32)) := by rintro rfl; have q := not_v (Cond.before_iff.mp (hsets _ (List.mem_of_getElem? (i := 2) rfl))); rw [eq_i evC rfl rfl] at q; cases q
  obtain ⟨vf, evF, hvf⟩ := isR_v (Cond.before_iff.mp (hsets _ (List.mem_of_getElem? (i := 8) rfl)))
  have S_F := Sta.start evF (Or.inl (hsets _ (List.mem_of_getElem? (i := 7) rfl)))
  obtain ⟨nl1, nr1⟩ := and_e hn
  obtain ⟨nl2, nr2⟩ := and_e nr1
  obtain ⟨nl3, nr3⟩ := and_e nr2
  obtain ⟨nl4, nr4⟩ := and_e nr3
  obtain ⟨nl5, nr5⟩ := and_e nr4
  obtain ⟨nl6, nr6⟩ := and_e nr5
  obtain ⟨nl7, nr7⟩ := and_e nr6
  obtain ⟨nl8, nr8⟩ := and_e nr7
  obtain ⟨nl9, nr9⟩ := and_e nr8
  obtain ⟨nl10, nr10⟩ := and_e nr9
  obtain ⟨nl11, nr11⟩ := and_e nr10
  obtain ⟨nl12, nr12⟩ := and_e nr11
  obtain ⟨nl13, nr13⟩ := and_e nr12
  obtain ⟨nl14, nr14⟩ := and_e nr13
  obtain ⟨nl15, nr15⟩ := and_e nr14
  obtain ⟨nl16, nr16⟩ := and_e nr15
  obtain ⟨nl17, nr17⟩ := and_e nr16
  obtain ⟨nl18, nr18⟩ := and_e nr17
  obtain ⟨nl19, nr19⟩ := and_e nr18
  obtain ⟨nl20, nr20⟩ := and_e nr19
  obtain ⟨nl21, nr21⟩ := and_e nr20
  obtain ⟨nl22, nr22⟩ := and_e nr21
  obtain ⟨nl23, nr23⟩ := and_e nr22
  obtain ⟨nl24, nr24⟩ := and_e nr23
  obtain ⟨nl25, nr25⟩ := and_e nr24
  obtain ⟨nl26, nr26⟩ := and_e nr25
  obtain ⟨nl27, nr27⟩ := and_e nr26
  obtain ⟨nl28, nr28⟩ := and_e nr27
  obtain ⟨nl29, nr29⟩ := and_e nr28
  obtain ⟨nl30, nr30⟩ := and_e nr29
  obtain ⟨nl31, nr31⟩ := and_e nr30
  obtain ⟨nl32, nr32⟩ := and_e nr31
  obtain ⟨nl33, nr33⟩ := and_e nr32
  obtain ⟨tC, ev_tC⟩ := exa_v nl2
  have o_tC := own_ord ev_tC nl5
  obtain ⟨tF, ev_tF⟩ := exa_v nl20
  have o_tF := own_ord ev_tF nl22
  obtain ⟨tR, ev_tR⟩ := exa_v nl4
  have o_tR := own_ord ev_tR nl6
  have S_R := Sta.start ev_tR (Or.inr ⟨(hw _ (List.mem_of_getElem? (i := 28) rfl)), (hw _ (List.mem_of_getElem? (i := 31) rfl))⟩)
  have S_L := Sta.start ev_tC (Or.inr ⟨(hw _ (List.mem_of_getElem? (i := 28) rfl)), (hw _ (List.mem_of_getElem? (i := 29) rfl))⟩)
  obtain ⟨x0, ev_x0⟩ := exa_v nl1
  have S_SET := Sta.start ev_x0 (Or.inr ⟨(hw _ (List.mem_of_getElem? (i := 2) rfl)), (hw _ (List.mem_of_getElem? (i := 3) rfl))⟩)
  have E_SET := Exa.start ev_x0 nl1
  have Ft_SET := Fld.start (own_fref ev_x0 ev_tC nl3)
  have Fv_SET := Fld.start (own_ord ev_x0 nl7)
  have Fs_SET := Fld.start (own_ord ev_x0 nl31)
  obtain ⟨x1, ev_x1⟩ := exa_v nl15
  have S_SET_AT := Sta.start ev_x1 (Or.inr ⟨(hw _ (List.mem_of_getElem? (i := 2) rfl)), (hw _ (List.mem_of_getElem? (i := 132) rfl))⟩)
  have E_SET_AT := Exa.start ev_x1 nl15
  have Ft_SET_AT := Fld.start (own_fref ev_x1 ev_tC nl16)
  have Fv_SET_AT := Fld.start (own_ord ev_x1 nl17)
  have Fs_SET_AT := Fld.start (own_ord ev_x1 nl18)
  obtain ⟨x2, ev_x2⟩ := exa_v nl28
  have S_DELETE := Sta.start ev_x2 (Or.inr ⟨(hw _ (List.mem_of_getElem? (i := 2) rfl)), (hw _ (List.mem_of_getElem? (i := 139) rfl))⟩)
  have E_DELETE := Exa.start ev_x2 nl28
  have Ft_DELETE := Fld.start (own_fref ev_x2 ev_tC nl29)
  have Fv_DELETE := Fld.start (own_ord ev_x2 nl30)
  have Fs_DELETE := Fld.start (own_ord ev_x2 nr33)
  obtain ⟨x3, ev_x3⟩ := exa_v nl8
  have S_DELETE_AT := Sta.start ev_x3 (Or.inr ⟨(hw _ (List.mem_of_getElem? (i := 2) rfl)), (hw _ (List.mem_of_getElem? (i := 121) rfl))⟩)
  have E_DELETE_AT := Exa.start ev_x3 nl8
  have Ft_DELETE_AT := Fld.start (own_fref ev_x3 ev_tC nl9)
  have Fv_DELETE_AT := Fld.start (own_ord ev_x3 nl10)
  have Fs_DELETE_AT := Fld.start (own_ord ev_x3 nl11)
  obtain ⟨x4, ev_x4⟩ := exa_v nl24
  have S_DELETE_UPTO := Sta.start ev_x4 (Or.inr ⟨(hw _ (List.mem_of_getElem? (i := 2) rfl)), (hw _ (List.mem_of_getElem? (i := 137) rfl))⟩)
  have E_DELETE_UPTO := Exa.start ev_x4 nl24
  have Ft_DELETE_UPTO := Fld.start (own_fref ev_x4 ev_tC nl25)
  have Fv_DELETE_UPTO := Fld.start (own_ord ev_x4 nl26)
  have Fs_DELETE_UPTO := Fld.start (own_ord ev_x4 nl27)
  obtain ⟨x5, ev_x5⟩ := exa_v nl19
  have S_DELETE_FAMILY := Sta.start ev_x5 (Or.inr ⟨(hw _ (List.mem_of_getElem? (i := 2) rfl)), (hw _ (List.mem_of_getElem? (i := 134) rfl))⟩)
  have E_DELETE_FAMILY := Exa.start ev_x5 nl19
  have Ft_DELETE_FAMILY := Fld.start (own_fref ev_x5 ev_tF nl21)
  have Fv_DELETE_FAMILY := Fld.start (own_ord ev_x5 nl23)
  have Fs_DELETE_FAMILY := Fld.start (own_ord ev_x5 nl33)
  obtain ⟨x6, ev_x6⟩ := exa_v nl12
  have S_DELETE_ROW := Sta.start ev_x6 (Or.inr ⟨(hw _ (List.mem_of_getElem? (i := 2) rfl)), (hw _ (List.mem_of_getElem? (i := 130) rfl))⟩)
  have E_DELETE_ROW := Exa.start ev_x6 nl12
  have Ft_DELETE_ROW := Fld.start (own_fref ev_x6 ev_tR nl13)
  have Fv_DELETE_ROW := Fld.start (own_ord ev_x6 nl14)
  have Fs_DELETE_ROW := Fld.start (own_ord ev_x6 nl32)
  obtain ⟨n, o, h1, h2, h3, _, L, rfl, ⟨rfl, N⟩, hq⟩ := rm0 l s _ hw tables_1 i0 i1 i2 i3 i4 x0 x1 x2 x3 x4 x5 x6 tC tF tR cs vf s.heap s.heap.size (Nat.le_refl _) (Old.start s) rfl hcw (hcalls.1 ("com/example/nests/nests/model/MutationGetValuePinLaw", 32) (by simp [consts_1])) S_C hcs S_F hvf S_SET E_SET Ft_SET Fv_SET Fs_SET S_SET_AT E_SET_AT Ft_SET_AT Fv_SET_AT Fs_SET_AT S_DELETE E_DELETE Ft_DELETE Fv_DELETE Fs_DELETE S_DELETE_AT E_DELETE_AT Ft_DELETE_AT Fv_DELETE_AT Fs_DELETE_AT S_DELETE_UPTO E_DELETE_UPTO Ft_DELETE_UPTO Fv_DELETE_UPTO Fs_DELETE_UPTO S_DELETE_FAMILY E_DELETE_FAMILY Ft_DELETE_FAMILY Fv_DELETE_FAMILY Fs_DELETE_FAMILY S_DELETE_ROW E_DELETE_ROW Ft_DELETE_ROW Fv_DELETE_ROW Fs_DELETE_ROW S_R S_L (own_apart o_tC o_tR (by decide)) (own_apart o_tF o_tR (by decide)) (own_apart o_tF o_tC (by decide)) p e ha hc hk s m _ below hf ((Spec.applies_iff_loose hf).mp happ).1 ⟨rfl, State.Warmed39.refl s, rfl, IB.start⟩ trivial
  refine ⟨n, _, h1, h2, h3, hpost _ _ _ _ _ _ ⟨Cond.after_iff.mpr rfl, Cond.after_iff.mpr (eq_i res_at (Term.int_eval (1)) rfl), trivial⟩ ⟨hq.1, hq.2.1, hq.2.2.1, (hq.2.2.2.sift fun y hy => Or.inr (N y hy)).mono (by decide) (by decide)⟩⟩
theorem main_1_1 : Claimed_1_1 := comes_1 fun _ _ _ _ _ _ h hF => ⟨h.1, hF⟩
theorem main_1_2 : Claimed_1_2 := comes_1 fun _ _ _ _ _ _ h hF => ⟨h.2.1, hF⟩
end Jvm.Pilot.@@N@@
namespace Jvm.Pilot.@@N@@
open Jvm Jvm.ClassFile Sem Op Lib Jvm.Free Jvm.Stand Jvm.Pilot.@@N@@.Jvm.D
/-! MADE BY PROGRAM (witnessworld.py) out of the Statement's table words and the real class files: 22 classes; the members and pool entries that the words name. The judged class is class 1, her method 2. -/
namespace start1
open Jvm.ClassFile
def u (s : String) : CpInfo := .utf8 (stringToUtf16 s)
/-- a pool by its gaps: so many unusable entries, then the entry; so many at the end -/
def gap : Nat → List CpInfo → List CpInfo
  | 0, r => r
  | n + 1, r => .unusable :: gap n r
def poolList (es : List (Nat × CpInfo)) (last : Nat) : List CpInfo := es.foldr (fun e r => gap e.1 (e.2 :: r)) (gap last [])
def pool (es : List (Nat × CpInfo)) (last : Nat) : Array CpInfo := ⟨poolList es last⟩
def fileOf (pool : Array CpInfo) (this : Nat) (attrs : Array Attribute := #[]) (ms : Array MethodInfo := #[]) (fl : Nat := 33) (sup : Nat := 0) (ifs : Array Nat := #[]) (fds : Array FieldInfo := #[]) : ClassFile where
  minorVersion := 0
  majorVersion := 65
  constantPool := pool
  accessFlags := fl
  thisClass := this
  superClass := sup
  interfaces := ifs
  fields := fds
  methods := ms
  attributes := attrs
def plain (name : String) (sup : Option ClassId) : Class where
  name := name
  kind := .ordinary
  loader := none
  accessFlags := 33
  super := sup
  interfaces := #[]
  cf := none
  fields := #[]
  methods := #[]
  instanceTypes := #[]
  staticTypes := #[]
  resolved := #[]
  callSites := []
  init := .initialized
  statics := none
  mirror := none

def pool0 : Array CpInfo := pool [(5, u "<init>"), (0, u "()V"), (1, .class_ 10), (1, u "java/lang/Object"), (85, u "clone"), (0, u "()Ljava/lang/Object;")] 26

def k0c0 : Code := { maxStack := 0, maxLocals := 1, code := object_method_1_code, exceptionTable := #[], attributes := #[] }
def k0m0 : Method := { name := "<init>", desc := "()V", sig := { parameters := [], returnType := none }, accessFlags := 1, code := some k0c0 }
def k0m1 : Method := { name := "clone", desc := "()Ljava/lang/Object;", sig := { parameters := [], returnType := some (.object "java/lang/Object") }, accessFlags := 260, code := none }
/-- java/lang/Object -/
def k0 : Class := { plain "java/lang/Object" none with
  accessFlags := 33
  interfaces := #[]
  cf := some (fileOf pool0 8 #[] #[{ accessFlags := 1, nameIndex := 5, descriptorIndex := 6, attributes := #[] }, { accessFlags := 260, nameIndex := 96, descriptorIndex := 97, attributes := #[] }] 33 0 #[] #[])
  fields := #[]
  methods := #[k0m0, k0m1]
  instanceTypes := #[]
  staticTypes := #[]
  resolved := Array.replicate 124 none
  statics := none }

def pool1 : Array CpInfo := pool [(2, .class_ 4), (1, u "java/lang/Object"), (0, u "<init>"), (0, u "()V"), (0, .integer 2147483647), (0, .fieldref 9 10), (0, .class_ 11), (0, .nameAndType 12 13), (0, u "com/example/nests/nests/model/Mutation$Kind"), (0, u "SET"), (0, u "Lcom/example/nests/nests/model/Mutation$Kind;"), (0, .fieldref 9 15), (0, .nameAndType 16 13), (0, u "SET_AT"), (0, .fieldref 9 18), (0, .nameAndType 19 13), (0, u "DELETE"), (0, .fieldref 9 21), (0, .nameAndType 22 13), (0, u "DELETE_AT"), (0, .fieldref 9 24), (0, .nameAndType 25 13), (0, u "DELETE_UPTO"), (0, .fieldref 9 27), (0, .nameAndType 28 13), (0, u "DELETE_FAMILY"), (0, .fieldref 9 30), (0, .nameAndType 31 13), (0, u "DELETE_ROW"), (0, .string 33), (0, u "f"), (0, .class_ 35), (0, u "com/example/nests/nests/model/Mutation"), (0, .methodref 34 37), (0, .nameAndType 5 38), (0, u "(Lcom/example/nests/nests/model/Mutation$Kind;Ljava/lang/String;[BJ[B)V"), (0, .methodref 34 40), (0, .nameAndType 41 42), (0, u "getValue"), (0, u "()[B"), (0, .methodref 44 45), (0, .class_ 46), (0, .nameAndType 47 48), (0, u "com/example/nests/nests/model/MutationGetValuePinLaw"), (0, u "same"), (0, u "([BIBBB)Z"), (3, u "law"), (0, u "(IIIJI)Z")] 8

def k1m0 : Method := { name := "<init>", desc := "()V", sig := { parameters := [], returnType := none }, accessFlags := 1, code := none }
def k1c1 : Code := { maxStack := 2, maxLocals := 5, code := method_2_code, exceptionTable := #[], attributes := #[] }
def k1m1 : Method := { name := "same", desc := "([BIBBB)Z", sig := { parameters := [(.array .byte), .int, .byte, .byte, .byte], returnType := some .boolean }, accessFlags := 10, code := some k1c1 }
def k1c2 : Code := { maxStack := 8, maxLocals := 23, code := code, exceptionTable := #[], attributes := #[] }
def k1m2 : Method := { name := "law", desc := "(IIIJI)Z", sig := { parameters := [.int, .int, .int, .long, .int], returnType := some .boolean }, accessFlags := 9, code := some k1c2 }
/-- com/example/nests/nests/model/MutationGetValuePinLaw -/
def k1 : Class := { plain "com/example/nests/nests/model/MutationGetValuePinLaw" (some 0) with
  accessFlags := 49
  interfaces := #[]
  cf := some (fileOf pool1 44 #[] #[{ accessFlags := 1, nameIndex := 5, descriptorIndex := 6, attributes := #[] }, { accessFlags := 10, nameIndex := 47, descriptorIndex := 48, attributes := #[] }, { accessFlags := 9, nameIndex := 52, descriptorIndex := 53, attributes := #[] }] 49 2 #[] #[])
  fields := #[]
  methods := #[k1m0, k1m1, k1m2]
  instanceTypes := #[]
  staticTypes := #[]
  resolved := Array.replicate 62 none
  statics := none }

def pool2 : Array CpInfo := pool [(1, .class_ 2), (0, u "java/lang/constant/Constable"), (0, .class_ 4), (0, u "java/lang/Object")] 6

/-- java/lang/constant/Constable -/
def k2 : Class := { plain "java/lang/constant/Constable" (some 0) with
  accessFlags := 1537
  interfaces := #[]
  cf := some (fileOf pool2 1 #[] #[] 1537 3 #[] #[])
  fields := #[]
  methods := #[]
  instanceTypes := #[]
  staticTypes := #[]
  resolved := Array.replicate 11 none
  statics := none }

def pool3 : Array CpInfo := pool [(1, .class_ 2), (0, u "java/lang/Comparable"), (0, .class_ 4), (0, u "java/lang/Object")] 7

/-- java/lang/Comparable -/
def k3 : Class := { plain "java/lang/Comparable" (some 0) with
  accessFlags := 1537
  interfaces := #[]
  cf := some (fileOf pool3 1 #[] #[] 1537 3 #[] #[])
  fields := #[]
  methods := #[]
  instanceTypes := #[]
  staticTypes := #[]
  resolved := Array.replicate 12 none
  statics := none }

def pool4 : Array CpInfo := pool [(1, .class_ 2), (0, u "java/io/Serializable"), (0, .class_ 4), (0, u "java/lang/Object")] 2

/-- java/io/Serializable -/
def k4 : Class := { plain "java/io/Serializable" (some 0) with
  accessFlags := 1537
  interfaces := #[]
  cf := some (fileOf pool4 1 #[] #[] 1537 3 #[] #[])
  fields := #[]
  methods := #[]
  instanceTypes := #[]
  staticTypes := #[]
  resolved := Array.replicate 7 none
  statics := none }

def pool5 : Array CpInfo := pool [(2, .class_ 4), (1, u "java/lang/Enum"), (0, u "name"), (0, u "Ljava/lang/String;"), (2, u "ordinal"), (0, u "I"), (1, .class_ 14), (1, u "java/lang/Object"), (4, u "hash"), (86, .class_ 108), (1, u "java/lang/Enum$EnumDesc"), (2, .class_ 112), (0, u "java/lang/constant/Constable"), (0, .class_ 114), (0, u "java/lang/Comparable"), (0, .class_ 116), (0, u "java/io/Serializable")] 87

/-- java/lang/Enum -/
def k5 : Class := { plain "java/lang/Enum" (some 0) with
  accessFlags := 1057
  interfaces := #[2, 3, 4]
  cf := some (fileOf pool5 2 #[.nestMembers #[106]] #[] 1057 12 #[111, 113, 115] #[{ accessFlags := 18, nameIndex := 5, descriptorIndex := 6, attributes := #[] }, { accessFlags := 18, nameIndex := 9, descriptorIndex := 10, attributes := #[] }, { accessFlags := 2, nameIndex := 19, descriptorIndex := 10, attributes := #[] }])
  fields := #[{ name := "name", type := (.object "java/lang/String"), accessFlags := 18, slot := 0, constantValue := 0 }, { name := "ordinal", type := .int, accessFlags := 18, slot := 1, constantValue := 0 }, { name := "hash", type := .int, accessFlags := 2, slot := 2, constantValue := 0 }]
  methods := #[]
  instanceTypes := #[(.object "java/lang/String"), .int, .int]
  staticTypes := #[]
  resolved := Array.replicate 204 none
  statics := none }

def pool6 : Array CpInfo := pool [(1, .class_ 2), (0, u "com/example/nests/nests/model/Mutation$Kind"), (2, u "SET"), (0, u "Lcom/example/nests/nests/model/Mutation$Kind;"), (2, u "SET_AT"), (2, u "DELETE"), (2, u "DELETE_AT"), (2, u "DELETE_UPTO"), (2, u "DELETE_FAMILY"), (2, u "DELETE_ROW"), (2, u "$VALUES"), (0, u "[Lcom/example/nests/nests/model/Mutation$Kind;"), (6, .class_ 37), (1, u "java/lang/Enum"), (6, .fieldref 1 45), (0, .nameAndType 46 47), (0, u "target"), (0, u "Lcom/example/nests/nests/model/Mutation$Target;"), (0, .fieldref 1 49), (0, .nameAndType 50 51), (0, u "takesTimestamp"), (0, u "Z"), (0, .fieldref 1 53), (0, .nameAndType 54 51), (0, u "takesValue"), (32, u "getTarget"), (0, u "()Lcom/example/nests/nests/model/Mutation$Target;"), (0, u "()Z"), (6, .class_ 97), (0, u "com/example/nests/nests/model/Mutation")] 3

def k6c0 : Code := { maxStack := 1, maxLocals := 1, code := prog_73_method_4_code, exceptionTable := #[], attributes := #[] }
def k6m0 : Method := { name := "getTarget", desc := "()Lcom/example/nests/nests/model/Mutation$Target;", sig := { parameters := [], returnType := some (.object "com/example/nests/nests/model/Mutation$Target") }, accessFlags := 1, code := some k6c0 }
def k6c1 : Code := { maxStack := 1, maxLocals := 1, code := prog_73_method_5_code, exceptionTable := #[], attributes := #[] }
def k6m1 : Method := { name := "takesTimestamp", desc := "()Z", sig := { parameters := [], returnType := some .boolean }, accessFlags := 1, code := some k6c1 }
def k6c2 : Code := { maxStack := 1, maxLocals := 1, code := prog_73_method_6_code, exceptionTable := #[], attributes := #[] }
def k6m2 : Method := { name := "takesValue", desc := "()Z", sig := { parameters := [], returnType := some .boolean }, accessFlags := 1, code := some k6c2 }
/-- com/example/nests/nests/model/Mutation$Kind -/
def k6 : Class := { plain "com/example/nests/nests/model/Mutation$Kind" (some 5) with
  accessFlags := 16433
  interfaces := #[]
  cf := some (fileOf pool6 1 #[.nestHost 96] #[{ accessFlags := 1, nameIndex := 87, descriptorIndex := 88, attributes := #[] }, { accessFlags := 1, nameIndex := 50, descriptorIndex := 89, attributes := #[] }, { accessFlags := 1, nameIndex := 54, descriptorIndex := 89, attributes := #[] }] 16433 35 #[] #[{ accessFlags := 16409, nameIndex := 5, descriptorIndex := 6, attributes := #[] }, { accessFlags := 16409, nameIndex := 9, descriptorIndex := 6, attributes := #[] }, { accessFlags := 16409, nameIndex := 12, descriptorIndex := 6, attributes := #[] }, { accessFlags := 16409, nameIndex := 15, descriptorIndex := 6, attributes := #[] }, { accessFlags := 16409, nameIndex := 18, descriptorIndex := 6, attributes := #[] }, { accessFlags := 16409, nameIndex := 21, descriptorIndex := 6, attributes := #[] }, { accessFlags := 16409, nameIndex := 24, descriptorIndex := 6, attributes := #[] }, { accessFlags := 18, nameIndex := 46, descriptorIndex := 47, attributes := #[] }, { accessFlags := 18, nameIndex := 50, descriptorIndex := 51, attributes := #[] }, { accessFlags := 18, nameIndex := 54, descriptorIndex := 51, attributes := #[] }, { accessFlags := 4122, nameIndex := 27, descriptorIndex := 28, attributes := #[] }])
  fields := #[{ name := "SET", type := (.object "com/example/nests/nests/model/Mutation$Kind"), accessFlags := 16409, slot := 0, constantValue := 0 }, { name := "SET_AT", type := (.object "com/example/nests/nests/model/Mutation$Kind"), accessFlags := 16409, slot := 1, constantValue := 0 }, { name := "DELETE", type := (.object "com/example/nests/nests/model/Mutation$Kind"), accessFlags := 16409, slot := 2, constantValue := 0 }, { name := "DELETE_AT", type := (.object "com/example/nests/nests/model/Mutation$Kind"), accessFlags := 16409, slot := 3, constantValue := 0 }, { name := "DELETE_UPTO", type := (.object "com/example/nests/nests/model/Mutation$Kind"), accessFlags := 16409, slot := 4, constantValue := 0 }, { name := "DELETE_FAMILY", type := (.object "com/example/nests/nests/model/Mutation$Kind"), accessFlags := 16409, slot := 5, constantValue := 0 }, { name := "DELETE_ROW", type := (.object "com/example/nests/nests/model/Mutation$Kind"), accessFlags := 16409, slot := 6, constantValue := 0 }, { name := "target", type := (.object "com/example/nests/nests/model/Mutation$Target"), accessFlags := 18, slot := 3, constantValue := 0 }, { name := "takesTimestamp", type := .boolean, accessFlags := 18, slot := 4, constantValue := 0 }, { name := "takesValue", type := .boolean, accessFlags := 18, slot := 5, constantValue := 0 }, { name := "$VALUES", type := (.array (.object "com/example/nests/nests/model/Mutation$Kind")), accessFlags := 4122, slot := 7, constantValue := 0 }]
  methods := #[k6m0, k6m1, k6m2]
  instanceTypes := #[(.object "java/lang/String"), .int, .int, (.object "com/example/nests/nests/model/Mutation$Target"), .boolean, .boolean]
  staticTypes := #[(.object "com/example/nests/nests/model/Mutation$Kind"), (.object "com/example/nests/nests/model/Mutation$Kind"), (.object "com/example/nests/nests/model/Mutation$Kind"), (.object "com/example/nests/nests/model/Mutation$Kind"), (.object "com/example/nests/nests/model/Mutation$Kind"), (.object "com/example/nests/nests/model/Mutation$Kind"), (.object "com/example/nests/nests/model/Mutation$Kind"), (.array (.object "com/example/nests/nests/model/Mutation$Kind"))]
  resolved := Array.replicate 101 none
  statics := some 0 }

def pool7 : Array CpInfo := pool [(2, .class_ 4), (1, u "java/lang/CharSequence"), (42, .class_ 48), (0, u "java/lang/CharSequence$1CodePointIterator"), (10, .class_ 60), (0, u "java/lang/CharSequence$1CharIterator"), (5, .class_ 67), (0, u "java/lang/Object")] 63

/-- java/lang/CharSequence -/
def k7 : Class := { plain "java/lang/CharSequence" (some 0) with
  accessFlags := 1537
  interfaces := #[]
  cf := some (fileOf pool7 2 #[.nestMembers #[47, 59]] #[] 1537 66 #[] #[])
  fields := #[]
  methods := #[]
  instanceTypes := #[]
  staticTypes := #[]
  resolved := Array.replicate 131 none
  statics := none }

def pool8 : Array CpInfo := pool [(1, .class_ 2), (0, u "java/lang/constant/ConstantDesc"), (0, .class_ 4), (0, u "java/lang/Object")] 32

/-- java/lang/constant/ConstantDesc -/
def k8 : Class := { plain "java/lang/constant/ConstantDesc" (some 0) with
  accessFlags := 1537
  interfaces := #[]
  cf := some (fileOf pool8 1 #[] #[] 1537 3 #[] #[])
  fields := #[]
  methods := #[]
  instanceTypes := #[]
  staticTypes := #[]
  resolved := Array.replicate 37 none
  statics := none }

def pool9 : Array CpInfo := pool [(2, .class_ 4), (1, u "java/lang/Object"), (0, u "<init>"), (0, u "()V"), (2, .fieldref 10 11), (0, .class_ 12), (0, .nameAndType 13 14), (0, u "java/lang/String"), (0, u "value"), (0, u "[B"), (0, .fieldref 10 16), (0, .nameAndType 17 18), (0, u "coder"), (0, u "B"), (2, u "hash"), (0, u "I"), (2, u "hashIsZero"), (0, u "Z"), (11, .fieldref 10 39), (0, .nameAndType 40 26), (0, u "COMPACT_STRINGS"), (66, .class_ 109), (1, u "java/lang/StringLatin1"), (32, u "()Z"), (191, u "()I"), (0, .methodref 10 336), (0, .nameAndType 17 337), (0, u "()B"), (25, u "([BI)C"), (27, u "(II)V"), (35, u "(I)C"), (64, .methodref 10 493), (0, .nameAndType 494 142), (0, u "isLatin1"), (0, .methodref 107 496), (0, .nameAndType 497 363), (0, u "charAt"), (3, u "checkIndex"), (5, u "length"), (67, .class_ 576), (0, u "java/lang/CharSequence"), (22, u "CASE_INSENSITIVE_ORDER"), (0, u "Ljava/util/Comparator;"), (91, u "isEmpty"), (360, .fieldref 1054 1055), (0, .class_ 1056), (0, .nameAndType 1057 1058), (0, u "jdk/internal/util/Preconditions"), (0, u "SIOOBE_FORMATTER"), (0, u "Ljava/util/function/BiFunction;"), (0, .methodref 1054 1060), (0, .nameAndType 501 1061), (0, u "(IILjava/util/function/BiFunction;)I"), (39, u "serialPersistentFields"), (0, u "[Ljava/io/ObjectStreamField;"), (0, .class_ 1104), (0, u "java/lang/String$CaseInsensitiveComparator"), (1, .class_ 1107), (0, u "java/io/Serializable"), (0, .class_ 1109), (0, u "java/lang/Comparable"), (0, .class_ 1111), (0, u "java/lang/constant/Constable"), (0, .class_ 1113), (0, u "java/lang/constant/ConstantDesc"), (2, u "serialVersionUID"), (0, u "J"), (3, u "REPL"), (0, u "C"), (2, u "LATIN1"), (1, u "UTF16")] 323

def k9m0 : Method := { name := "<init>", desc := "()V", sig := { parameters := [], returnType := none }, accessFlags := 1, code := none }
def k9c1 : Code := { maxStack := 2, maxLocals := 1, code := jdk_42_method_54_code, exceptionTable := #[], attributes := #[] }
def k9m1 : Method := { name := "length", desc := "()I", sig := { parameters := [], returnType := some .int }, accessFlags := 1, code := some k9c1 }
def k9c2 : Code := { maxStack := 1, maxLocals := 1, code := jdk_42_method_55_code, exceptionTable := #[], attributes := #[] }
def k9m2 : Method := { name := "isEmpty", desc := "()Z", sig := { parameters := [], returnType := some .boolean }, accessFlags := 1, code := some k9c2 }
def k9c3 : Code := { maxStack := 2, maxLocals := 2, code := jdk_42_method_56_code, exceptionTable := #[], attributes := #[] }
def k9m3 : Method := { name := "charAt", desc := "(I)C", sig := { parameters := [.int], returnType := some .char }, accessFlags := 1, code := some k9c3 }
def k9c4 : Code := { maxStack := 1, maxLocals := 1, code := jdk_42_method_152_code, exceptionTable := #[], attributes := #[] }
def k9m4 : Method := { name := "coder", desc := "()B", sig := { parameters := [], returnType := some .byte }, accessFlags := 0, code := some k9c4 }
def k9c5 : Code := { maxStack := 1, maxLocals := 1, code := jdk_42_method_154_code, exceptionTable := #[], attributes := #[] }
def k9m5 : Method := { name := "isLatin1", desc := "()Z", sig := { parameters := [], returnType := some .boolean }, accessFlags := 0, code := some k9c5 }
def k9c6 : Code := { maxStack := 3, maxLocals := 2, code := jdk_42_method_155_code, exceptionTable := #[], attributes := #[] }
def k9m6 : Method := { name := "checkIndex", desc := "(II)V", sig := { parameters := [.int, .int], returnType := none }, accessFlags := 8, code := some k9c6 }
/-- java/lang/String -/
def k9 : Class := { plain "java/lang/String" (some 0) with
  accessFlags := 49
  interfaces := #[4, 3, 7, 2, 8]
  cf := some (fileOf pool9 10 #[.nestMembers #[1103]] #[{ accessFlags := 1, nameIndex := 5, descriptorIndex := 6, attributes := #[] }, { accessFlags := 1, nameIndex := 507, descriptorIndex := 334, attributes := #[] }, { accessFlags := 1, nameIndex := 692, descriptorIndex := 142, attributes := #[] }, { accessFlags := 1, nameIndex := 497, descriptorIndex := 427, attributes := #[] }, { accessFlags := 0, nameIndex := 17, descriptorIndex := 337, attributes := #[] }, { accessFlags := 0, nameIndex := 494, descriptorIndex := 142, attributes := #[] }, { accessFlags := 8, nameIndex := 501, descriptorIndex := 391, attributes := #[] }] 49 2 #[1106, 1108, 575, 1110, 1112] #[{ accessFlags := 18, nameIndex := 13, descriptorIndex := 14, attributes := #[] }, { accessFlags := 18, nameIndex := 17, descriptorIndex := 18, attributes := #[] }, { accessFlags := 2, nameIndex := 21, descriptorIndex := 22, attributes := #[] }, { accessFlags := 2, nameIndex := 25, descriptorIndex := 26, attributes := #[] }, { accessFlags := 26, nameIndex := 1116, descriptorIndex := 1117, attributes := #[] }, { accessFlags := 24, nameIndex := 40, descriptorIndex := 26, attributes := #[] }, { accessFlags := 26, nameIndex := 1101, descriptorIndex := 1102, attributes := #[] }, { accessFlags := 26, nameIndex := 1121, descriptorIndex := 1122, attributes := #[] }, { accessFlags := 25, nameIndex := 599, descriptorIndex := 600, attributes := #[] }, { accessFlags := 24, nameIndex := 1125, descriptorIndex := 18, attributes := #[] }, { accessFlags := 24, nameIndex := 1127, descriptorIndex := 18, attributes := #[] }])
  fields := #[{ name := "value", type := (.array .byte), accessFlags := 18, slot := 0, constantValue := 0 }, { name := "coder", type := .byte, accessFlags := 18, slot := 1, constantValue := 0 }, { name := "hash", type := .int, accessFlags := 2, slot := 2, constantValue := 0 }, { name := "hashIsZero", type := .boolean, accessFlags := 2, slot := 3, constantValue := 0 }, { name := "serialVersionUID", type := .long, accessFlags := 26, slot := 0, constantValue := 0 }, { name := "COMPACT_STRINGS", type := .boolean, accessFlags := 24, slot := 1, constantValue := 0 }, { name := "serialPersistentFields", type := (.array (.object "java/io/ObjectStreamField")), accessFlags := 26, slot := 2, constantValue := 0 }, { name := "REPL", type := .char, accessFlags := 26, slot := 3, constantValue := 0 }, { name := "CASE_INSENSITIVE_ORDER", type := (.object "java/util/Comparator"), accessFlags := 25, slot := 4, constantValue := 0 }, { name := "LATIN1", type := .byte, accessFlags := 24, slot := 5, constantValue := 0 }, { name := "UTF16", type := .byte, accessFlags := 24, slot := 6, constantValue := 0 }]
  methods := #[k9m0, k9m1, k9m2, k9m3, k9m4, k9m5, k9m6]
  instanceTypes := #[(.array .byte), .byte, .int, .boolean]
  staticTypes := #[.long, .boolean, (.array (.object "java/io/ObjectStreamField")), .char, (.object "java/util/Comparator"), .byte, .byte]
  resolved := Array.replicate 1451 none
  statics := some 1 }

def pool10 : Array CpInfo := pool [(1, .methodref 2 3), (0, .class_ 4), (0, .nameAndType 5 6), (0, u "java/lang/Object"), (0, u "<init>"), (0, u "()V"), (0, .methodref 8 9), (0, .class_ 10), (0, .nameAndType 11 12), (0, u "com/example/nests/nests/model/Mutation$Kind"), (0, u "getTarget"), (0, u "()Lcom/example/nests/nests/model/Mutation$Target;"), (0, .fieldref 14 15), (0, .class_ 16), (0, .nameAndType 17 18), (0, u "com/example/nests/nests/model/Mutation$Target"), (0, u "ROW"), (0, u "Lcom/example/nests/nests/model/Mutation$Target;"), (0, .fieldref 14 20), (0, .nameAndType 21 18), (0, u "COLUMN"), (0, .methodref 8 23), (0, .nameAndType 24 25), (0, u "takesValue"), (0, u "()Z"), (0, .methodref 8 27), (0, .nameAndType 28 25), (0, u "takesTimestamp"), (14, u "(Ljava/lang/String;)V"), (0, .methodref 45 46), (0, .class_ 47), (0, .nameAndType 48 43), (0, u "com/example/nests/nests/model/Cell"), (0, u "checkFamily"), (0, .fieldref 50 51), (0, .class_ 52), (0, .nameAndType 53 54), (0, u "com/example/nests/nests/model/Mutation"), (0, u "kind"), (0, u "Lcom/example/nests/nests/model/Mutation$Kind;"), (0, .fieldref 50 56), (0, .nameAndType 57 58), (0, u "family"), (0, u "Ljava/lang/String;"), (0, .methodref 60 61), (0, .class_ 62), (0, .nameAndType 63 64), (0, u "[B"), (0, u "clone"), (0, u "()Ljava/lang/Object;"), (0, .fieldref 50 66), (0, .nameAndType 67 62), (0, u "qualifier"), (0, .fieldref 50 69), (0, .nameAndType 70 71), (0, u "timestamp"), (0, u "J"), (0, .fieldref 50 73), (0, .nameAndType 74 62), (0, u "value"), (0, u "(Lcom/example/nests/nests/model/Mutation$Kind;Ljava/lang/String;[BJ[B)V"), (8, u "()[B"), (2, u "getValue")] 20

def k10c0 : Code := { maxStack := 4, maxLocals := 8, code := prog_72_method_1_code, exceptionTable := #[], attributes := #[] }
def k10m0 : Method := { name := "<init>", desc := "(Lcom/example/nests/nests/model/Mutation$Kind;Ljava/lang/String;[BJ[B)V", sig := { parameters := [(.object "com/example/nests/nests/model/Mutation$Kind"), (.object "java/lang/String"), (.array .byte), .long, (.array .byte)], returnType := none }, accessFlags := 1, code := some k10c0 }
def k10c1 : Code := { maxStack := 1, maxLocals := 1, code := prog_72_method_6_code, exceptionTable := #[], attributes := #[] }
def k10m1 : Method := { name := "getValue", desc := "()[B", sig := { parameters := [], returnType := some (.array .byte) }, accessFlags := 1, code := some k10c1 }
/-- com/example/nests/nests/model/Mutation -/
def k10 : Class := { plain "com/example/nests/nests/model/Mutation" (some 0) with
  accessFlags := 33
  interfaces := #[]
  cf := some (fileOf pool10 50 #[.nestMembers #[8, 14]] #[{ accessFlags := 1, nameIndex := 5, descriptorIndex := 75, attributes := #[] }, { accessFlags := 1, nameIndex := 87, descriptorIndex := 84, attributes := #[] }] 33 2 #[] #[{ accessFlags := 18, nameIndex := 53, descriptorIndex := 54, attributes := #[] }, { accessFlags := 18, nameIndex := 57, descriptorIndex := 58, attributes := #[] }, { accessFlags := 18, nameIndex := 67, descriptorIndex := 62, attributes := #[] }, { accessFlags := 18, nameIndex := 70, descriptorIndex := 71, attributes := #[] }, { accessFlags := 18, nameIndex := 74, descriptorIndex := 62, attributes := #[] }])
  fields := #[{ name := "kind", type := (.object "com/example/nests/nests/model/Mutation$Kind"), accessFlags := 18, slot := 0, constantValue := 0 }, { name := "family", type := (.object "java/lang/String"), accessFlags := 18, slot := 1, constantValue := 0 }, { name := "qualifier", type := (.array .byte), accessFlags := 18, slot := 2, constantValue := 0 }, { name := "timestamp", type := .long, accessFlags := 18, slot := 3, constantValue := 0 }, { name := "value", type := (.array .byte), accessFlags := 18, slot := 4, constantValue := 0 }]
  methods := #[k10m0, k10m1]
  instanceTypes := #[(.object "com/example/nests/nests/model/Mutation$Kind"), (.object "java/lang/String"), (.array .byte), .long, (.array .byte)]
  staticTypes := #[]
  resolved := Array.replicate 108 none
  statics := none }

def pool11 : Array CpInfo := pool [(1, .class_ 2), (0, u "com/example/nests/nests/model/Mutation$Target"), (2, u "ROW"), (0, u "Lcom/example/nests/nests/model/Mutation$Target;"), (2, u "FAMILY"), (2, u "COLUMN"), (2, u "$VALUES"), (0, u "[Lcom/example/nests/nests/model/Mutation$Target;"), (6, .class_ 25), (1, u "java/lang/Enum"), (26, .class_ 53), (0, u "com/example/nests/nests/model/Mutation")] 2

/-- com/example/nests/nests/model/Mutation$Target -/
def k11 : Class := { plain "com/example/nests/nests/model/Mutation$Target" (some 5) with
  accessFlags := 16433
  interfaces := #[]
  cf := some (fileOf pool11 1 #[.nestHost 52] #[] 16433 23 #[] #[{ accessFlags := 16409, nameIndex := 5, descriptorIndex := 6, attributes := #[] }, { accessFlags := 16409, nameIndex := 9, descriptorIndex := 6, attributes := #[] }, { accessFlags := 16409, nameIndex := 12, descriptorIndex := 6, attributes := #[] }, { accessFlags := 4122, nameIndex := 15, descriptorIndex := 16, attributes := #[] }])
  fields := #[{ name := "ROW", type := (.object "com/example/nests/nests/model/Mutation$Target"), accessFlags := 16409, slot := 0, constantValue := 0 }, { name := "FAMILY", type := (.object "com/example/nests/nests/model/Mutation$Target"), accessFlags := 16409, slot := 1, constantValue := 0 }, { name := "COLUMN", type := (.object "com/example/nests/nests/model/Mutation$Target"), accessFlags := 16409, slot := 2, constantValue := 0 }, { name := "$VALUES", type := (.array (.object "com/example/nests/nests/model/Mutation$Target")), accessFlags := 4122, slot := 3, constantValue := 0 }]
  methods := #[]
  instanceTypes := #[(.object "java/lang/String"), .int, .int]
  staticTypes := #[(.object "com/example/nests/nests/model/Mutation$Target"), (.object "com/example/nests/nests/model/Mutation$Target"), (.object "com/example/nests/nests/model/Mutation$Target"), (.array (.object "com/example/nests/nests/model/Mutation$Target"))]
  resolved := Array.replicate 56 none
  statics := some 2 }

def pool12 : Array CpInfo := pool [(1, .class_ 2), (0, u "com/example/nests/nests/model/Names"), (1, .class_ 6), (1, u "java/lang/Object"), (3, .class_ 12), (1, u "com/example/nests/nests/model/Cell"), (4, u "checkFamily"), (0, u "(Ljava/lang/String;)V"), (3, u "[B"), (4, u "row"), (2, u "family"), (0, u "Ljava/lang/String;"), (2, u "qualifier"), (2, u "timestamp"), (0, u "J"), (2, u "value"), (9, .string 30), (0, .methodref 1 53), (0, .nameAndType 54 55), (0, u "check"), (0, u "(Ljava/lang/String;Ljava/lang/String;)V"), (59, u "MAX_ROW_LENGTH"), (0, u "I"), (1, u "MAX_FAMILY_LENGTH")] 32

def k12c0 : Code := { maxStack := 2, maxLocals := 1, code := prog_68_method_3_code, exceptionTable := #[], attributes := #[] }
def k12m0 : Method := { name := "checkFamily", desc := "(Ljava/lang/String;)V", sig := { parameters := [(.object "java/lang/String")], returnType := none }, accessFlags := 9, code := some k12c0 }
/-- com/example/nests/nests/model/Cell -/
def k12 : Class := { plain "com/example/nests/nests/model/Cell" (some 0) with
  accessFlags := 33
  interfaces := #[]
  cf := some (fileOf pool12 10 #[] #[{ accessFlags := 9, nameIndex := 17, descriptorIndex := 18, attributes := #[] }] 33 4 #[] #[{ accessFlags := 25, nameIndex := 115, descriptorIndex := 116, attributes := #[] }, { accessFlags := 25, nameIndex := 118, descriptorIndex := 116, attributes := #[] }, { accessFlags := 18, nameIndex := 27, descriptorIndex := 22, attributes := #[] }, { accessFlags := 18, nameIndex := 30, descriptorIndex := 31, attributes := #[] }, { accessFlags := 18, nameIndex := 34, descriptorIndex := 22, attributes := #[] }, { accessFlags := 18, nameIndex := 37, descriptorIndex := 38, attributes := #[] }, { accessFlags := 18, nameIndex := 41, descriptorIndex := 22, attributes := #[] }])
  fields := #[{ name := "MAX_ROW_LENGTH", type := .int, accessFlags := 25, slot := 0, constantValue := 0 }, { name := "MAX_FAMILY_LENGTH", type := .int, accessFlags := 25, slot := 1, constantValue := 0 }, { name := "row", type := (.array .byte), accessFlags := 18, slot := 0, constantValue := 0 }, { name := "family", type := (.object "java/lang/String"), accessFlags := 18, slot := 1, constantValue := 0 }, { name := "qualifier", type := (.array .byte), accessFlags := 18, slot := 2, constantValue := 0 }, { name := "timestamp", type := .long, accessFlags := 18, slot := 3, constantValue := 0 }, { name := "value", type := (.array .byte), accessFlags := 18, slot := 4, constantValue := 0 }]
  methods := #[k12m0]
  instanceTypes := #[(.array .byte), (.object "java/lang/String"), (.array .byte), .long, (.array .byte)]
  staticTypes := #[.int, .int]
  resolved := Array.replicate 151 none
  statics := none }

def pool13 : Array CpInfo := pool [(2, .class_ 4), (1, u "java/lang/Object"), (0, u "<init>"), (0, u "()V"), (0, .methodref 8 9), (0, .class_ 10), (0, .nameAndType 11 12), (0, u "java/lang/String"), (0, u "isEmpty"), (0, u "()Z"), (0, .methodref 8 14), (0, .nameAndType 15 16), (0, u "length"), (0, u "()I"), (0, .class_ 18), (0, u "com/example/nests/nests/model/Names"), (9, .methodref 8 29), (0, .nameAndType 30 31), (0, u "charAt"), (0, u "(I)C"), (0, .methodref 17 33), (0, .nameAndType 34 35), (0, u "isNameChar"), (0, u "(C)Z"), (12, u "MAX_LENGTH"), (0, u "I"), (4, u "check"), (0, u "(Ljava/lang/String;Ljava/lang/String;)V")] 18

def k13m0 : Method := { name := "<init>", desc := "()V", sig := { parameters := [], returnType := none }, accessFlags := 2, code := none }
def k13c1 : Code := { maxStack := 7, maxLocals := 4, code := prog_76_method_2_code, exceptionTable := #[], attributes := #[] }
def k13m1 : Method := { name := "check", desc := "(Ljava/lang/String;Ljava/lang/String;)V", sig := { parameters := [(.object "java/lang/String"), (.object "java/lang/String")], returnType := none }, accessFlags := 9, code := some k13c1 }
def k13c2 : Code := { maxStack := 2, maxLocals := 1, code := prog_76_method_3_code, exceptionTable := #[], attributes := #[] }
def k13m2 : Method := { name := "isNameChar", desc := "(C)Z", sig := { parameters := [.char], returnType := some .boolean }, accessFlags := 10, code := some k13c2 }
/-- com/example/nests/nests/model/Names -/
def k13 : Class := { plain "com/example/nests/nests/model/Names" (some 0) with
  accessFlags := 33
  interfaces := #[]
  cf := some (fileOf pool13 17 #[] #[{ accessFlags := 2, nameIndex := 5, descriptorIndex := 6, attributes := #[] }, { accessFlags := 9, nameIndex := 54, descriptorIndex := 55, attributes := #[] }, { accessFlags := 10, nameIndex := 34, descriptorIndex := 35, attributes := #[] }] 33 2 #[] #[{ accessFlags := 25, nameIndex := 48, descriptorIndex := 49, attributes := #[] }])
  fields := #[{ name := "MAX_LENGTH", type := .int, accessFlags := 25, slot := 0, constantValue := 0 }]
  methods := #[k13m0, k13m1, k13m2]
  instanceTypes := #[]
  staticTypes := #[.int]
  resolved := Array.replicate 74 none
  statics := none }

def pool14 : Array CpInfo := pool [(1, .class_ 2), (0, u "java/lang/String"), (1, .class_ 6), (1, u "java/lang/Object"), (0, u "<init>"), (0, u "()V"), (0, .methodref 1 10), (0, .nameAndType 11 12), (0, u "checkIndex"), (0, u "(II)V"), (1, .class_ 16), (1, u "java/lang/StringLatin1"), (36, u "([BI)C"), (67, u "$assertionsDisabled"), (0, u "Z"), (98, .class_ 223), (1, u "java/lang/StringLatin1$LinesSpliterator"), (28, u "charAt"), (137, .class_ 391), (0, u "java/lang/StringLatin1$CharsSpliterator")] 3

def k14m0 : Method := { name := "<init>", desc := "()V", sig := { parameters := [], returnType := none }, accessFlags := 0, code := none }
def k14c1 : Code := { maxStack := 2, maxLocals := 2, code := jdk_43_method_2_code, exceptionTable := #[], attributes := #[] }
def k14m1 : Method := { name := "charAt", desc := "([BI)C", sig := { parameters := [(.array .byte), .int], returnType := some .char }, accessFlags := 9, code := some k14c1 }
/-- java/lang/StringLatin1 -/
def k14 : Class := { plain "java/lang/StringLatin1" (some 0) with
  accessFlags := 48
  interfaces := #[]
  cf := some (fileOf pool14 14 #[.nestMembers #[390, 221]] #[{ accessFlags := 0, nameIndex := 7, descriptorIndex := 8, attributes := #[] }, { accessFlags := 9, nameIndex := 252, descriptorIndex := 53, attributes := #[] }] 48 4 #[] #[{ accessFlags := 4120, nameIndex := 121, descriptorIndex := 122, attributes := #[] }])
  fields := #[{ name := "$assertionsDisabled", type := .boolean, accessFlags := 4120, slot := 0, constantValue := 0 }]
  methods := #[k14m0, k14m1]
  instanceTypes := #[]
  staticTypes := #[.boolean]
  resolved := Array.replicate 395 none
  statics := none }

def pool15 : Array CpInfo := pool [(2, .class_ 4), (1, u "java/lang/Object"), (0, u "<init>"), (0, u "()V"), (17, .class_ 26), (1, u "jdk/internal/util/Preconditions"), (6, u "checkIndex"), (21, .class_ 56), (0, u "jdk/internal/util/Preconditions$4"), (57, .class_ 115), (0, u "jdk/internal/util/Preconditions$1"), (7, u "SIOOBE_FORMATTER"), (0, u "Ljava/util/function/BiFunction;"), (0, .class_ 126), (0, u "jdk/internal/util/Preconditions$2"), (3, u "AIOOBE_FORMATTER"), (0, .class_ 132), (0, u "jdk/internal/util/Preconditions$3"), (3, u "IOOBE_FORMATTER"), (41, u "(IILjava/util/function/BiFunction;)I")] 15

def k15m0 : Method := { name := "<init>", desc := "()V", sig := { parameters := [], returnType := none }, accessFlags := 1, code := none }
def k15c1 : Code := { maxStack := 3, maxLocals := 3, code := jdk_41_method_11_code, exceptionTable := #[], attributes := #[] }
def k15m1 : Method := { name := "checkIndex", desc := "(IILjava/util/function/BiFunction;)I", sig := { parameters := [.int, .int, (.object "java/util/function/BiFunction")], returnType := some .int }, accessFlags := 9, code := some k15c1 }
/-- jdk/internal/util/Preconditions -/
def k15 : Class := { plain "jdk/internal/util/Preconditions" (some 0) with
  accessFlags := 33
  interfaces := #[]
  cf := some (fileOf pool15 24 #[.nestMembers #[55, 131, 125, 114]] #[{ accessFlags := 1, nameIndex := 5, descriptorIndex := 6, attributes := #[] }, { accessFlags := 9, nameIndex := 33, descriptorIndex := 178, attributes := #[] }] 33 2 #[] #[{ accessFlags := 25, nameIndex := 123, descriptorIndex := 124, attributes := #[] }, { accessFlags := 25, nameIndex := 130, descriptorIndex := 124, attributes := #[] }, { accessFlags := 25, nameIndex := 136, descriptorIndex := 124, attributes := #[] }])
  fields := #[{ name := "SIOOBE_FORMATTER", type := (.object "java/util/function/BiFunction"), accessFlags := 25, slot := 0, constantValue := 0 }, { name := "AIOOBE_FORMATTER", type := (.object "java/util/function/BiFunction"), accessFlags := 25, slot := 1, constantValue := 0 }, { name := "IOOBE_FORMATTER", type := (.object "java/util/function/BiFunction"), accessFlags := 25, slot := 2, constantValue := 0 }]
  methods := #[k15m0, k15m1]
  instanceTypes := #[]
  staticTypes := #[(.object "java/util/function/BiFunction"), (.object "java/util/function/BiFunction"), (.object "java/util/function/BiFunction")]
  resolved := Array.replicate 194 none
  statics := some 3 }

def pool16 : Array CpInfo := pool [(1, .class_ 2), (0, u "java/lang/Cloneable"), (0, .class_ 4), (0, u "java/lang/Object")] 2

/-- java/lang/Cloneable -/
def k16 : Class := { plain "java/lang/Cloneable" (some 0) with
  accessFlags := 1537
  interfaces := #[]
  cf := some (fileOf pool16 1 #[] #[] 1537 3 #[] #[])
  fields := #[]
  methods := #[]
  instanceTypes := #[]
  staticTypes := #[]
  resolved := Array.replicate 7 none
  statics := none }

def pool17 : Array CpInfo := pool [(9, u "<init>"), (6, .class_ 18), (1, u "java/lang/Object"), (0, u "()V"), (1, .class_ 23), (1, u "jdk/internal/util/ArraysSupport"), (0, u "LOG2_ARRAY_LONG_INDEX_SCALE"), (0, u "I"), (2, u "U"), (0, u "Ljdk/internal/misc/Unsafe;"), (8, u "BIG_ENDIAN"), (0, u "Z"), (8, u "LOG2_BYTE_BIT_SIZE"), (4, u "LOG2_ARRAY_INT_INDEX_SCALE"), (54, u "JLA"), (0, u "Ljdk/internal/access/JavaLangAccess;"), (11, u "LOG2_ARRAY_BOOLEAN_INDEX_SCALE"), (9, u "LOG2_ARRAY_BYTE_INDEX_SCALE"), (5, u "LOG2_ARRAY_CHAR_INDEX_SCALE"), (5, u "LOG2_ARRAY_SHORT_INDEX_SCALE"), (18, u "LOG2_ARRAY_FLOAT_INDEX_SCALE"), (24, u "LOG2_ARRAY_DOUBLE_INDEX_SCALE"), (89, u "T_BOOLEAN"), (2, u "T_CHAR"), (1, u "T_FLOAT"), (1, u "T_DOUBLE"), (1, u "T_BYTE"), (1, u "T_SHORT"), (1, u "T_INT"), (1, u "T_LONG"), (1, u "SOFT_MAX_ARRAY_LENGTH")] 83

def k17m0 : Method := { name := "<init>", desc := "()V", sig := { parameters := [], returnType := none }, accessFlags := 2, code := none }
/-- jdk/internal/util/ArraysSupport -/
def k17 : Class := { plain "jdk/internal/util/ArraysSupport" (some 0) with
  accessFlags := 33
  interfaces := #[]
  cf := some (fileOf pool17 21 #[] #[{ accessFlags := 2, nameIndex := 9, descriptorIndex := 19, attributes := #[] }] 33 16 #[] #[{ accessFlags := 24, nameIndex := 28, descriptorIndex := 29, attributes := #[] }, { accessFlags := 26, nameIndex := 38, descriptorIndex := 39, attributes := #[] }, { accessFlags := 25, nameIndex := 121, descriptorIndex := 25, attributes := #[] }, { accessFlags := 25, nameIndex := 131, descriptorIndex := 25, attributes := #[] }, { accessFlags := 25, nameIndex := 137, descriptorIndex := 25, attributes := #[] }, { accessFlags := 25, nameIndex := 143, descriptorIndex := 25, attributes := #[] }, { accessFlags := 25, nameIndex := 53, descriptorIndex := 25, attributes := #[] }, { accessFlags := 25, nameIndex := 24, descriptorIndex := 25, attributes := #[] }, { accessFlags := 25, nameIndex := 162, descriptorIndex := 25, attributes := #[] }, { accessFlags := 25, nameIndex := 187, descriptorIndex := 25, attributes := #[] }, { accessFlags := 26, nameIndex := 48, descriptorIndex := 25, attributes := #[] }, { accessFlags := 25, nameIndex := 277, descriptorIndex := 25, attributes := #[] }, { accessFlags := 25, nameIndex := 280, descriptorIndex := 25, attributes := #[] }, { accessFlags := 25, nameIndex := 282, descriptorIndex := 25, attributes := #[] }, { accessFlags := 25, nameIndex := 284, descriptorIndex := 25, attributes := #[] }, { accessFlags := 25, nameIndex := 286, descriptorIndex := 25, attributes := #[] }, { accessFlags := 25, nameIndex := 288, descriptorIndex := 25, attributes := #[] }, { accessFlags := 25, nameIndex := 290, descriptorIndex := 25, attributes := #[] }, { accessFlags := 25, nameIndex := 292, descriptorIndex := 25, attributes := #[] }, { accessFlags := 26, nameIndex := 108, descriptorIndex := 109, attributes := #[] }, { accessFlags := 25, nameIndex := 294, descriptorIndex := 25, attributes := #[] }])
  fields := #[{ name := "U", type := (.object "jdk/internal/misc/Unsafe"), accessFlags := 24, slot := 0, constantValue := 0 }, { name := "BIG_ENDIAN", type := .boolean, accessFlags := 26, slot := 1, constantValue := 0 }, { name := "LOG2_ARRAY_BOOLEAN_INDEX_SCALE", type := .int, accessFlags := 25, slot := 2, constantValue := 0 }, { name := "LOG2_ARRAY_BYTE_INDEX_SCALE", type := .int, accessFlags := 25, slot := 3, constantValue := 0 }, { name := "LOG2_ARRAY_CHAR_INDEX_SCALE", type := .int, accessFlags := 25, slot := 4, constantValue := 0 }, { name := "LOG2_ARRAY_SHORT_INDEX_SCALE", type := .int, accessFlags := 25, slot := 5, constantValue := 0 }, { name := "LOG2_ARRAY_INT_INDEX_SCALE", type := .int, accessFlags := 25, slot := 6, constantValue := 0 }, { name := "LOG2_ARRAY_LONG_INDEX_SCALE", type := .int, accessFlags := 25, slot := 7, constantValue := 0 }, { name := "LOG2_ARRAY_FLOAT_INDEX_SCALE", type := .int, accessFlags := 25, slot := 8, constantValue := 0 }, { name := "LOG2_ARRAY_DOUBLE_INDEX_SCALE", type := .int, accessFlags := 25, slot := 9, constantValue := 0 }, { name := "LOG2_BYTE_BIT_SIZE", type := .int, accessFlags := 26, slot := 10, constantValue := 0 }, { name := "T_BOOLEAN", type := .int, accessFlags := 25, slot := 11, constantValue := 0 }, { name := "T_CHAR", type := .int, accessFlags := 25, slot := 12, constantValue := 0 }, { name := "T_FLOAT", type := .int, accessFlags := 25, slot := 13, constantValue := 0 }, { name := "T_DOUBLE", type := .int, accessFlags := 25, slot := 14, constantValue := 0 }, { name := "T_BYTE", type := .int, accessFlags := 25, slot := 15, constantValue := 0 }, { name := "T_SHORT", type := .int, accessFlags := 25, slot := 16, constantValue := 0 }, { name := "T_INT", type := .int, accessFlags := 25, slot := 17, constantValue := 0 }, { name := "T_LONG", type := .int, accessFlags := 25, slot := 18, constantValue := 0 }, { name := "JLA", type := (.object "jdk/internal/access/JavaLangAccess"), accessFlags := 26, slot := 19, constantValue := 0 }, { name := "SOFT_MAX_ARRAY_LENGTH", type := .int, accessFlags := 25, slot := 20, constantValue := 0 }]
  methods := #[k17m0]
  instanceTypes := #[]
  staticTypes := #[(.object "jdk/internal/misc/Unsafe"), .boolean, .int, .int, .int, .int, .int, .int, .int, .int, .int, .int, .int, .int, .int, .int, .int, .int, .int, (.object "jdk/internal/access/JavaLangAccess"), .int]
  resolved := Array.replicate 378 none
  statics := none }

/-- the primitive byte -/
def k18 : Class := { plain "byte" none with kind := .primitive 'B', accessFlags := 0x411 }
/-- [B -/
def k19 : Class := { plain "[B" (some 0) with kind := .array 18 .byte, interfaces := #[16, 4], accessFlags := 1041 }

/-- the primitive int -/
def k20 : Class := { plain "int" none with kind := .primitive 'I', accessFlags := 0x411 }
/-- [I -/
def k21 : Class := { plain "[I" (some 0) with kind := .array 20 .int, interfaces := #[16, 4], accessFlags := 1041 }

def heap : Heap := #[{ cls := 6, slots := #[.ref 7, .ref 8, .ref 9, .ref 10, .ref 11, .ref 12, .ref 13, .null], vm := .statics 6 },
  { cls := 9, slots := #[.long 0, .int 1, .null, .int 0, .null, .int 0, .int 0], vm := .statics 9 },
  { cls := 11, slots := #[.ref 4, .ref 5, .ref 6, .null], vm := .statics 11 },
  { cls := 15, slots := #[.null, .null, .null], vm := .statics 15 },
  { cls := 11, slots := #[.null, .int 0, .int 0], vm := .none },
  { cls := 11, slots := #[.null, .int 1, .int 0], vm := .none },
  { cls := 11, slots := #[.null, .int 2, .int 0], vm := .none },
  { cls := 6, slots := #[.null, .int 0, .int 0, .ref 6, .int 0, .int 1], vm := .none },
  { cls := 6, slots := #[.null, .int 1, .int 0, .ref 6, .int 1, .int 1], vm := .none },
  { cls := 6, slots := #[.null, .int 2, .int 0, .ref 6, .int 0, .int 0], vm := .none },
  { cls := 6, slots := #[.null, .int 3, .int 0, .ref 6, .int 1, .int 0], vm := .none },
  { cls := 6, slots := #[.null, .int 4, .int 0, .ref 6, .int 1, .int 0], vm := .none },
  { cls := 6, slots := #[.null, .int 5, .int 0, .ref 5, .int 0, .int 0], vm := .none },
  { cls := 6, slots := #[.null, .int 6, .int 0, .ref 4, .int 0, .int 0], vm := .none }]
def classes : Array Class := #[k0, k1, k2, k3, k4, k5, k6, k7, k8, k9, k10, k11, k12, k13, k14, k15, k16, k17, k18, k19, k20, k21]
def interned : List (Array UInt16 × Addr) := []
def slotsUsed : Nat := 73
def theMethod : MethodId := ⟨1, 2⟩
def args0 : Array Value := #[.int 5, .int 5, .int 5, .long 5, .int 5]
def aboutOver (below : List Frame) : State where
  vm := { classes := classes, interned := interned.toArray }
  heap := heap
  slotsUsed := slotsUsed
  threads := #[{ frames := .invoking theMethod args0 :: below }]
def below0 : List Frame := [.native { method := ⟨0, 0⟩, args := #[] }]
def about1 : State := aboutOver below0
def p0 : Program := .bare "" "" ""
def e0 : Env := launch0.env 0 0 0
theorem w_frames : about1.frames = Frame.invoking theMethod args0 :: below0 := rfl
set_option maxRecDepth 65536 in
theorem w_args : argsFit about1.vm theMethod args0 = true := by decide +kernel
set_option maxRecDepth 65536 in
theorem w_heap : heapFits about1 = true := by decide +kernel
set_option maxRecDepth 65536 in
theorem w_runnable : about1.curStatus? = some .runnable := by decide +kernel
set_option maxRecDepth 65536 in
theorem w_alone : about1.alone = true := by decide +kernel
set_option maxRecDepth 65536 in
theorem w_named : about1.methodNamed? x = some theMethod := by decide +kernel
set_option maxRecDepth 65536 in
theorem w_hears : about1.hears theMethod below0 = true := by decide +kernel
set_option maxRecDepth 65536 in
theorem w_ripe : about1.ripe theMethod args0 below0 = true := by decide +kernel
theorem w_running : about1.status = .running := rfl
set_option maxRecDepth 65536 in
theorem w_room : about1.hasRoom e0.platform room_1 = true :=
  launch0.hasRoom_least _ room_1 (by decide +kernel) (by decide +kernel) (by decide +kernel) (by decide +kernel) (by decide +kernel) (by decide +kernel)
theorem allAtoms_all (ts : List Jvm.Cond) (a : Array Jvm.Value) (st : Jvm.State) : (allAtoms ts).before a st = ts.all (fun c => c.before a st) := by
  induction ts with
  | nil => rfl
  | cons c t ih =>
    show (Jvm.Cond.and c (allAtoms t)).before a st = _
    rw [Jvm.Cond.before_and, ih, List.all_cons]
def words1 : List Jvm.Cond := Jvm.Cond.code x code maxLocals ret :: tables_1
/-- a 'code' word, met by the world's own term for the bytes: nothing is compared byte by byte -/
theorem code_word {y : MethodName} {bytes : ByteArray} {mx : Nat} {rt : Option FieldType} {a : Array Value} {s : State} {m : MethodId} {meth : Method} {c : Code} (h1 : s.methodNamed? y = some m) (h2 : s.vm.method? m = some meth) (h3 : meth.code = some c) (h4 : c.code = bytes)
    (h5 : (c.maxLocals == mx && c.exceptionTable.isEmpty && decide (c.maxStack ≤ mostOperands) && decide (meth.sig.returnType = rt) && !meth.locks && decide (parseMethodDescriptor y.desc = some meth.sig)) = true) : (Jvm.Cond.code y bytes mx rt).before a s = true := by
  simp only [Bool.and_eq_true, beq_iff_eq, Bool.not_eq_true', decide_eq_true_eq] at h5
  obtain ⟨⟨⟨⟨⟨g1, g2⟩, g3⟩, g4⟩, g5⟩, g6⟩ := h5
  simp [Cond.before, Cond.holds, Cond.value, h1, h2, h3, h4, g1, g2, g3, g4, g5, g6]
def isCode : Jvm.Cond → Bool
  | .code _ _ _ _ => true
  | _ => false
theorem all_split {L : List Jvm.Cond} {P : Jvm.Cond → Bool} (h1 : L.all (fun c => isCode c || P c) = true) (h2 : ∀ c ∈ L.filter isCode, P c = true) : L.all P = true := by
  refine List.all_eq_true.mpr fun c hc => ?_
  have h := List.all_eq_true.mp h1 c hc
  rcases Bool.eq_false_or_eq_true (isCode c) with hi | hi
  · exact h2 c (List.mem_filter.mpr ⟨hc, hi⟩)
  · simpa [hi] using h
set_option maxRecDepth 65536 in
theorem w_c0 : (Jvm.Cond.code x code maxLocals ret).before args0 about1 = true := code_word (m := ⟨1, 2⟩) (meth := k1m2) (c := k1c2) (by decide +kernel) rfl rfl rfl (by decide +kernel)
set_option maxRecDepth 65536 in
theorem w_c1 : (Jvm.Cond.code ({ cls := "com/example/nests/nests/model/Mutation", name := "<init>", desc := "(Lcom/example/nests/nests/model/Mutation$Kind;Ljava/lang/String;[BJ[B)V" } : Jvm.MethodName) prog_72_method_1_code (8 : Nat) (Option.none : Option Jvm.ClassFile.FieldType)).before args0 about1 = true := code_word (m := ⟨10, 0⟩) (meth := k10m0) (c := k10c0) (by decide +kernel) rfl rfl rfl (by decide +kernel)
set_option maxRecDepth 65536 in
theorem w_c2 : (Jvm.Cond.code ({ cls := "java/lang/Object", name := "<init>", desc := "()V" } : Jvm.MethodName) object_method_1_code (1 : Nat) (Option.none : Option Jvm.ClassFile.FieldType)).before args0 about1 = true := code_word (m := ⟨0, 0⟩) (meth := k0m0) (c := k0c0) (by decide +kernel) rfl rfl rfl (by decide +kernel)
set_option maxRecDepth 65536 in
theorem w_c3 : (Jvm.Cond.code ({ cls := "com/example/nests/nests/model/Mutation$Kind", name := "getTarget", desc := "()Lcom/example/nests/nests/model/Mutation$Target;" } : Jvm.MethodName) prog_73_method_4_code (1 : Nat) (Option.some (Jvm.ClassFile.FieldType.object "com/example/nests/nests/model/Mutation$Target"))).before args0 about1 = true := code_word (m := ⟨6, 0⟩) (meth := k6m0) (c := k6c0) (by decide +kernel) rfl rfl rfl (by decide +kernel)
set_option maxRecDepth 65536 in
theorem w_c4 : (Jvm.Cond.code ({ cls := "com/example/nests/nests/model/Mutation$Kind", name := "takesValue", desc := "()Z" } : Jvm.MethodName) prog_73_method_6_code (1 : Nat) (Option.some Jvm.ClassFile.FieldType.boolean)).before args0 about1 = true := code_word (m := ⟨6, 2⟩) (meth := k6m2) (c := k6c2) (by decide +kernel) rfl rfl rfl (by decide +kernel)
set_option maxRecDepth 65536 in
theorem w_c5 : (Jvm.Cond.code ({ cls := "com/example/nests/nests/model/Cell", name := "checkFamily", desc := "(Ljava/lang/String;)V" } : Jvm.MethodName) prog_68_method_3_code (1 : Nat) (Option.none : Option Jvm.ClassFile.FieldType)).before args0 about1 = true := code_word (m := ⟨12, 0⟩) (meth := k12m0) (c := k12c0) (by decide +kernel) rfl rfl rfl (by decide +kernel)
set_option maxRecDepth 65536 in
theorem w_c6 : (Jvm.Cond.code ({ cls := "com/example/nests/nests/model/Names", name := "check", desc := "(Ljava/lang/String;Ljava/lang/String;)V" } : Jvm.MethodName) prog_76_method_2_code (4 : Nat) (Option.none : Option Jvm.ClassFile.FieldType)).before args0 about1 = true := code_word (m := ⟨13, 1⟩) (meth := k13m1) (c := k13c1) (by decide +kernel) rfl rfl rfl (by decide +kernel)
set_option maxRecDepth 65536 in
theorem w_c7 : (Jvm.Cond.code ({ cls := "java/lang/String", name := "isEmpty", desc := "()Z" } : Jvm.MethodName) jdk_42_method_55_code (1 : Nat) (Option.some Jvm.ClassFile.FieldType.boolean)).before args0 about1 = true := code_word (m := ⟨9, 2⟩) (meth := k9m2) (c := k9c2) (by decide +kernel) rfl rfl rfl (by decide +kernel)
set_option maxRecDepth 65536 in
theorem w_c8 : (Jvm.Cond.code ({ cls := "java/lang/String", name := "length", desc := "()I" } : Jvm.MethodName) jdk_42_method_54_code (1 : Nat) (Option.some Jvm.ClassFile.FieldType.int)).before args0 about1 = true := code_word (m := ⟨9, 1⟩) (meth := k9m1) (c := k9c1) (by decide +kernel) rfl rfl rfl (by decide +kernel)
set_option maxRecDepth 65536 in
theorem w_c9 : (Jvm.Cond.code ({ cls := "java/lang/String", name := "coder", desc := "()B" } : Jvm.MethodName) jdk_42_method_152_code (1 : Nat) (Option.some Jvm.ClassFile.FieldType.byte)).before args0 about1 = true := code_word (m := ⟨9, 4⟩) (meth := k9m4) (c := k9c4) (by decide +kernel) rfl rfl rfl (by decide +kernel)
set_option maxRecDepth 65536 in
theorem w_c10 : (Jvm.Cond.code ({ cls := "java/lang/String", name := "charAt", desc := "(I)C" } : Jvm.MethodName) jdk_42_method_56_code (2 : Nat) (Option.some Jvm.ClassFile.FieldType.char)).before args0 about1 = true := code_word (m := ⟨9, 3⟩) (meth := k9m3) (c := k9c3) (by decide +kernel) rfl rfl rfl (by decide +kernel)
set_option maxRecDepth 65536 in
theorem w_c11 : (Jvm.Cond.code ({ cls := "java/lang/String", name := "isLatin1", desc := "()Z" } : Jvm.MethodName) jdk_42_method_154_code (1 : Nat) (Option.some Jvm.ClassFile.FieldType.boolean)).before args0 about1 = true := code_word (m := ⟨9, 5⟩) (meth := k9m5) (c := k9c5) (by decide +kernel) rfl rfl rfl (by decide +kernel)
set_option maxRecDepth 65536 in
theorem w_c12 : (Jvm.Cond.code ({ cls := "java/lang/StringLatin1", name := "charAt", desc := "([BI)C" } : Jvm.MethodName) jdk_43_method_2_code (2 : Nat) (Option.some Jvm.ClassFile.FieldType.char)).before args0 about1 = true := code_word (m := ⟨14, 1⟩) (meth := k14m1) (c := k14c1) (by decide +kernel) rfl rfl rfl (by decide +kernel)
set_option maxRecDepth 65536 in
theorem w_c13 : (Jvm.Cond.code ({ cls := "java/lang/String", name := "checkIndex", desc := "(II)V" } : Jvm.MethodName) jdk_42_method_155_code (2 : Nat) (Option.none : Option Jvm.ClassFile.FieldType)).before args0 about1 = true := code_word (m := ⟨9, 6⟩) (meth := k9m6) (c := k9c6) (by decide +kernel) rfl rfl rfl (by decide +kernel)
set_option maxRecDepth 65536 in
theorem w_c14 : (Jvm.Cond.code ({ cls := "jdk/internal/util/Preconditions", name := "checkIndex", desc := "(IILjava/util/function/BiFunction;)I" } : Jvm.MethodName) jdk_41_method_11_code (3 : Nat) (Option.some Jvm.ClassFile.FieldType.int)).before args0 about1 = true := code_word (m := ⟨15, 1⟩) (meth := k15m1) (c := k15c1) (by decide +kernel) rfl rfl rfl (by decide +kernel)
set_option maxRecDepth 65536 in
theorem w_c15 : (Jvm.Cond.code ({ cls := "com/example/nests/nests/model/Names", name := "isNameChar", desc := "(C)Z" } : Jvm.MethodName) prog_76_method_3_code (1 : Nat) (Option.some Jvm.ClassFile.FieldType.boolean)).before args0 about1 = true := code_word (m := ⟨13, 2⟩) (meth := k13m2) (c := k13c2) (by decide +kernel) rfl rfl rfl (by decide +kernel)
set_option maxRecDepth 65536 in
theorem w_c16 : (Jvm.Cond.code ({ cls := "com/example/nests/nests/model/Mutation", name := "getValue", desc := "()[B" } : Jvm.MethodName) prog_72_method_6_code (1 : Nat) (Option.some (Jvm.ClassFile.FieldType.array Jvm.ClassFile.FieldType.byte))).before args0 about1 = true := code_word (m := ⟨10, 1⟩) (meth := k10m1) (c := k10c1) (by decide +kernel) rfl rfl rfl (by decide +kernel)
set_option maxRecDepth 65536 in
theorem w_c17 : (Jvm.Cond.code ({ cls := "com/example/nests/nests/model/MutationGetValuePinLaw", name := "same", desc := "([BIBBB)Z" } : Jvm.MethodName) method_2_code (5 : Nat) (Option.some Jvm.ClassFile.FieldType.boolean)).before args0 about1 = true := code_word (m := ⟨1, 1⟩) (meth := k1m1) (c := k1c1) (by decide +kernel) rfl rfl rfl (by decide +kernel)
set_option maxRecDepth 65536 in
theorem w_c18 : (Jvm.Cond.code ({ cls := "com/example/nests/nests/model/Mutation$Kind", name := "takesTimestamp", desc := "()Z" } : Jvm.MethodName) prog_73_method_5_code (1 : Nat) (Option.some Jvm.ClassFile.FieldType.boolean)).before args0 about1 = true := code_word (m := ⟨6, 1⟩) (meth := k6m1) (c := k6c1) (by decide +kernel) rfl rfl rfl (by decide +kernel)
def codes1 : List Jvm.Cond := [Jvm.Cond.code x code maxLocals ret, Jvm.Cond.code ({ cls := "com/example/nests/nests/model/Mutation", name := "<init>", desc := "(Lcom/example/nests/nests/model/Mutation$Kind;Ljava/lang/String;[BJ[B)V" } : Jvm.MethodName) prog_72_method_1_code (8 : Nat) (Option.none : Option Jvm.ClassFile.FieldType), Jvm.Cond.code ({ cls := "java/lang/Object", name := "<init>", desc := "()V" } : Jvm.MethodName) object_method_1_code (1 : Nat) (Option.none : Option Jvm.ClassFile.FieldType), Jvm.Cond.code ({ cls := "com/example/nests/nests/model/Mutation$Kind", name := "getTarget", desc := "()Lcom/example/nests/nests/model/Mutation$Target;" } : Jvm.MethodName) prog_73_method_4_code (1 : Nat) (Option.some (Jvm.ClassFile.FieldType.object "com/example/nests/nests/model/Mutation$Target")), Jvm.Cond.code ({ cls := "com/example/nests/nests/model/Mutation$Kind", name := "takesValue", desc := "()Z" } : Jvm.MethodName) prog_73_method_6_code (1 : Nat) (Option.some Jvm.ClassFile.FieldType.boolean), Jvm.Cond.code ({ cls := "com/example/nests/nests/model/Cell", name := "checkFamily", desc := "(Ljava/lang/String;)V" } : Jvm.MethodName) prog_68_method_3_code (1 : Nat) (Option.none : Option Jvm.ClassFile.FieldType), Jvm.Cond.code ({ cls := "com/example/nests/nests/model/Names", name := "check", desc := "(Ljava/lang/String;Ljava/lang/String;)V" } : Jvm.MethodName) prog_76_method_2_code (4 : Nat) (Option.none : Option Jvm.ClassFile.FieldType), Jvm.Cond.code ({ cls := "java/lang/String", name := "isEmpty", desc := "()Z" } : Jvm.MethodName) jdk_42_method_55_code (1 : Nat) (Option.some Jvm.ClassFile.FieldType.boolean), Jvm.Cond.code ({ cls := "java/lang/String", name := "length", desc := "()I" } : Jvm.MethodName) jdk_42_method_54_code (1 : Nat) (Option.some Jvm.ClassFile.FieldType.int), Jvm.Cond.code ({ cls := "java/lang/String", name := "coder", desc := "()B" } : Jvm.MethodName) jdk_42_method_152_code (1 : Nat) (Option.some Jvm.ClassFile.FieldType.byte), Jvm.Cond.code ({ cls := "java/lang/String", name := "charAt", desc := "(I)C" } : Jvm.MethodName) jdk_42_method_56_code (2 : Nat) (Option.some Jvm.ClassFile.FieldType.char), Jvm.Cond.code ({ cls := "java/lang/String", name := "isLatin1", desc := "()Z" } : Jvm.MethodName) jdk_42_method_154_code (1 : Nat) (Option.some Jvm.ClassFile.FieldType.boolean), Jvm.Cond.code ({ cls := "java/lang/StringLatin1", name := "charAt", desc := "([BI)C" } : Jvm.MethodName) jdk_43_method_2_code (2 : Nat) (Option.some Jvm.ClassFile.FieldType.char), Jvm.Cond.code ({ cls := "java/lang/String", name := "checkIndex", desc := "(II)V" } : Jvm.MethodName) jdk_42_method_155_code (2 : Nat) (Option.none : Option Jvm.ClassFile.FieldType), Jvm.Cond.code ({ cls := "jdk/internal/util/Preconditions", name := "checkIndex", desc := "(IILjava/util/function/BiFunction;)I" } : Jvm.MethodName) jdk_41_method_11_code (3 : Nat) (Option.some Jvm.ClassFile.FieldType.int), Jvm.Cond.code ({ cls := "com/example/nests/nests/model/Names", name := "isNameChar", desc := "(C)Z" } : Jvm.MethodName) prog_76_method_3_code (1 : Nat) (Option.some Jvm.ClassFile.FieldType.boolean), Jvm.Cond.code ({ cls := "com/example/nests/nests/model/Mutation", name := "getValue", desc := "()[B" } : Jvm.MethodName) prog_72_method_6_code (1 : Nat) (Option.some (Jvm.ClassFile.FieldType.array Jvm.ClassFile.FieldType.byte)), Jvm.Cond.code ({ cls := "com/example/nests/nests/model/MutationGetValuePinLaw", name := "same", desc := "([BIBBB)Z" } : Jvm.MethodName) method_2_code (5 : Nat) (Option.some Jvm.ClassFile.FieldType.boolean), Jvm.Cond.code ({ cls := "com/example/nests/nests/model/Mutation$Kind", name := "takesTimestamp", desc := "()Z" } : Jvm.MethodName) prog_73_method_5_code (1 : Nat) (Option.some Jvm.ClassFile.FieldType.boolean)]
set_option maxRecDepth 65536 in
theorem codes_eq : words1.filter isCode = codes1 := rfl
theorem w_codes : ∀ c ∈ words1.filter isCode, c.before args0 about1 = true := by
  rw [codes_eq]
  intro c hc
  simp only [codes1, List.mem_cons, List.not_mem_nil, or_false] at hc
  rcases hc with rfl | rfl | rfl | rfl | rfl | rfl | rfl | rfl | rfl | rfl | rfl | rfl | rfl | rfl | rfl | rfl | rfl | rfl | rfl
  · exact w_c0
  · exact w_c1
  · exact w_c2
  · exact w_c3
  · exact w_c4
  · exact w_c5
  · exact w_c6
  · exact w_c7
  · exact w_c8
  · exact w_c9
  · exact w_c10
  · exact w_c11
  · exact w_c12
  · exact w_c13
  · exact w_c14
  · exact w_c15
  · exact w_c16
  · exact w_c17
  · exact w_c18
set_option maxRecDepth 65536 in
theorem w_t1 : (words1.take 24).all (fun c => isCode c || c.before args0 about1) = true := by decide +kernel
set_option maxRecDepth 65536 in
theorem w_t2 : ((words1.drop 24).take 24).all (fun c => isCode c || c.before args0 about1) = true := by decide +kernel
set_option maxRecDepth 65536 in
theorem w_t3 : (((words1.drop 24).drop 24).take 24).all (fun c => isCode c || c.before args0 about1) = true := by decide +kernel
set_option maxRecDepth 65536 in
theorem w_t4 : ((((words1.drop 24).drop 24).drop 24).take 24).all (fun c => isCode c || c.before args0 about1) = true := by decide +kernel
set_option maxRecDepth 65536 in
theorem w_t5 : (((((words1.drop 24).drop 24).drop 24).drop 24).take 24).all (fun c => isCode c || c.before args0 about1) = true := by decide +kernel
set_option maxRecDepth 65536 in
theorem w_t6 : (((((words1.drop 24).drop 24).drop 24).drop 24).drop 24).all (fun c => isCode c || c.before args0 about1) = true := by decide +kernel
theorem w_tables : (allAtoms (Jvm.Cond.code x code maxLocals ret :: tables_1)).before args0 about1 = true := by
  rw [allAtoms_all]
  show words1.all (fun c => c.before args0 about1) = true
  refine all_split ?_ w_codes
  rw [← List.take_append_drop 24 words1, List.all_append, w_t1, ← List.take_append_drop 24 (words1.drop 24), List.all_append, w_t2, ← List.take_append_drop 24 ((words1.drop 24).drop 24), List.all_append, w_t3, ← List.take_append_drop 24 (((words1.drop 24).drop 24).drop 24), List.all_append, w_t4, ← List.take_append_drop 24 ((((words1.drop 24).drop 24).drop 24).drop 24), List.all_append, w_t5, w_t6]
  rfl
set_option maxRecDepth 65536 in
theorem w_rest : rest_1_c.before args0 about1 = true := by decide +kernel
set_option maxRecDepth 65536 in
theorem w_case : (Jvm.Cond.and given_1 narrow_1).before args0 about1 = true := by decide +kernel
set_option maxRecDepth 65536 in
theorem w_consts : constsHeld consts_1 about1 := Jvm.Lit.constsHeldB_iff.mp (by decide +kernel)
theorem w_applies : (headSpec (Jvm.Cond.code x code maxLocals ret :: tables_1) room_1).applies x e0.platform about1 = true :=
  (Spec.applies_iff w_frames).mpr ⟨w_running, w_runnable, w_alone, w_named, w_hears, w_ripe, w_room, w_tables⟩
theorem atStart : AtStart classFile x code maxLocals ret World_1 tables_1 room_1 Calls_1 rest_1 Pre_1 launch0 p0 e0 about1 theMethod args0 below0 :=
  ⟨lists_1, trivial, launch0.admits_env _ _ _, launch0.least_env, fairChoices_fair.cas, fairChoices_fair.clock, w_frames, w_args, w_heap, w_applies, ⟨w_consts, trivial⟩, w_rest, w_case⟩
end start1
theorem witness_1 : WitnessClaimed_1 := ⟨start1.p0, start1.e0, start1.about1, start1.theMethod, start1.args0, start1.below0, start1.atStart⟩
end Jvm.Pilot.@@N@@
