import JvmDerived
import JvmDerived.Pilot.@@N@@Statement
import JvmDerived.Pilot.@@N@@Code
set_option linter.unusedVariables false
set_option linter.unusedSimpArgs false
namespace Jvm.RoadKit
open Sem ClassFile Op Lib Jvm.Stand Jvm.Free Jvm.LawKit
section New
variable {p : Program} {l : Launch} {e : Env} {R : Room} {s : State} {m : MethodId} {args : Array Value} {below : List Frame} {meth : Method} {c : Code} {T : State} {locs : List Loc} {cells slots : Nat}
theorem retI (X : Stand p l e R s m args below meth c T locs cells slots) (hx : p.tables.exec = Jvm.exec) {pc : Nat} {Ls : Array Slot} {z : Int32} {rest : List Value} (hret : meth.sig.returnType = some .int) (hd : decode c.code pc = .ok (.ireturn, 1)) {fs : List Frame}
    (hl : ∀ (f : JFrame) (acts : List Action), f.method = m → f.locked = none → f.entered = [] → (doReturn e (T.setTop f) acts (some (.int z))).1 = T.setFrames fs) : Steps p.tables e below (T.setTop (mkF m pc Ls (.int z :: rest))) (T.setFrames fs) := by
  have hm' : T.vm.method? m = some meth := X.method'
  have hn : narrow .int (.int z) = .int z := rfl
  show Steps p.tables e below (T.setTop { method := m, pc := pc, locals := Ls, stack := _ :: rest, locked := none }) _
  jvm_step X.here [X.here.top, hx, hd, hm', hret, hn]
  first | (intro acts; rw [hl _ acts rfl rfl rfl]) | rw [hl _ _ rfl rfl rfl]
  exact Steps.refl _
end New
end Jvm.RoadKit
namespace Jvm.Pilot.@@N@@
open Jvm Jvm.ClassFile Sem Op Lib Jvm.Free Jvm.Stand Jvm.LawKit Jvm.RoadKit Bundle Jvm.Pilot.@@N@@.Jvm.D
section OwnGo
variable {p : Program} {l : Launch} {e : Env} {R : Room} {s : State} {m : MethodId} {args : Array Value} {below : List Frame} {meth : Method} {c : Code} {T : State} {locs : List Loc} {cells slots : Nat}
/-- what a body owes from the state A on: the run comes to an end of the invocation with Q, within C cells and S slots -/
def own_Go (p : Program) (e : Env) (below : List Frame) (s : State) (Q : Option Value → Heap → List Loc → Prop) (C S : Nat) (A : State) : Prop :=
  ∃ s₂ o, Steps p.tables e below A s₂ ∧ s₂.status = .running ∧ Ended s₂ below o ∧ ∃ v L, o = .returned v ∧ Q v s₂.heap L ∧ FrameEnd s o s₂ L C S
variable {Q : Option Value → Heap → List Loc → Prop} {C S : Nat} {A B : State}
theorem own_step (h : ∀ t, Steps p.tables e below B t → Steps p.tables e below A t) (k : own_Go p e below s Q C S B) : own_Go p e below s Q C S A := by
  obtain ⟨s₂, o, h1, h2⟩ := k; exact ⟨s₂, o, h _ h1, h2⟩
theorem own_via (h : Steps p.tables e below A B) (k : own_Go p e below s Q C S B) : own_Go p e below s Q C S A := own_step (fun _ q => h.trans q) k
theorem own_retN (X : Stand p l e R s m args below meth c T locs cells slots) (hx : p.tables.exec = Jvm.exec) (hlocks : meth.locks = false) {pc : Nat} {Ls : Array Slot} {z : Int32} {t : FieldType} {rest : List Value} (hret : meth.sig.returnType = some t) (ht : t = .boolean ∨ t = .byte ∨ t = .char ∨ t = .short)
    (hd : decode c.code pc = .ok (.ireturn, 1)) (hq : Q (some (.int (nar t z))) T.heap locs) (hC : cells ≤ C) (hS : slots ≤ S) : own_Go p e below s Q C S (T.setTop (mkF m pc Ls (.int z :: rest))) := by
  obtain ⟨fs, hr, hrun, hended, hW, hsame⟩ := X.leave (v := some (.int (nar t z))) (fun h => by rw [hret] at h; cases h) hlocks
  exact ⟨_, _, retN X hx hret ht hd hr, hrun, hended, _, _, rfl, hq, ⟨_, rfl⟩, hW, hsame.mono hC hS⟩
theorem own_retI (X : Stand p l e R s m args below meth c T locs cells slots) (hx : p.tables.exec = Jvm.exec) (hlocks : meth.locks = false) {pc : Nat} {Ls : Array Slot} {z : Int32} {rest : List Value} (hret : meth.sig.returnType = some .int)
    (hd : decode c.code pc = .ok (.ireturn, 1)) (hq : Q (some (.int z)) T.heap locs) (hC : cells ≤ C) (hS : slots ≤ S) : own_Go p e below s Q C S (T.setTop (mkF m pc Ls (.int z :: rest))) := by
  obtain ⟨fs, hr, hrun, hended, hW, hsame⟩ := X.leave (v := some (.int z)) (fun h => by rw [hret] at h; cases h) hlocks
  exact ⟨_, _, retI X hx hret hd hr, hrun, hended, _, _, rfl, hq, ⟨_, rfl⟩, hW, hsame.mono hC hS⟩
theorem own_retJ (X : Stand p l e R s m args below meth c T locs cells slots) (hx : p.tables.exec = Jvm.exec) (hlocks : meth.locks = false) {pc : Nat} {Ls : Array Slot} {z : Int64} {rest : List Value} (hret : meth.sig.returnType = some .long)
    (hd : decode c.code pc = .ok (.lreturn, 1)) (hq : Q (some (.long z)) T.heap locs) (hC : cells ≤ C) (hS : slots ≤ S) : own_Go p e below s Q C S (T.setTop (mkF m pc Ls (.long z :: rest))) := by
  obtain ⟨fs, hr, hrun, hended, hW, hsame⟩ := X.leave (v := some (.long z)) (fun h => by rw [hret] at h; cases h) hlocks
  refine ⟨_, _, ?_, hrun, hended, _, _, rfl, hq, ⟨_, rfl⟩, hW, hsame.mono hC hS⟩
  have hm' : T.vm.method? m = some meth := X.method'
  show Steps p.tables e below (T.setTop { method := m, pc := pc, locals := Ls, stack := _ :: rest, locked := none }) _
  jvm_step X.here [X.here.top, hx, hd, hm', hret, narrow]
  first | (intro acts; rw [hr _ acts rfl rfl rfl]) | rw [hr _ _ rfl rfl rfl]
  exact Steps.refl _
theorem own_retV (X : Stand p l e R s m args below meth c T locs cells slots) (hx : p.tables.exec = Jvm.exec) (hlocks : meth.locks = false) {pc : Nat} {Ls : Array Slot} (hret : meth.sig.returnType = none)
    (hd : decode c.code pc = .ok (.return_, 1)) (hq : Q none T.heap locs) (hC : cells ≤ C) (hS : slots ≤ S) : own_Go p e below s Q C S (T.setTop (mkF m pc Ls [])) := by
  obtain ⟨fs, hr, hrun, hended, hW, hsame⟩ := X.leave (v := none) (fun _ => rfl) hlocks
  exact ⟨_, _, X.returnOut hx hret hd hr, hrun, hended, _, _, rfl, hq, ⟨_, rfl⟩, hW, hsame.mono hC hS⟩
theorem own_retR (X : Stand p l e R s m args below meth c T locs cells slots) (hx : p.tables.exec = Jvm.exec) (hlocks : meth.locks = false) {pc : Nat} {Ls : Array Slot} {v : Value} {t : FieldType} {rest : List Value} (hret : meth.sig.returnType = some t) (hv : v.isRef = true) (ht : t.isReference = true)
    (hd : decode c.code pc = .ok (.areturn, 1)) (hq : Q (some v) T.heap locs) (hC : cells ≤ C) (hS : slots ≤ S) : own_Go p e below s Q C S (T.setTop (mkF m pc Ls (v :: rest))) := by
  obtain ⟨fs, hr, hrun, hended, hW, hsame⟩ := X.leave (v := some v) (fun h => by rw [hret] at h; cases h) hlocks
  refine ⟨_, _, ?_, hrun, hended, _, _, rfl, hq, ⟨_, rfl⟩, hW, hsame.mono hC hS⟩
  have hm' : T.vm.method? m = some meth := X.method'
  show Steps p.tables e below (T.setTop { method := m, pc := pc, locals := Ls, stack := _ :: rest, locked := none }) _
  jvm_step X.here [X.here.top, hx, hd, hm', hret, hv, ht]
  first | (intro acts; rw [hr _ acts rfl rfl rfl]) | rw [hr _ _ rfl rfl rfl]
  exact Steps.refl _
theorem own_staKeep {Z : State} {h h' : Heap} {ws : List Addr} {C n d : String} {v : Value} (F : Sta Z h C n d v) (K : Keep h h' ws) (q : ∀ x ∈ ws, ∀ cell : Cell, h[x]? = some cell → cell.vm.isStatics = false) : Sta Z h' C n d v := by
  obtain ⟨cf, i, k, f, st, cell, h1, h2, h3, h4, h5, h6, h7⟩ := F
  exact ⟨cf, i, k, f, st, cell, h1, h2, h3, h4, K.2.1 st cell h5 (fun m => by have := q st m cell h5; rw [h6] at this; cases this), h6, h7⟩
/-- the same under the wide frame (a String constant may have been loaded) -/
def own_GoW (p : Program) (e : Env) (below : List Frame) (s : State) (Q : Option Value → Heap → List Loc → Prop) (C S : Nat) (A : State) : Prop :=
  ∃ s₂ o, Steps p.tables e below A s₂ ∧ s₂.status = .running ∧ Ended s₂ below o ∧ ∃ v L, o = .returned v ∧ Q v s₂.heap L ∧ ReturnedEndW s o s₂ L C S
theorem own_stepW (h : ∀ t, Steps p.tables e below B t → Steps p.tables e below A t) (k : own_GoW p e below s Q C S B) : own_GoW p e below s Q C S A := by
  obtain ⟨s₂, o, h1, h2⟩ := k; exact ⟨s₂, o, h _ h1, h2⟩
theorem own_viaW (h : Steps p.tables e below A B) (k : own_GoW p e below s Q C S B) : own_GoW p e below s Q C S A := own_stepW (fun _ q => h.trans q) k
theorem own_retNW {vm1 : Vm} {n : Nat} (X : Stand p l e R (s.setVm vm1) m args below meth c T locs cells slots) (hS : s.Since vm1 n) (hn : n ≤ T.heap.size) (hx : p.tables.exec = Jvm.exec) (hlocks : meth.locks = false) {pc : Nat} {Ls : Array Slot} {z : Int32} {t : FieldType} {rest : List Value} (hret : meth.sig.returnType = some t) (ht : t = .boolean ∨ t = .byte ∨ t = .char ∨ t = .short)
    (hd : decode c.code pc = .ok (.ireturn, 1)) (hq : Q (some (.int (nar t z))) T.heap locs) (hC : cells ≤ C) (hS' : slots ≤ S) : own_GoW p e below s Q C S (T.setTop (mkF m pc Ls (.int z :: rest))) := by
  obtain ⟨fs, hr, hrun, hended, h1, h2, h3, h4⟩ := X.leaveW hS hn (v := some (.int (nar t z))) (fun h => by rw [hret] at h; cases h) hlocks
  exact ⟨_, _, retN X hx hret ht hd hr, hrun, hended, _, _, rfl, hq, h1, h2, h3, h4.mono hC hS'⟩
theorem own_retVW {vm1 : Vm} {n : Nat} (X : Stand p l e R (s.setVm vm1) m args below meth c T locs cells slots) (hS : s.Since vm1 n) (hn : n ≤ T.heap.size) (hx : p.tables.exec = Jvm.exec) (hlocks : meth.locks = false) {pc : Nat} {Ls : Array Slot} (hret : meth.sig.returnType = none)
    (hd : decode c.code pc = .ok (.return_, 1)) (hq : Q none T.heap locs) (hC : cells ≤ C) (hS' : slots ≤ S) : own_GoW p e below s Q C S (T.setTop (mkF m pc Ls [])) := by
  obtain ⟨fs, hr, hrun, hended, h1, h2, h3, h4⟩ := X.leaveW hS hn (v := none) (fun _ => rfl) hlocks
  exact ⟨_, _, X.returnOut hx hret hd hr, hrun, hended, _, _, rfl, hq, h1, h2, h3, h4.mono hC hS'⟩
end OwnGo

def own_b (p : Prop) [Decidable p] : Int32 := if p then 1 else 0
theorem own_bt {p : Prop} [Decidable p] (h : p) : own_b p = 1 := if_pos h
theorem own_bf {p : Prop} [Decidable p] (h : ¬ p) : own_b p = 0 := if_neg h
theorem own_bn (p : Prop) [Decidable p] : narrow .boolean (.int (own_b p)) = .int (own_b p) := by unfold own_b; split <;> rfl
theorem own_bfit (p : Prop) [Decidable p] : fits .boolean (.int (own_b p)) = true := by unfold own_b; split <;> rfl
theorem own_iff {p q : Prop} [Decidable p] [Decidable q] (h : p ↔ q) : own_b p = own_b q := by unfold own_b; simp only [h]
def own_NC (p : Int32) : Prop := (¬ p < 65 ∧ ¬ 90 < p) ∨ (¬ p < 97 ∧ ¬ 122 < p) ∨ (¬ p < 48 ∧ ¬ 57 < p) ∨ p = 95 ∨ p = 46 ∨ p = 45
instance (p : Int32) : Decidable (own_NC p) := by unfold own_NC; infer_instance
theorem d8_0 : decode jdk_42_method_152_code 0 = .ok (.getstatic 38, 3) := by decide +kernel
theorem d8_3 : decode jdk_42_method_152_code 3 = .ok (.ifCond .eq 10, 3) := by decide +kernel
theorem d8_6 : decode jdk_42_method_152_code 6 = .ok (.aload_n 0, 1) := by decide +kernel
theorem d8_7 : decode jdk_42_method_152_code 7 = .ok (.getfield 15, 3) := by decide +kernel
theorem d8_10 : decode jdk_42_method_152_code 10 = .ok (.goto 4, 3) := by decide +kernel
theorem d8_13 : decode jdk_42_method_152_code 13 = .ok (.iconst 1, 1) := by decide +kernel
theorem d8_14 : decode jdk_42_method_152_code 14 = .ok (.ireturn, 1) := by decide +kernel
theorem pn_0 : plainName "java/lang/String" = true := by first | (simp [plainName, overriddenIn]; done) | decide +kernel
theorem ef_8 (m : MethodId) (a1 : Addr) : entryFrame m #[(.ref a1)] 1 = mkF m 0 #[.val (.ref a1)] [] := by first | (simp [entryFrame, mkF, argsToLocals, Value.category]; done) | rfl
def Q8 (Z : State) (a1 : Addr) (cs : Int32) (h0 : Heap) (n0 : Nat) (v : Option Value) (h : Heap) (L : List Loc) : Prop := v = some (.int (0 : Int32)) ∧ Fr n0 L ∧ h = h0
set_option maxRecDepth 65536 in
set_option maxHeartbeats 40000000 in
theorem rm8 (l : Launch) (Z : State) (a0 : Array Value) (hw : ∀ d ∈ tables_1, d.before a0 Z = true) (ws : List Jvm.Cond) (a1 : Addr) (cs : Int32) (h0 : Heap) (n0 : Nat) (Z0 : n0 ≤ h0.size) (F_c : Fld Z h0 a1 "java/lang/String" "coder" "B" (.int (0 : Int32))) (S_C : Sta Z h0 "java/lang/String" "COMPACT_STRINGS" "Z" (.int cs)) (hcs : ¬ (cs = (0 : Int32))) :
    MetFree l (⟨"java/lang/String", "coder", "()B"⟩ : MethodName) (head1 (Jvm.Cond.code (⟨"java/lang/String", "coder", "()B"⟩ : MethodName) jdk_42_method_152_code 1 (some .byte) :: ws) ({ frames := 0, cells := 0, slots := 0, locals := 0 } : Room)) (fun a U => a = #[(.ref a1)] ∧ Z.Warmed39 U.vm ∧ U.heap = h0) (fun _ _ _ _ _ => True) (fun _ U o U' => ∃ v L, o = .returned v ∧ Q8 Z a1 cs h0 n0 v U'.heap L ∧ FrameEnd U o U' L ({ frames := 0, cells := 0, slots := 0, locals := 0 } : Room).cells ({ frames := 0, cells := 0, slots := 0, locals := 0 } : Room).slots) := by
  refine MetFree.of_bodySF (plainFor_of_name pn_0) hisR ?_
  intro p e s m args below meth c s₁ Bd hml0 hP hK
  obtain ⟨rfl, hZ, hh⟩ := hP
  have hx := Bd.exec
  have hby := Bd.bytes
  have hml : c.maxLocals = 1 := hml0
  have hown : s.vm.findClass "java/lang/String" = some m.cls := findClass_of_methodNamed Bd.named
  have hnm := (name_of_methodNamed Bd.named Bd.method).1
  have X0 : Stand p l e ({ frames := 0, cells := 0, slots := 0, locals := 0 } : Room) s m #[(.ref a1)] below meth c s₁ [] 0 0 := Stand.of_body Bd
  have e0 : s₁.heap = h0 := by rw [← hh, Bd.state]; rfl
  have N0 := Fr.nil n0
  skip
  show own_Go p e below s (Q8 Z a1 cs h0 n0) ({ frames := 0, cells := 0, slots := 0, locals := 0 } : Room).cells ({ frames := 0, cells := 0, slots := 0, locals := 0 } : Room).slots _
  refine own_step (B := s₁.setTop (mkF m 0 #[.val (.ref a1)] [])) (fun t k => castTop (ef_8 m a1) k) ?_
  obtain ⟨T1, X1, e1, st1⟩ := getS2 X0 hx hZ hown (host := "") (Or.inl (hw _ (List.mem_of_getElem? (i := 49) rfl))) Via.refl e0 S_C (g := (mkF m 0 #[.val (.ref a1)] [])) rfl (hb hby d8_0)
  refine own_step st1 ?_
  show own_Go p e below s _ _ _ (T1.setTop (mkF m 3 #[.val (.ref a1)] [(.int cs)]))
  refine own_step (B := T1.setTop (mkF m 7 #[.val (.ref a1)] [(.ref a1)])) (fun t k => ?_) ?_
  · show Steps p.tables e below (T1.setTop (mkF m 3 #[.val (.ref a1)] [(.int cs)])) _
    refine XS.ifNo X1.here hx rfl (hb hby d8_3) rfl ((if0 _ _).trans (feq hcs).1) ?_
    show Steps p.tables e below (T1.setTop (mkF m 6 #[.val (.ref a1)] [])) _
    refine XS.aloadN X1.here hx rfl (hb hby d8_6) rfl rfl ?_
    exact k
  obtain ⟨T2, X2, e2, st2⟩ := getF X1 hx hZ hown (host := "") (Or.inl (hw _ (List.mem_of_getElem? (i := 50) rfl))) Via.refl e1 F_c (g := (mkF m 7 #[.val (.ref a1)] [(.ref a1)])) rfl rfl (hb hby d8_7)
  refine own_step st2 ?_
  show own_Go p e below s _ _ _ (T2.setTop (mkF m 10 #[.val (.ref a1)] [(.int (0 : Int32))]))
  refine own_step (B := T2.setTop (mkF m 14 #[.val (.ref a1)] [(.int (0 : Int32))])) (fun t k => ?_) ?_
  · show Steps p.tables e below (T2.setTop (mkF m 10 #[.val (.ref a1)] [(.int (0 : Int32))])) _
    refine XS.goto X2.here hx rfl (pc0 := 10) (pc' := 14) rfl (hb hby d8_10) (by decide) (by decide) ?_
    exact k
  exact own_retN X2 hx Bd.notSynchronized (t := .byte) Bd.returns (by simp) (hb hby d8_14) ⟨rfl, N0, e2⟩ (by decide) (by decide)
theorem d10_0 : decode jdk_42_method_154_code 0 = .ok (.getstatic 38, 3) := by decide +kernel
theorem d10_3 : decode jdk_42_method_154_code 3 = .ok (.ifCond .eq 14, 3) := by decide +kernel
theorem d10_6 : decode jdk_42_method_154_code 6 = .ok (.aload_n 0, 1) := by decide +kernel
theorem d10_7 : decode jdk_42_method_154_code 7 = .ok (.getfield 15, 3) := by decide +kernel
theorem d10_10 : decode jdk_42_method_154_code 10 = .ok (.ifCond .ne 7, 3) := by decide +kernel
theorem d10_13 : decode jdk_42_method_154_code 13 = .ok (.iconst 1, 1) := by decide +kernel
theorem d10_14 : decode jdk_42_method_154_code 14 = .ok (.goto 4, 3) := by decide +kernel
theorem d10_17 : decode jdk_42_method_154_code 17 = .ok (.iconst 0, 1) := by decide +kernel
theorem d10_18 : decode jdk_42_method_154_code 18 = .ok (.ireturn, 1) := by decide +kernel
theorem ef_10 (m : MethodId) (a1 : Addr) : entryFrame m #[(.ref a1)] 1 = mkF m 0 #[.val (.ref a1)] [] := by first | (simp [entryFrame, mkF, argsToLocals, Value.category]; done) | rfl
def Q10 (Z : State) (a1 : Addr) (cs : Int32) (h0 : Heap) (n0 : Nat) (v : Option Value) (h : Heap) (L : List Loc) : Prop := v = some (.int (1 : Int32)) ∧ Fr n0 L ∧ h = h0
set_option maxRecDepth 65536 in
set_option maxHeartbeats 40000000 in
theorem rm10 (l : Launch) (Z : State) (a0 : Array Value) (hw : ∀ d ∈ tables_1, d.before a0 Z = true) (ws : List Jvm.Cond) (a1 : Addr) (cs : Int32) (h0 : Heap) (n0 : Nat) (Z0 : n0 ≤ h0.size) (F_c : Fld Z h0 a1 "java/lang/String" "coder" "B" (.int (0 : Int32))) (S_C : Sta Z h0 "java/lang/String" "COMPACT_STRINGS" "Z" (.int cs)) (hcs : ¬ (cs = (0 : Int32))) :
    MetFree l (⟨"java/lang/String", "isLatin1", "()Z"⟩ : MethodName) (head1 (Jvm.Cond.code (⟨"java/lang/String", "isLatin1", "()Z"⟩ : MethodName) jdk_42_method_154_code 1 (some .boolean) :: ws) ({ frames := 0, cells := 0, slots := 0, locals := 0 } : Room)) (fun a U => a = #[(.ref a1)] ∧ Z.Warmed39 U.vm ∧ U.heap = h0) (fun _ _ _ _ _ => True) (fun _ U o U' => ∃ v L, o = .returned v ∧ Q10 Z a1 cs h0 n0 v U'.heap L ∧ FrameEnd U o U' L ({ frames := 0, cells := 0, slots := 0, locals := 0 } : Room).cells ({ frames := 0, cells := 0, slots := 0, locals := 0 } : Room).slots) := by
  refine MetFree.of_bodySF (plainFor_of_name pn_0) hisR ?_
  intro p e s m args below meth c s₁ Bd hml0 hP hK
  obtain ⟨rfl, hZ, hh⟩ := hP
  have hx := Bd.exec
  have hby := Bd.bytes
  have hml : c.maxLocals = 1 := hml0
  have hown : s.vm.findClass "java/lang/String" = some m.cls := findClass_of_methodNamed Bd.named
  have hnm := (name_of_methodNamed Bd.named Bd.method).1
  have X0 : Stand p l e ({ frames := 0, cells := 0, slots := 0, locals := 0 } : Room) s m #[(.ref a1)] below meth c s₁ [] 0 0 := Stand.of_body Bd
  have e0 : s₁.heap = h0 := by rw [← hh, Bd.state]; rfl
  have N0 := Fr.nil n0
  skip
  show own_Go p e below s (Q10 Z a1 cs h0 n0) ({ frames := 0, cells := 0, slots := 0, locals := 0 } : Room).cells ({ frames := 0, cells := 0, slots := 0, locals := 0 } : Room).slots _
  refine own_step (B := s₁.setTop (mkF m 0 #[.val (.ref a1)] [])) (fun t k => castTop (ef_10 m a1) k) ?_
  obtain ⟨T1, X1, e1, st1⟩ := getS2 X0 hx hZ hown (host := "") (Or.inl (hw _ (List.mem_of_getElem? (i := 49) rfl))) Via.refl e0 S_C (g := (mkF m 0 #[.val (.ref a1)] [])) rfl (hb hby d10_0)
  refine own_step st1 ?_
  show own_Go p e below s _ _ _ (T1.setTop (mkF m 3 #[.val (.ref a1)] [(.int cs)]))
  refine own_step (B := T1.setTop (mkF m 7 #[.val (.ref a1)] [(.ref a1)])) (fun t k => ?_) ?_
  · show Steps p.tables e below (T1.setTop (mkF m 3 #[.val (.ref a1)] [(.int cs)])) _
    refine XS.ifNo X1.here hx rfl (hb hby d10_3) rfl ((if0 _ _).trans (feq hcs).1) ?_
    show Steps p.tables e below (T1.setTop (mkF m 6 #[.val (.ref a1)] [])) _
    refine XS.aloadN X1.here hx rfl (hb hby d10_6) rfl rfl ?_
    exact k
  obtain ⟨T2, X2, e2, st2⟩ := getF X1 hx hZ hown (host := "") (Or.inl (hw _ (List.mem_of_getElem? (i := 50) rfl))) Via.refl e1 F_c (g := (mkF m 7 #[.val (.ref a1)] [(.ref a1)])) rfl rfl (hb hby d10_7)
  refine own_step st2 ?_
  show own_Go p e below s _ _ _ (T2.setTop (mkF m 10 #[.val (.ref a1)] [(.int (0 : Int32))]))
  refine own_step (B := T2.setTop (mkF m 18 #[.val (.ref a1)] [(.int (1 : Int32))])) (fun t k => ?_) ?_
  · show Steps p.tables e below (T2.setTop (mkF m 10 #[.val (.ref a1)] [(.int (0 : Int32))])) _
    refine XS.ifNo X2.here hx rfl (hb hby d10_10) rfl ((if0 _ _).trans (teq (by decide : ((0 : Int32) = (0 : Int32)))).2) ?_
    show Steps p.tables e below (T2.setTop (mkF m 13 #[.val (.ref a1)] [])) _
    refine XS.iconst X2.here hx rfl (hb hby d10_13) ?_
    show Steps p.tables e below (T2.setTop (mkF m 14 #[.val (.ref a1)] [(.int (1 : Int32))])) _
    refine XS.goto X2.here hx rfl (pc0 := 14) (pc' := 18) rfl (hb hby d10_14) (by decide) (by decide) ?_
    exact k
  exact own_retN X2 hx Bd.notSynchronized (t := .boolean) Bd.returns (by simp) (hb hby d10_18) ⟨rfl, N0, e2⟩ (by decide) (by decide)
theorem d6_0 : decode jdk_42_method_55_code 0 = .ok (.aload_n 0, 1) := by decide +kernel
theorem d6_1 : decode jdk_42_method_55_code 1 = .ok (.getfield 9, 3) := by decide +kernel
theorem d6_4 : decode jdk_42_method_55_code 4 = .ok (.arraylength, 1) := by decide +kernel
theorem d6_5 : decode jdk_42_method_55_code 5 = .ok (.ifCond .ne 7, 3) := by decide +kernel
theorem d6_8 : decode jdk_42_method_55_code 8 = .ok (.iconst 1, 1) := by decide +kernel
theorem d6_9 : decode jdk_42_method_55_code 9 = .ok (.goto 4, 3) := by decide +kernel
theorem d6_12 : decode jdk_42_method_55_code 12 = .ok (.iconst 0, 1) := by decide +kernel
theorem d6_13 : decode jdk_42_method_55_code 13 = .ok (.ireturn, 1) := by decide +kernel
theorem ef_6 (m : MethodId) (a1 : Addr) : entryFrame m #[(.ref a1)] 1 = mkF m 0 #[.val (.ref a1)] [] := by first | (simp [entryFrame, mkF, argsToLocals, Value.category]; done) | rfl
def Q6 (Z : State) (a1 : Addr) (b : Addr) (cl : Cell) (ln : Int32) (h0 : Heap) (n0 : Nat) (v : Option Value) (h : Heap) (L : List Loc) : Prop := v = some (.int (0 : Int32)) ∧ Fr n0 L ∧ h = h0
set_option maxRecDepth 65536 in
set_option maxHeartbeats 40000000 in
theorem rm6 (l : Launch) (Z : State) (a0 : Array Value) (hw : ∀ d ∈ tables_1, d.before a0 Z = true) (ws : List Jvm.Cond) (a1 : Addr) (b : Addr) (cl : Cell) (ln : Int32) (h0 : Heap) (n0 : Nat) (Z0 : n0 ≤ h0.size) (F_v : Fld Z h0 a1 "java/lang/String" "value" "[B" (.ref b)) (Ar : Arr Z h0 b cl .byte) (hlen : cl.slots.size.toInt32 = ln) (hln : ¬ (ln = (0 : Int32))) :
    MetFree l (⟨"java/lang/String", "isEmpty", "()Z"⟩ : MethodName) (head1 (Jvm.Cond.code (⟨"java/lang/String", "isEmpty", "()Z"⟩ : MethodName) jdk_42_method_55_code 1 (some .boolean) :: ws) ({ frames := 0, cells := 0, slots := 0, locals := 0 } : Room)) (fun a U => a = #[(.ref a1)] ∧ Z.Warmed39 U.vm ∧ U.heap = h0) (fun _ _ _ _ _ => True) (fun _ U o U' => ∃ v L, o = .returned v ∧ Q6 Z a1 b cl ln h0 n0 v U'.heap L ∧ FrameEnd U o U' L ({ frames := 0, cells := 0, slots := 0, locals := 0 } : Room).cells ({ frames := 0, cells := 0, slots := 0, locals := 0 } : Room).slots) := by
  refine MetFree.of_bodySF (plainFor_of_name pn_0) hisR ?_
  intro p e s m args below meth c s₁ Bd hml0 hP hK
  obtain ⟨rfl, hZ, hh⟩ := hP
  have hx := Bd.exec
  have hby := Bd.bytes
  have hml : c.maxLocals = 1 := hml0
  have hown : s.vm.findClass "java/lang/String" = some m.cls := findClass_of_methodNamed Bd.named
  have hnm := (name_of_methodNamed Bd.named Bd.method).1
  have X0 : Stand p l e ({ frames := 0, cells := 0, slots := 0, locals := 0 } : Room) s m #[(.ref a1)] below meth c s₁ [] 0 0 := Stand.of_body Bd
  have e0 : s₁.heap = h0 := by rw [← hh, Bd.state]; rfl
  have N0 := Fr.nil n0
  skip
  show own_Go p e below s (Q6 Z a1 b cl ln h0 n0) ({ frames := 0, cells := 0, slots := 0, locals := 0 } : Room).cells ({ frames := 0, cells := 0, slots := 0, locals := 0 } : Room).slots _
  refine own_step (B := s₁.setTop (mkF m 0 #[.val (.ref a1)] [])) (fun t k => castTop (ef_6 m a1) k) ?_
  refine own_step (B := s₁.setTop (mkF m 1 #[.val (.ref a1)] [(.ref a1)])) (fun t k => ?_) ?_
  · show Steps p.tables e below (s₁.setTop (mkF m 0 #[.val (.ref a1)] [])) _
    refine XS.aloadN X0.here hx rfl (hb hby d6_0) rfl rfl ?_
    exact k
  obtain ⟨T1, X1, e1, st1⟩ := getF X0 hx hZ hown (host := "") (Or.inl (hw _ (List.mem_of_getElem? (i := 38) rfl))) Via.refl e0 F_v (g := (mkF m 1 #[.val (.ref a1)] [(.ref a1)])) rfl rfl (hb hby d6_1)
  refine own_step st1 ?_
  show own_Go p e below s _ _ _ (T1.setTop (mkF m 4 #[.val (.ref a1)] [(.ref b)]))
  refine own_step (B := T1.setTop (mkF m 13 #[.val (.ref a1)] [(.int (0 : Int32))])) (fun t k => ?_) ?_
  · show Steps p.tables e below (T1.setTop (mkF m 4 #[.val (.ref a1)] [(.ref b)])) _
    refine X1.arraylength hx (by rw [e1]; exact Ar.1) (State.isArrayOf_alike hZ.alike Ar.2.1) (g := (mkF m 4 #[.val (.ref a1)] [(.ref b)])) rfl rfl (hb hby d6_4) _ ?_
    rw [hlen]
    show Steps p.tables e below (T1.setTop (mkF m 5 #[.val (.ref a1)] [(.int ln)])) _
    refine XS.ifYes X1.here hx rfl (pc0 := 5) (pc' := 12) rfl (hb hby d6_5) rfl ((if0 _ _).trans (feq hln).2) (by decide) (by decide) ?_
    show Steps p.tables e below (T1.setTop (mkF m 12 #[.val (.ref a1)] [])) _
    refine XS.iconst X1.here hx rfl (hb hby d6_12) ?_
    exact k
  exact own_retN X1 hx Bd.notSynchronized (t := .boolean) Bd.returns (by simp) (hb hby d6_13) ⟨rfl, N0, e1⟩ (by decide) (by decide)
theorem d7_0 : decode jdk_42_method_54_code 0 = .ok (.aload_n 0, 1) := by decide +kernel
theorem d7_1 : decode jdk_42_method_54_code 1 = .ok (.getfield 9, 3) := by decide +kernel
theorem d7_4 : decode jdk_42_method_54_code 4 = .ok (.arraylength, 1) := by decide +kernel
theorem d7_5 : decode jdk_42_method_54_code 5 = .ok (.aload_n 0, 1) := by decide +kernel
theorem d7_6 : decode jdk_42_method_54_code 6 = .ok (.invokevirtual 335, 3) := by decide +kernel
theorem d7_9 : decode jdk_42_method_54_code 9 = .ok (.ishr, 1) := by decide +kernel
theorem d7_10 : decode jdk_42_method_54_code 10 = .ok (.ireturn, 1) := by decide +kernel
theorem pd_1 : parseMethodDescriptor "()B" = some ⟨[], some .byte⟩ := by decide +kernel
theorem own_shr0 (x : Int32) : x >>> ((0 : Int32) &&& 31) = x := by rw [show ((0 : Int32) &&& 31) = 0 from rfl]; exact Int32.shiftRight_zero
theorem ef_7 (m : MethodId) (a1 : Addr) : entryFrame m #[(.ref a1)] 1 = mkF m 0 #[.val (.ref a1)] [] := by first | (simp [entryFrame, mkF, argsToLocals, Value.category]; done) | rfl
def Q7 (Z : State) (a1 : Addr) (cs : Int32) (b : Addr) (cl : Cell) (ln : Int32) (h0 : Heap) (n0 : Nat) (v : Option Value) (h : Heap) (L : List Loc) : Prop := v = some (.int ln) ∧ Fr n0 L ∧ h = h0
set_option maxRecDepth 65536 in
set_option maxHeartbeats 40000000 in
theorem rm7 (l : Launch) (Z : State) (a0 : Array Value) (hw : ∀ d ∈ tables_1, d.before a0 Z = true) (ws : List Jvm.Cond) (a1 : Addr) (cs : Int32) (b : Addr) (cl : Cell) (ln : Int32) (h0 : Heap) (n0 : Nat) (Z0 : n0 ≤ h0.size) (E_a1 : Exa Z h0 a1 "java/lang/String") (F_c : Fld Z h0 a1 "java/lang/String" "coder" "B" (.int (0 : Int32))) (F_v : Fld Z h0 a1 "java/lang/String" "value" "[B" (.ref b)) (Ar : Arr Z h0 b cl .byte) (hlen : cl.slots.size.toInt32 = ln) (S_C : Sta Z h0 "java/lang/String" "COMPACT_STRINGS" "Z" (.int cs)) (hcs : ¬ (cs = (0 : Int32))) :
    MetFree l (⟨"java/lang/String", "length", "()I"⟩ : MethodName) (head1 (Jvm.Cond.code (⟨"java/lang/String", "length", "()I"⟩ : MethodName) jdk_42_method_54_code 1 (some .int) :: ws) ({ frames := 1, cells := 0, slots := 0, locals := 13 } : Room)) (fun a U => a = #[(.ref a1)] ∧ Z.Warmed39 U.vm ∧ U.heap = h0) (fun _ _ _ _ _ => True) (fun _ U o U' => ∃ v L, o = .returned v ∧ Q7 Z a1 cs b cl ln h0 n0 v U'.heap L ∧ FrameEnd U o U' L ({ frames := 1, cells := 0, slots := 0, locals := 13 } : Room).cells ({ frames := 1, cells := 0, slots := 0, locals := 13 } : Room).slots) := by
  refine MetFree.of_bodySF (plainFor_of_name pn_0) hisR ?_
  intro p e s m args below meth c s₁ Bd hml0 hP hK
  obtain ⟨rfl, hZ, hh⟩ := hP
  have hx := Bd.exec
  have hby := Bd.bytes
  have hml : c.maxLocals = 1 := hml0
  have hown : s.vm.findClass "java/lang/String" = some m.cls := findClass_of_methodNamed Bd.named
  have hnm := (name_of_methodNamed Bd.named Bd.method).1
  have X0 : Stand p l e ({ frames := 1, cells := 0, slots := 0, locals := 13 } : Room) s m #[(.ref a1)] below meth c s₁ [] 0 0 := Stand.of_body Bd
  have e0 : s₁.heap = h0 := by rw [← hh, Bd.state]; rfl
  have N0 := Fr.nil n0
  skip
  show own_Go p e below s (Q7 Z a1 cs b cl ln h0 n0) ({ frames := 1, cells := 0, slots := 0, locals := 13 } : Room).cells ({ frames := 1, cells := 0, slots := 0, locals := 13 } : Room).slots _
  refine own_step (B := s₁.setTop (mkF m 0 #[.val (.ref a1)] [])) (fun t k => castTop (ef_7 m a1) k) ?_
  refine own_step (B := s₁.setTop (mkF m 1 #[.val (.ref a1)] [(.ref a1)])) (fun t k => ?_) ?_
  · show Steps p.tables e below (s₁.setTop (mkF m 0 #[.val (.ref a1)] [])) _
    refine XS.aloadN X0.here hx rfl (hb hby d7_0) rfl rfl ?_
    exact k
  obtain ⟨T1, X1, e1, st1⟩ := getF X0 hx hZ hown (host := "") (Or.inl (hw _ (List.mem_of_getElem? (i := 38) rfl))) Via.refl e0 F_v (g := (mkF m 1 #[.val (.ref a1)] [(.ref a1)])) rfl rfl (hb hby d7_1)
  refine own_step st1 ?_
  show own_Go p e below s _ _ _ (T1.setTop (mkF m 4 #[.val (.ref a1)] [(.ref b)]))
  refine own_step (B := T1.setTop (mkF m 6 #[.val (.ref a1)] [(.ref a1), (.int ln)])) (fun t k => ?_) ?_
  · show Steps p.tables e below (T1.setTop (mkF m 4 #[.val (.ref a1)] [(.ref b)])) _
    refine X1.arraylength hx (by rw [e1]; exact Ar.1) (State.isArrayOf_alike hZ.alike Ar.2.1) (g := (mkF m 4 #[.val (.ref a1)] [(.ref b)])) rfl rfl (hb hby d7_4) _ ?_
    rw [hlen]
    show Steps p.tables e below (T1.setTop (mkF m 5 #[.val (.ref a1)] [(.int ln)])) _
    refine XS.aloadN X1.here hx rfl (hb hby d7_5) rfl rfl ?_
    exact k
  obtain ⟨cq2, kq2, q2a, q2b, q2c⟩ := isOf hZ e1 E_a1
  obtain ⟨_, _, ⟨T2, L2, k2, n2⟩, -, X2, ⟨Lc2, hQ2, l2, y2, z2⟩, st2⟩ := X1.virtualBack hx (y := (⟨"java/lang/String", "coder", "()B"⟩ : MethodName)) (z := (⟨"java/lang/String", "coder", "()B"⟩ : MethodName)) hown (mvT hZ (hw _ (List.mem_of_getElem? (i := 44) rfl))) (mvT hZ (hw _ (List.mem_of_getElem? (i := 45) rfl))) (notFace_of_selects (args := #[]) (mvT hZ (hw _ (List.mem_of_getElem? (i := 47) rfl)))) (mvT hZ (hw _ (List.mem_of_getElem? (i := 47) rfl))) (mvT hZ (hw _ (List.mem_of_getElem? (i := 46) rfl))) (by decide) (backOf (W := 1) (rm8 l Z a0 hw [] a1 cs h0 n0 Z0 F_c S_C hcs) hZ (hw _ (List.mem_of_getElem? (i := 48) rfl)) (hw _ (List.mem_of_getElem? (i := 11) rfl)) (by decide) (by decide)) q2a q2c (g := (mkF m 6 #[.val (.ref a1)] [(.ref a1), (.int ln)])) rfl (by rw [hml]; rfl) (Steps.refl _) (argsL := []) (rest := [(.int ln)]) (lenOf pd_1 rfl) rfl (by show 2 * 0 + _ ≤ _; exact Nat.le_of_eq rfl) (hb hby d7_6) (fun _ _ => ⟨rfl, e1, (by decide : 0 + 0 ≤ _), (by decide : 0 + 0 ≤ _)⟩)
  dsimp only [Pt.U, Pt.locs, Pt.cells, Pt.slots] at X2 l2 y2 z2 st2 hQ2
  subst l2 y2 z2
  obtain ⟨rfl, N2q, e2⟩ := hQ2
  have N2 := Fr.app N0 N2q
  refine own_via st2 ?_
  show own_Go p e below s _ _ _ (T2.setTop (mkF m 9 #[.val (.ref a1)] [(.int (0 : Int32)), (.int ln)]))
  refine own_step (B := T2.setTop (mkF m 10 #[.val (.ref a1)] [(.int (ln >>> ((0 : Int32) &&& 31)))])) (fun t k => ?_) ?_
  · show Steps p.tables e below (T2.setTop (mkF m 9 #[.val (.ref a1)] [(.int (0 : Int32)), (.int ln)])) _
    refine XS.ishr X2.here hx rfl (hb hby d7_9) rfl ?_
    exact k
  exact own_retI X2 hx Bd.notSynchronized Bd.returns (hb hby d7_10) ⟨by show some (Value.int (ln >>> ((0 : Int32) &&& 31))) = _; rw [own_shr0], N2, e2⟩ (by decide) (by decide)
theorem d13_0 : decode jdk_41_method_11_code 0 = .ok (.iload_n 0, 1) := by decide +kernel
theorem d13_1 : decode jdk_41_method_11_code 1 = .ok (.ifCond .lt 8, 3) := by decide +kernel
theorem d13_4 : decode jdk_41_method_11_code 4 = .ok (.iload_n 0, 1) := by decide +kernel
theorem d13_5 : decode jdk_41_method_11_code 5 = .ok (.iload_n 1, 1) := by decide +kernel
theorem d13_6 : decode jdk_41_method_11_code 6 = .ok (.if_icmp .lt 10, 3) := by decide +kernel
theorem d13_9 : decode jdk_41_method_11_code 9 = .ok (.aload_n 2, 1) := by decide +kernel
theorem d13_10 : decode jdk_41_method_11_code 10 = .ok (.iload_n 0, 1) := by decide +kernel
theorem d13_11 : decode jdk_41_method_11_code 11 = .ok (.iload_n 1, 1) := by decide +kernel
theorem d13_12 : decode jdk_41_method_11_code 12 = .ok (.invokestatic 95, 3) := by decide +kernel
theorem d13_15 : decode jdk_41_method_11_code 15 = .ok (.athrow, 1) := by decide +kernel
theorem d13_16 : decode jdk_41_method_11_code 16 = .ok (.iload_n 0, 1) := by decide +kernel
theorem d13_17 : decode jdk_41_method_11_code 17 = .ok (.ireturn, 1) := by decide +kernel
theorem pn_2 : plainName "jdk/internal/util/Preconditions" = true := by first | (simp [plainName, overriddenIn]; done) | decide +kernel
theorem ef_13 (m : MethodId) (p1 : Int32) (p2 : Int32) (a3 : Addr) : entryFrame m #[(.int p1), (.int p2), (.ref a3)] 3 = mkF m 0 #[.val (.int p1), .val (.int p2), .val (.ref a3)] [] := by first | (simp [entryFrame, mkF, argsToLocals, Value.category]; done) | rfl
def Q13 (Z : State) (p1 : Int32) (p2 : Int32) (a3 : Addr)  (h0 : Heap) (n0 : Nat) (v : Option Value) (h : Heap) (L : List Loc) : Prop := v = some (.int p1) ∧ Fr n0 L ∧ h = h0
set_option maxRecDepth 65536 in
set_option maxHeartbeats 40000000 in
theorem rm13 (l : Launch) (Z : State) (a0 : Array Value) (hw : ∀ d ∈ tables_1, d.before a0 Z = true) (ws : List Jvm.Cond) (p1 : Int32) (p2 : Int32) (a3 : Addr)  (h0 : Heap) (n0 : Nat) (Z0 : n0 ≤ h0.size) (h1 : ¬ (p1 < (0 : Int32))) (h2 : p1 < p2) :
    MetFree l (⟨"jdk/internal/util/Preconditions", "checkIndex", "(IILjava/util/function/BiFunction;)I"⟩ : MethodName) (head1 (Jvm.Cond.code (⟨"jdk/internal/util/Preconditions", "checkIndex", "(IILjava/util/function/BiFunction;)I"⟩ : MethodName) jdk_41_method_11_code 3 (some .int) :: ws) ({ frames := 0, cells := 0, slots := 0, locals := 0 } : Room)) (fun a U => a = #[(.int p1), (.int p2), (.ref a3)] ∧ Z.Warmed39 U.vm ∧ U.heap = h0) (fun _ _ _ _ _ => True) (fun _ U o U' => ∃ v L, o = .returned v ∧ Q13 Z p1 p2 a3  h0 n0 v U'.heap L ∧ FrameEnd U o U' L ({ frames := 0, cells := 0, slots := 0, locals := 0 } : Room).cells ({ frames := 0, cells := 0, slots := 0, locals := 0 } : Room).slots) := by
  refine MetFree.of_bodySF (plainFor_of_name pn_2) hisR ?_
  intro p e s m args below meth c s₁ Bd hml0 hP hK
  obtain ⟨rfl, hZ, hh⟩ := hP
  have hx := Bd.exec
  have hby := Bd.bytes
  have hml : c.maxLocals = 3 := hml0
  have hown : s.vm.findClass "jdk/internal/util/Preconditions" = some m.cls := findClass_of_methodNamed Bd.named
  have hnm := (name_of_methodNamed Bd.named Bd.method).1
  have X0 : Stand p l e ({ frames := 0, cells := 0, slots := 0, locals := 0 } : Room) s m #[(.int p1), (.int p2), (.ref a3)] below meth c s₁ [] 0 0 := Stand.of_body Bd
  have e0 : s₁.heap = h0 := by rw [← hh, Bd.state]; rfl
  have N0 := Fr.nil n0
  skip
  show own_Go p e below s (Q13 Z p1 p2 a3  h0 n0) ({ frames := 0, cells := 0, slots := 0, locals := 0 } : Room).cells ({ frames := 0, cells := 0, slots := 0, locals := 0 } : Room).slots _
  refine own_step (B := s₁.setTop (mkF m 0 #[.val (.int p1), .val (.int p2), .val (.ref a3)] [])) (fun t k => castTop (ef_13 m p1 p2 a3) k) ?_
  refine own_step (B := s₁.setTop (mkF m 17 #[.val (.int p1), .val (.int p2), .val (.ref a3)] [(.int p1)])) (fun t k => ?_) ?_
  · show Steps p.tables e below (s₁.setTop (mkF m 0 #[.val (.int p1), .val (.int p2), .val (.ref a3)] [])) _
    refine XS.iloadN X0.here hx rfl (hb hby d13_0) rfl ?_
    show Steps p.tables e below (s₁.setTop (mkF m 1 #[.val (.int p1), .val (.int p2), .val (.ref a3)] [(.int p1)])) _
    refine XS.ifNo X0.here hx rfl (hb hby d13_1) rfl ((if0 _ _).trans (flt h1).1) ?_
    show Steps p.tables e below (s₁.setTop (mkF m 4 #[.val (.int p1), .val (.int p2), .val (.ref a3)] [])) _
    refine XS.iloadN X0.here hx rfl (hb hby d13_4) rfl ?_
    show Steps p.tables e below (s₁.setTop (mkF m 5 #[.val (.int p1), .val (.int p2), .val (.ref a3)] [(.int p1)])) _
    refine XS.iloadN X0.here hx rfl (hb hby d13_5) rfl ?_
    show Steps p.tables e below (s₁.setTop (mkF m 6 #[.val (.int p1), .val (.int p2), .val (.ref a3)] [(.int p2), (.int p1)])) _
    refine XS.icmpYes X0.here hx rfl (pc0 := 6) (pc' := 16) rfl (hb hby d13_6) rfl (tlt h2).1 (by decide) (by decide) ?_
    show Steps p.tables e below (s₁.setTop (mkF m 16 #[.val (.int p1), .val (.int p2), .val (.ref a3)] [])) _
    refine XS.iloadN X0.here hx rfl (hb hby d13_16) rfl ?_
    exact k
  exact own_retI X0 hx Bd.notSynchronized Bd.returns (hb hby d13_17) ⟨rfl, N0, e0⟩ (by decide) (by decide)
theorem ef_13n (m : MethodId) (p1 : Int32) (p2 : Int32) : entryFrame m #[(.int p1), (.int p2), .null] 3 = mkF m 0 #[.val (.int p1), .val (.int p2), .val .null] [] := by first | (simp [entryFrame, mkF, argsToLocals, Value.category]; done) | rfl
def Q13n (Z : State) (p1 : Int32) (p2 : Int32)  (h0 : Heap) (n0 : Nat) (v : Option Value) (h : Heap) (L : List Loc) : Prop := v = some (.int p1) ∧ Fr n0 L ∧ h = h0
set_option maxRecDepth 65536 in
set_option maxHeartbeats 40000000 in
theorem rm13n (l : Launch) (Z : State) (a0 : Array Value) (hw : ∀ d ∈ tables_1, d.before a0 Z = true) (ws : List Jvm.Cond) (p1 : Int32) (p2 : Int32)  (h0 : Heap) (n0 : Nat) (Z0 : n0 ≤ h0.size) (h1 : ¬ (p1 < (0 : Int32))) (h2 : p1 < p2) :
    MetFree l (⟨"jdk/internal/util/Preconditions", "checkIndex", "(IILjava/util/function/BiFunction;)I"⟩ : MethodName) (head1 (Jvm.Cond.code (⟨"jdk/internal/util/Preconditions", "checkIndex", "(IILjava/util/function/BiFunction;)I"⟩ : MethodName) jdk_41_method_11_code 3 (some .int) :: ws) ({ frames := 0, cells := 0, slots := 0, locals := 0 } : Room)) (fun a U => a = #[(.int p1), (.int p2), .null] ∧ Z.Warmed39 U.vm ∧ U.heap = h0) (fun _ _ _ _ _ => True) (fun _ U o U' => ∃ v L, o = .returned v ∧ Q13n Z p1 p2  h0 n0 v U'.heap L ∧ FrameEnd U o U' L ({ frames := 0, cells := 0, slots := 0, locals := 0 } : Room).cells ({ frames := 0, cells := 0, slots := 0, locals := 0 } : Room).slots) := by
  refine MetFree.of_bodySF (plainFor_of_name pn_2) hisR ?_
  intro p e s m args below meth c s₁ Bd hml0 hP hK
  obtain ⟨rfl, hZ, hh⟩ := hP
  have hx := Bd.exec
  have hby := Bd.bytes
  have hml : c.maxLocals = 3 := hml0
  have hown : s.vm.findClass "jdk/internal/util/Preconditions" = some m.cls := findClass_of_methodNamed Bd.named
  have hnm := (name_of_methodNamed Bd.named Bd.method).1
  have X0 : Stand p l e ({ frames := 0, cells := 0, slots := 0, locals := 0 } : Room) s m #[(.int p1), (.int p2), .null] below meth c s₁ [] 0 0 := Stand.of_body Bd
  have e0 : s₁.heap = h0 := by rw [← hh, Bd.state]; rfl
  have N0 := Fr.nil n0
  skip
  show own_Go p e below s (Q13n Z p1 p2  h0 n0) ({ frames := 0, cells := 0, slots := 0, locals := 0 } : Room).cells ({ frames := 0, cells := 0, slots := 0, locals := 0 } : Room).slots _
  refine own_step (B := s₁.setTop (mkF m 0 #[.val (.int p1), .val (.int p2), .val .null] [])) (fun t k => castTop (ef_13n m p1 p2) k) ?_
  refine own_step (B := s₁.setTop (mkF m 17 #[.val (.int p1), .val (.int p2), .val .null] [(.int p1)])) (fun t k => ?_) ?_
  · show Steps p.tables e below (s₁.setTop (mkF m 0 #[.val (.int p1), .val (.int p2), .val .null] [])) _
    refine XS.iloadN X0.here hx rfl (hb hby d13_0) rfl ?_
    show Steps p.tables e below (s₁.setTop (mkF m 1 #[.val (.int p1), .val (.int p2), .val .null] [(.int p1)])) _
    refine XS.ifNo X0.here hx rfl (hb hby d13_1) rfl ((if0 _ _).trans (flt h1).1) ?_
    show Steps p.tables e below (s₁.setTop (mkF m 4 #[.val (.int p1), .val (.int p2), .val .null] [])) _
    refine XS.iloadN X0.here hx rfl (hb hby d13_4) rfl ?_
    show Steps p.tables e below (s₁.setTop (mkF m 5 #[.val (.int p1), .val (.int p2), .val .null] [(.int p1)])) _
    refine XS.iloadN X0.here hx rfl (hb hby d13_5) rfl ?_
    show Steps p.tables e below (s₁.setTop (mkF m 6 #[.val (.int p1), .val (.int p2), .val .null] [(.int p2), (.int p1)])) _
    refine XS.icmpYes X0.here hx rfl (pc0 := 6) (pc' := 16) rfl (hb hby d13_6) rfl (tlt h2).1 (by decide) (by decide) ?_
    show Steps p.tables e below (s₁.setTop (mkF m 16 #[.val (.int p1), .val (.int p2), .val .null] [])) _
    refine XS.iloadN X0.here hx rfl (hb hby d13_16) rfl ?_
    exact k
  exact own_retI X0 hx Bd.notSynchronized Bd.returns (hb hby d13_17) ⟨rfl, N0, e0⟩ (by decide) (by decide)
theorem d12_0 : decode jdk_42_method_155_code 0 = .ok (.iload_n 0, 1) := by decide +kernel
theorem d12_1 : decode jdk_42_method_155_code 1 = .ok (.iload_n 1, 1) := by decide +kernel
theorem d12_2 : decode jdk_42_method_155_code 2 = .ok (.getstatic 1053, 3) := by decide +kernel
theorem d12_5 : decode jdk_42_method_155_code 5 = .ok (.invokestatic 1059, 3) := by decide +kernel
theorem d12_8 : decode jdk_42_method_155_code 8 = .ok (.pop, 1) := by decide +kernel
theorem d12_9 : decode jdk_42_method_155_code 9 = .ok (.return_, 1) := by decide +kernel
theorem pd_3 : parseMethodDescriptor "(IILjava/util/function/BiFunction;)I" = some ⟨[.int, .int, (.object "java/util/function/BiFunction")], some .int⟩ := by decide +kernel
theorem ef_12 (m : MethodId) (p1 : Int32) (p2 : Int32) : entryFrame m #[(.int p1), (.int p2)] 2 = mkF m 0 #[.val (.int p1), .val (.int p2)] [] := by first | (simp [entryFrame, mkF, argsToLocals, Value.category]; done) | rfl
def Q12 (Z : State) (p1 : Int32) (p2 : Int32) (vf : Value) (h0 : Heap) (n0 : Nat) (v : Option Value) (h : Heap) (L : List Loc) : Prop := v = none ∧ Fr n0 L ∧ h = h0
set_option maxRecDepth 65536 in
set_option maxHeartbeats 40000000 in
theorem rm12 (l : Launch) (Z : State) (a0 : Array Value) (hw : ∀ d ∈ tables_1, d.before a0 Z = true) (ws : List Jvm.Cond) (p1 : Int32) (p2 : Int32) (vf : Value) (h0 : Heap) (n0 : Nat) (Z0 : n0 ≤ h0.size) (h1 : ¬ (p1 < (0 : Int32))) (h2 : p1 < p2) (S_F : Sta Z h0 "jdk/internal/util/Preconditions" "SIOOBE_FORMATTER" "Ljava/util/function/BiFunction;" vf) (hvf : vf.isRef = true) :
    MetFree l (⟨"java/lang/String", "checkIndex", "(II)V"⟩ : MethodName) (head1 (Jvm.Cond.code (⟨"java/lang/String", "checkIndex", "(II)V"⟩ : MethodName) jdk_42_method_155_code 2 none :: ws) ({ frames := 1, cells := 0, slots := 0, locals := 14 } : Room)) (fun a U => a = #[(.int p1), (.int p2)] ∧ Z.Warmed39 U.vm ∧ U.heap = h0) (fun _ _ _ _ _ => True) (fun _ U o U' => ∃ v L, o = .returned v ∧ Q12 Z p1 p2 vf h0 n0 v U'.heap L ∧ FrameEnd U o U' L ({ frames := 1, cells := 0, slots := 0, locals := 14 } : Room).cells ({ frames := 1, cells := 0, slots := 0, locals := 14 } : Room).slots) := by
  refine MetFree.of_bodySF (plainFor_of_name pn_0) hisR ?_
  intro p e s m args below meth c s₁ Bd hml0 hP hK
  obtain ⟨rfl, hZ, hh⟩ := hP
  have hx := Bd.exec
  have hby := Bd.bytes
  have hml : c.maxLocals = 2 := hml0
  have hown : s.vm.findClass "java/lang/String" = some m.cls := findClass_of_methodNamed Bd.named
  have hnm := (name_of_methodNamed Bd.named Bd.method).1
  have X0 : Stand p l e ({ frames := 1, cells := 0, slots := 0, locals := 14 } : Room) s m #[(.int p1), (.int p2)] below meth c s₁ [] 0 0 := Stand.of_body Bd
  have e0 : s₁.heap = h0 := by rw [← hh, Bd.state]; rfl
  have N0 := Fr.nil n0
  skip
  show own_Go p e below s (Q12 Z p1 p2 vf h0 n0) ({ frames := 1, cells := 0, slots := 0, locals := 14 } : Room).cells ({ frames := 1, cells := 0, slots := 0, locals := 14 } : Room).slots _
  refine own_step (B := s₁.setTop (mkF m 0 #[.val (.int p1), .val (.int p2)] [])) (fun t k => castTop (ef_12 m p1 p2) k) ?_
  refine own_step (B := s₁.setTop (mkF m 2 #[.val (.int p1), .val (.int p2)] [(.int p2), (.int p1)])) (fun t k => ?_) ?_
  · show Steps p.tables e below (s₁.setTop (mkF m 0 #[.val (.int p1), .val (.int p2)] [])) _
    refine XS.iloadN X0.here hx rfl (hb hby d12_0) rfl ?_
    show Steps p.tables e below (s₁.setTop (mkF m 1 #[.val (.int p1), .val (.int p2)] [(.int p1)])) _
    refine XS.iloadN X0.here hx rfl (hb hby d12_1) rfl ?_
    exact k
  rcases ref_cases hvf with rfl | ⟨af, rfl⟩
  · obtain ⟨T1, X1, e1, st1⟩ := getS2 X0 hx hZ hown (host := "") (Or.inl (hw _ (List.mem_of_getElem? (i := 68) rfl))) Via.refl e0 S_F (g := (mkF m 2 #[.val (.int p1), .val (.int p2)] [(.int p2), (.int p1)])) rfl (hb hby d12_2)
    refine own_step st1 ?_
    show own_Go p e below s _ _ _ (T1.setTop (mkF m 5 #[.val (.int p1), .val (.int p2)] [.null, (.int p2), (.int p1)]))
    obtain ⟨_, _, ⟨T2, L2, k2, n2⟩, -, X2, ⟨Lc2, hQ2, l2, y2, z2⟩, st2⟩ := Jvm.LawKit.callS X1 hx (y := (⟨"jdk/internal/util/Preconditions", "checkIndex", "(IILjava/util/function/BiFunction;)I"⟩ : MethodName)) hown (mvT hZ (hw _ (List.mem_of_getElem? (i := 70) rfl))) (mvT hZ (hw _ (List.mem_of_getElem? (i := 71) rfl))) (mvT hZ (hw _ (List.mem_of_getElem? (i := 69) rfl))) (mvT hZ (hw _ (List.mem_of_getElem? (i := 72) rfl))) (by decide) (backOf (W := 0) (rm13n l Z a0 hw [] p1 p2  h0 n0 Z0 h1 h2) hZ (hw _ (List.mem_of_getElem? (i := 72) rfl)) (hw _ (List.mem_of_getElem? (i := 69) rfl)) (by decide) (by decide)) (g := (mkF m 5 #[.val (.int p1), .val (.int p2)] [.null, (.int p2), (.int p1)])) rfl (by rw [hml]; rfl) (argsL := [(.int p1), (.int p2), .null]) (rest := []) (lenOf pd_3 rfl) rfl (by show 2 * 0 + _ ≤ _; exact Nat.le_of_eq rfl) (hb hby d12_5) (fun _ _ => ⟨rfl, e1, (by decide : 0 + 0 ≤ _), (by decide : 0 + 0 ≤ _)⟩)
    dsimp only [Pt.U, Pt.locs, Pt.cells, Pt.slots] at X2 l2 y2 z2 st2 hQ2
    subst l2 y2 z2
    obtain ⟨rfl, N2q, e2⟩ := hQ2
    have N2 := Fr.app N0 N2q
    refine own_step st2 ?_
    show own_Go p e below s _ _ _ (T2.setTop (mkF m 8 #[.val (.int p1), .val (.int p2)] [(.int p1)]))
    refine own_step (B := T2.setTop (mkF m 9 #[.val (.int p1), .val (.int p2)] [])) (fun t k => ?_) ?_
    · show Steps p.tables e below (T2.setTop (mkF m 8 #[.val (.int p1), .val (.int p2)] [(.int p1)])) _
      refine XS.pop X2.here hx rfl (hb hby d12_8) rfl rfl ?_
      exact k
    exact own_retV X2 hx Bd.notSynchronized Bd.returns (hb hby d12_9) ⟨rfl, N2, e2⟩ (by decide) (by decide)
  · obtain ⟨T3, X3, e3, st3⟩ := getS2 X0 hx hZ hown (host := "") (Or.inl (hw _ (List.mem_of_getElem? (i := 68) rfl))) Via.refl e0 S_F (g := (mkF m 2 #[.val (.int p1), .val (.int p2)] [(.int p2), (.int p1)])) rfl (hb hby d12_2)
    refine own_step st3 ?_
    show own_Go p e below s _ _ _ (T3.setTop (mkF m 5 #[.val (.int p1), .val (.int p2)] [(.ref af), (.int p2), (.int p1)]))
    obtain ⟨_, _, ⟨T4, L4, k4, n4⟩, -, X4, ⟨Lc4, hQ4, l4, y4, z4⟩, st4⟩ := Jvm.LawKit.callS X3 hx (y := (⟨"jdk/internal/util/Preconditions", "checkIndex", "(IILjava/util/function/BiFunction;)I"⟩ : MethodName)) hown (mvT hZ (hw _ (List.mem_of_getElem? (i := 70) rfl))) (mvT hZ (hw _ (List.mem_of_getElem? (i := 71) rfl))) (mvT hZ (hw _ (List.mem_of_getElem? (i := 69) rfl))) (mvT hZ (hw _ (List.mem_of_getElem? (i := 72) rfl))) (by decide) (backOf (W := 0) (rm13 l Z a0 hw [] p1 p2 af  h0 n0 Z0 h1 h2) hZ (hw _ (List.mem_of_getElem? (i := 72) rfl)) (hw _ (List.mem_of_getElem? (i := 69) rfl)) (by decide) (by decide)) (g := (mkF m 5 #[.val (.int p1), .val (.int p2)] [(.ref af), (.int p2), (.int p1)])) rfl (by rw [hml]; rfl) (argsL := [(.int p1), (.int p2), (.ref af)]) (rest := []) (lenOf pd_3 rfl) rfl (by show 2 * 0 + _ ≤ _; exact Nat.le_of_eq rfl) (hb hby d12_5) (fun _ _ => ⟨rfl, e3, (by decide : 0 + 0 ≤ _), (by decide : 0 + 0 ≤ _)⟩)
    dsimp only [Pt.U, Pt.locs, Pt.cells, Pt.slots] at X4 l4 y4 z4 st4 hQ4
    subst l4 y4 z4
    obtain ⟨rfl, N4q, e4⟩ := hQ4
    have N4 := Fr.app N0 N4q
    refine own_step st4 ?_
    show own_Go p e below s _ _ _ (T4.setTop (mkF m 8 #[.val (.int p1), .val (.int p2)] [(.int p1)]))
    refine own_step (B := T4.setTop (mkF m 9 #[.val (.int p1), .val (.int p2)] [])) (fun t k => ?_) ?_
    · show Steps p.tables e below (T4.setTop (mkF m 8 #[.val (.int p1), .val (.int p2)] [(.int p1)])) _
      refine XS.pop X4.here hx rfl (hb hby d12_8) rfl rfl ?_
      exact k
    exact own_retV X4 hx Bd.notSynchronized Bd.returns (hb hby d12_9) ⟨rfl, N4, e4⟩ (by decide) (by decide)
theorem d11_0 : decode jdk_43_method_2_code 0 = .ok (.iload_n 1, 1) := by decide +kernel
theorem d11_1 : decode jdk_43_method_2_code 1 = .ok (.aload_n 0, 1) := by decide +kernel
theorem d11_2 : decode jdk_43_method_2_code 2 = .ok (.arraylength, 1) := by decide +kernel
theorem d11_3 : decode jdk_43_method_2_code 3 = .ok (.invokestatic 9, 3) := by decide +kernel
theorem d11_6 : decode jdk_43_method_2_code 6 = .ok (.aload_n 0, 1) := by decide +kernel
theorem d11_7 : decode jdk_43_method_2_code 7 = .ok (.iload_n 1, 1) := by decide +kernel
theorem d11_8 : decode jdk_43_method_2_code 8 = .ok (.baload, 1) := by decide +kernel
theorem d11_9 : decode jdk_43_method_2_code 9 = .ok (.sipush 255, 3) := by decide +kernel
theorem d11_12 : decode jdk_43_method_2_code 12 = .ok (.iand, 1) := by decide +kernel
theorem d11_13 : decode jdk_43_method_2_code 13 = .ok (.i2c, 1) := by decide +kernel
theorem d11_14 : decode jdk_43_method_2_code 14 = .ok (.ireturn, 1) := by decide +kernel
theorem pd_4 : parseMethodDescriptor "(II)V" = some ⟨[.int, .int], none⟩ := by decide +kernel
theorem pn_5 : plainName "java/lang/StringLatin1" = true := by first | (simp [plainName, overriddenIn]; done) | decide +kernel
theorem ef_11 (m : MethodId) (a1 : Addr) (p2 : Int32) : entryFrame m #[(.ref a1), (.int p2)] 2 = mkF m 0 #[.val (.ref a1), .val (.int p2)] [] := by first | (simp [entryFrame, mkF, argsToLocals, Value.category]; done) | rfl
def Q11 (Z : State) (a1 : Addr) (p2 : Int32) (vf : Value) (cl : Cell) (ln : Int32) (x : Int32) (h0 : Heap) (n0 : Nat) (v : Option Value) (h : Heap) (L : List Loc) : Prop := v = some (.int (nar .char (nar .char (x &&& (255 : Int32))))) ∧ Fr n0 L ∧ h = h0
set_option maxRecDepth 65536 in
set_option maxHeartbeats 40000000 in
theorem rm11 (l : Launch) (Z : State) (a0 : Array Value) (hw : ∀ d ∈ tables_1, d.before a0 Z = true) (ws : List Jvm.Cond) (a1 : Addr) (p2 : Int32) (vf : Value) (cl : Cell) (ln : Int32) (x : Int32) (h0 : Heap) (n0 : Nat) (Z0 : n0 ≤ h0.size) (Ar : Arr Z h0 a1 cl .byte) (hlen : cl.slots.size.toInt32 = ln) (h1 : ¬ (p2 < (0 : Int32))) (h2 : p2 < ln) (hin : ¬ (p2 < 0 ∨ cl.slots.size ≤ (p2).toNatClampNeg)) (hat : cl.slots[(p2).toNatClampNeg]? = some (.int x)) (S_F : Sta Z h0 "jdk/internal/util/Preconditions" "SIOOBE_FORMATTER" "Ljava/util/function/BiFunction;" vf) (hvf : vf.isRef = true) :
    MetFree l (⟨"java/lang/StringLatin1", "charAt", "([BI)C"⟩ : MethodName) (head1 (Jvm.Cond.code (⟨"java/lang/StringLatin1", "charAt", "([BI)C"⟩ : MethodName) jdk_43_method_2_code 2 (some .char) :: ws) ({ frames := 2, cells := 0, slots := 0, locals := 27 } : Room)) (fun a U => a = #[(.ref a1), (.int p2)] ∧ Z.Warmed39 U.vm ∧ U.heap = h0) (fun _ _ _ _ _ => True) (fun _ U o U' => ∃ v L, o = .returned v ∧ Q11 Z a1 p2 vf cl ln x h0 n0 v U'.heap L ∧ FrameEnd U o U' L ({ frames := 2, cells := 0, slots := 0, locals := 27 } : Room).cells ({ frames := 2, cells := 0, slots := 0, locals := 27 } : Room).slots) := by
  refine MetFree.of_bodySF (plainFor_of_name pn_5) hisR ?_
  intro p e s m args below meth c s₁ Bd hml0 hP hK
  obtain ⟨rfl, hZ, hh⟩ := hP
  have hx := Bd.exec
  have hby := Bd.bytes
  have hml : c.maxLocals = 2 := hml0
  have hown : s.vm.findClass "java/lang/StringLatin1" = some m.cls := findClass_of_methodNamed Bd.named
  have hnm := (name_of_methodNamed Bd.named Bd.method).1
  have X0 : Stand p l e ({ frames := 2, cells := 0, slots := 0, locals := 27 } : Room) s m #[(.ref a1), (.int p2)] below meth c s₁ [] 0 0 := Stand.of_body Bd
  have e0 : s₁.heap = h0 := by rw [← hh, Bd.state]; rfl
  have N0 := Fr.nil n0
  skip
  show own_Go p e below s (Q11 Z a1 p2 vf cl ln x h0 n0) ({ frames := 2, cells := 0, slots := 0, locals := 27 } : Room).cells ({ frames := 2, cells := 0, slots := 0, locals := 27 } : Room).slots _
  refine own_step (B := s₁.setTop (mkF m 0 #[.val (.ref a1), .val (.int p2)] [])) (fun t k => castTop (ef_11 m a1 p2) k) ?_
  refine own_step (B := s₁.setTop (mkF m 3 #[.val (.ref a1), .val (.int p2)] [(.int ln), (.int p2)])) (fun t k => ?_) ?_
  · show Steps p.tables e below (s₁.setTop (mkF m 0 #[.val (.ref a1), .val (.int p2)] [])) _
    refine XS.iloadN X0.here hx rfl (hb hby d11_0) rfl ?_
    show Steps p.tables e below (s₁.setTop (mkF m 1 #[.val (.ref a1), .val (.int p2)] [(.int p2)])) _
    refine XS.aloadN X0.here hx rfl (hb hby d11_1) rfl rfl ?_
    show Steps p.tables e below (s₁.setTop (mkF m 2 #[.val (.ref a1), .val (.int p2)] [(.ref a1), (.int p2)])) _
    refine X0.arraylength hx (by rw [e0]; exact Ar.1) (State.isArrayOf_alike hZ.alike Ar.2.1) (g := (mkF m 2 #[.val (.ref a1), .val (.int p2)] [(.ref a1), (.int p2)])) rfl rfl (hb hby d11_2) _ ?_
    rw [hlen]
    exact k
  obtain ⟨_, _, ⟨T1, L1, k1, n1⟩, -, X1, ⟨Lc1, hQ1, l1, y1, z1⟩, st1⟩ := Jvm.LawKit.callS X0 hx (y := (⟨"java/lang/String", "checkIndex", "(II)V"⟩ : MethodName)) hown (mvT hZ (hw _ (List.mem_of_getElem? (i := 65) rfl))) (mvT hZ (hw _ (List.mem_of_getElem? (i := 66) rfl))) (mvT hZ (hw _ (List.mem_of_getElem? (i := 11) rfl))) (mvT hZ (hw _ (List.mem_of_getElem? (i := 67) rfl))) (by decide) (backOf (W := 0) (rm12 l Z a0 hw [] p2 ln vf h0 n0 Z0 h1 h2 S_F hvf) hZ (hw _ (List.mem_of_getElem? (i := 67) rfl)) (hw _ (List.mem_of_getElem? (i := 11) rfl)) (by decide) (by decide)) (g := (mkF m 3 #[.val (.ref a1), .val (.int p2)] [(.int ln), (.int p2)])) rfl (by rw [hml]; rfl) (argsL := [(.int p2), (.int ln)]) (rest := []) (lenOf pd_4 rfl) rfl (by show 2 * 0 + _ ≤ _; exact Nat.le_of_eq rfl) (hb hby d11_3) (fun _ _ => ⟨rfl, e0, (by decide : 0 + 0 ≤ _), (by decide : 0 + 0 ≤ _)⟩)
  dsimp only [Pt.U, Pt.locs, Pt.cells, Pt.slots] at X1 l1 y1 z1 st1 hQ1
  subst l1 y1 z1
  obtain ⟨rfl, N1q, e1⟩ := hQ1
  have N1 := Fr.app N0 N1q
  refine own_step st1 ?_
  show own_Go p e below s _ _ _ (T1.setTop (mkF m 6 #[.val (.ref a1), .val (.int p2)] []))
  refine own_step (B := T1.setTop (mkF m 14 #[.val (.ref a1), .val (.int p2)] [(.int ((x &&& (255 : Int32)).toUInt32.toUInt16.toUInt32.toInt32))])) (fun t k => ?_) ?_
  · show Steps p.tables e below (T1.setTop (mkF m 6 #[.val (.ref a1), .val (.int p2)] [])) _
    refine XS.aloadN X1.here hx rfl (hb hby d11_6) rfl rfl ?_
    show Steps p.tables e below (T1.setTop (mkF m 7 #[.val (.ref a1), .val (.int p2)] [(.ref a1)])) _
    refine XS.iloadN X1.here hx rfl (hb hby d11_7) rfl ?_
    show Steps p.tables e below (T1.setTop (mkF m 8 #[.val (.ref a1), .val (.int p2)] [(.int p2), (.ref a1)])) _
    refine X1.baloadBytes hx (j := p2) (v := (.int x)) (by rw [e1]; exact Ar.1) (State.isArrayOf_alike hZ.alike Ar.2.1) Ar.2.2 hin hat (g := (mkF m 8 #[.val (.ref a1), .val (.int p2)] [(.int p2), (.ref a1)])) rfl rfl (hb hby d11_8) _ ?_
    show Steps p.tables e below (T1.setTop (mkF m 9 #[.val (.ref a1), .val (.int p2)] [(.int x)])) _
    refine XS.sipush X1.here hx rfl (hb hby d11_9) ?_
    show Steps p.tables e below (T1.setTop (mkF m 12 #[.val (.ref a1), .val (.int p2)] [(.int (255 : Int32)), (.int x)])) _
    refine XS.iand X1.here hx rfl (hb hby d11_12) rfl ?_
    show Steps p.tables e below (T1.setTop (mkF m 13 #[.val (.ref a1), .val (.int p2)] [(.int (x &&& (255 : Int32)))])) _
    refine XS.i2c X1.here hx rfl (hb hby d11_13) rfl ?_
    exact k
  exact own_retN X1 hx Bd.notSynchronized (t := .char) Bd.returns (by simp) (hb hby d11_14) ⟨rfl, N1, e1⟩ (by decide) (by decide)
theorem d9_0 : decode jdk_42_method_56_code 0 = .ok (.aload_n 0, 1) := by decide +kernel
theorem d9_1 : decode jdk_42_method_56_code 1 = .ok (.invokevirtual 492, 3) := by decide +kernel
theorem d9_4 : decode jdk_42_method_56_code 4 = .ok (.ifCond .eq 12, 3) := by decide +kernel
theorem d9_7 : decode jdk_42_method_56_code 7 = .ok (.aload_n 0, 1) := by decide +kernel
theorem d9_8 : decode jdk_42_method_56_code 8 = .ok (.getfield 9, 3) := by decide +kernel
theorem d9_11 : decode jdk_42_method_56_code 11 = .ok (.iload_n 1, 1) := by decide +kernel
theorem d9_12 : decode jdk_42_method_56_code 12 = .ok (.invokestatic 495, 3) := by decide +kernel
theorem d9_15 : decode jdk_42_method_56_code 15 = .ok (.ireturn, 1) := by decide +kernel
theorem d9_16 : decode jdk_42_method_56_code 16 = .ok (.aload_n 0, 1) := by decide +kernel
theorem d9_17 : decode jdk_42_method_56_code 17 = .ok (.getfield 9, 3) := by decide +kernel
theorem d9_20 : decode jdk_42_method_56_code 20 = .ok (.iload_n 1, 1) := by decide +kernel
theorem d9_21 : decode jdk_42_method_56_code 21 = .ok (.invokestatic 498, 3) := by decide +kernel
theorem d9_24 : decode jdk_42_method_56_code 24 = .ok (.ireturn, 1) := by decide +kernel
theorem pd_6 : parseMethodDescriptor "()Z" = some ⟨[], some .boolean⟩ := by decide +kernel
theorem pd_7 : parseMethodDescriptor "([BI)C" = some ⟨[(.array .byte), .int], some .char⟩ := by decide +kernel
def own_ch (x : Int32) : Int32 := nar .char (nar .char (nar .char (x &&& (255 : Int32))))
theorem ef_9 (m : MethodId) (a1 : Addr) (p2 : Int32) : entryFrame m #[(.ref a1), (.int p2)] 2 = mkF m 0 #[.val (.ref a1), .val (.int p2)] [] := by first | (simp [entryFrame, mkF, argsToLocals, Value.category]; done) | rfl
def Q9 (Z : State) (a1 : Addr) (p2 : Int32) (cs : Int32) (vf : Value) (b : Addr) (cl : Cell) (ln : Int32) (x : Int32) (h0 : Heap) (n0 : Nat) (v : Option Value) (h : Heap) (L : List Loc) : Prop := v = some (.int (own_ch x)) ∧ Fr n0 L ∧ h = h0
set_option maxRecDepth 65536 in
set_option maxHeartbeats 40000000 in
theorem rm9 (l : Launch) (Z : State) (a0 : Array Value) (hw : ∀ d ∈ tables_1, d.before a0 Z = true) (ws : List Jvm.Cond) (a1 : Addr) (p2 : Int32) (cs : Int32) (vf : Value) (b : Addr) (cl : Cell) (ln : Int32) (x : Int32) (h0 : Heap) (n0 : Nat) (Z0 : n0 ≤ h0.size) (E_a1 : Exa Z h0 a1 "java/lang/String") (F_c : Fld Z h0 a1 "java/lang/String" "coder" "B" (.int (0 : Int32))) (F_v : Fld Z h0 a1 "java/lang/String" "value" "[B" (.ref b)) (Ar : Arr Z h0 b cl .byte) (hlen : cl.slots.size.toInt32 = ln) (h1 : ¬ (p2 < (0 : Int32))) (h2 : p2 < ln) (hin : ¬ (p2 < 0 ∨ cl.slots.size ≤ (p2).toNatClampNeg)) (hat : cl.slots[(p2).toNatClampNeg]? = some (.int x)) (S_C : Sta Z h0 "java/lang/String" "COMPACT_STRINGS" "Z" (.int cs)) (hcs : ¬ (cs = (0 : Int32))) (S_F : Sta Z h0 "jdk/internal/util/Preconditions" "SIOOBE_FORMATTER" "Ljava/util/function/BiFunction;" vf) (hvf : vf.isRef = true) :
    MetFree l (⟨"java/lang/String", "charAt", "(I)C"⟩ : MethodName) (head1 (Jvm.Cond.code (⟨"java/lang/String", "charAt", "(I)C"⟩ : MethodName) jdk_42_method_56_code 2 (some .char) :: ws) ({ frames := 3, cells := 0, slots := 0, locals := 40 } : Room)) (fun a U => a = #[(.ref a1), (.int p2)] ∧ Z.Warmed39 U.vm ∧ U.heap = h0) (fun _ _ _ _ _ => True) (fun _ U o U' => ∃ v L, o = .returned v ∧ Q9 Z a1 p2 cs vf b cl ln x h0 n0 v U'.heap L ∧ FrameEnd U o U' L ({ frames := 3, cells := 0, slots := 0, locals := 40 } : Room).cells ({ frames := 3, cells := 0, slots := 0, locals := 40 } : Room).slots) := by
  refine MetFree.of_bodySF (plainFor_of_name pn_0) hisR ?_
  intro p e s m args below meth c s₁ Bd hml0 hP hK
  obtain ⟨rfl, hZ, hh⟩ := hP
  have hx := Bd.exec
  have hby := Bd.bytes
  have hml : c.maxLocals = 2 := hml0
  have hown : s.vm.findClass "java/lang/String" = some m.cls := findClass_of_methodNamed Bd.named
  have hnm := (name_of_methodNamed Bd.named Bd.method).1
  have X0 : Stand p l e ({ frames := 3, cells := 0, slots := 0, locals := 40 } : Room) s m #[(.ref a1), (.int p2)] below meth c s₁ [] 0 0 := Stand.of_body Bd
  have e0 : s₁.heap = h0 := by rw [← hh, Bd.state]; rfl
  have N0 := Fr.nil n0
  skip
  show own_Go p e below s (Q9 Z a1 p2 cs vf b cl ln x h0 n0) ({ frames := 3, cells := 0, slots := 0, locals := 40 } : Room).cells ({ frames := 3, cells := 0, slots := 0, locals := 40 } : Room).slots _
  refine own_step (B := s₁.setTop (mkF m 0 #[.val (.ref a1), .val (.int p2)] [])) (fun t k => castTop (ef_9 m a1 p2) k) ?_
  refine own_step (B := s₁.setTop (mkF m 1 #[.val (.ref a1), .val (.int p2)] [(.ref a1)])) (fun t k => ?_) ?_
  · show Steps p.tables e below (s₁.setTop (mkF m 0 #[.val (.ref a1), .val (.int p2)] [])) _
    refine XS.aloadN X0.here hx rfl (hb hby d9_0) rfl rfl ?_
    exact k
  obtain ⟨cq1, kq1, q1a, q1b, q1c⟩ := isOf hZ e0 E_a1
  obtain ⟨_, _, ⟨T1, L1, k1, n1⟩, -, X1, ⟨Lc1, hQ1, l1, y1, z1⟩, st1⟩ := X0.virtualBack hx (y := (⟨"java/lang/String", "isLatin1", "()Z"⟩ : MethodName)) (z := (⟨"java/lang/String", "isLatin1", "()Z"⟩ : MethodName)) hown (mvT hZ (hw _ (List.mem_of_getElem? (i := 56) rfl))) (mvT hZ (hw _ (List.mem_of_getElem? (i := 57) rfl))) (notFace_of_selects (args := #[]) (mvT hZ (hw _ (List.mem_of_getElem? (i := 59) rfl)))) (mvT hZ (hw _ (List.mem_of_getElem? (i := 59) rfl))) (mvT hZ (hw _ (List.mem_of_getElem? (i := 58) rfl))) (by decide) (backOf (W := 0) (rm10 l Z a0 hw [] a1 cs h0 n0 Z0 F_c S_C hcs) hZ (hw _ (List.mem_of_getElem? (i := 60) rfl)) (hw _ (List.mem_of_getElem? (i := 11) rfl)) (by decide) (by decide)) q1a q1c (g := (mkF m 1 #[.val (.ref a1), .val (.int p2)] [(.ref a1)])) rfl (by rw [hml]; rfl) (Steps.refl _) (argsL := []) (rest := []) (lenOf pd_6 rfl) rfl (by show 2 * 0 + _ ≤ _; exact Nat.le_of_eq rfl) (hb hby d9_1) (fun _ _ => ⟨rfl, e0, (by decide : 0 + 0 ≤ _), (by decide : 0 + 0 ≤ _)⟩)
  dsimp only [Pt.U, Pt.locs, Pt.cells, Pt.slots] at X1 l1 y1 z1 st1 hQ1
  subst l1 y1 z1
  obtain ⟨rfl, N1q, e1⟩ := hQ1
  have N1 := Fr.app N0 N1q
  refine own_via st1 ?_
  show own_Go p e below s _ _ _ (T1.setTop (mkF m 4 #[.val (.ref a1), .val (.int p2)] [(.int (1 : Int32))]))
  refine own_step (B := T1.setTop (mkF m 8 #[.val (.ref a1), .val (.int p2)] [(.ref a1)])) (fun t k => ?_) ?_
  · show Steps p.tables e below (T1.setTop (mkF m 4 #[.val (.ref a1), .val (.int p2)] [(.int (1 : Int32))])) _
    refine XS.ifNo X1.here hx rfl (hb hby d9_4) rfl ((if0 _ _).trans (feq (by decide : ¬ ((1 : Int32) = (0 : Int32)))).1) ?_
    show Steps p.tables e below (T1.setTop (mkF m 7 #[.val (.ref a1), .val (.int p2)] [])) _
    refine XS.aloadN X1.here hx rfl (hb hby d9_7) rfl rfl ?_
    exact k
  obtain ⟨T2, X2, e2, st2⟩ := getF X1 hx hZ hown (host := "") (Or.inl (hw _ (List.mem_of_getElem? (i := 38) rfl))) Via.refl e1 F_v (g := (mkF m 8 #[.val (.ref a1), .val (.int p2)] [(.ref a1)])) rfl rfl (hb hby d9_8)
  refine own_step st2 ?_
  show own_Go p e below s _ _ _ (T2.setTop (mkF m 11 #[.val (.ref a1), .val (.int p2)] [(.ref b)]))
  refine own_step (B := T2.setTop (mkF m 12 #[.val (.ref a1), .val (.int p2)] [(.int p2), (.ref b)])) (fun t k => ?_) ?_
  · show Steps p.tables e below (T2.setTop (mkF m 11 #[.val (.ref a1), .val (.int p2)] [(.ref b)])) _
    refine XS.iloadN X2.here hx rfl (hb hby d9_11) rfl ?_
    exact k
  obtain ⟨_, _, ⟨T3, L3, k3, n3⟩, -, X3, ⟨Lc3, hQ3, l3, y3, z3⟩, st3⟩ := Jvm.LawKit.callS X2 hx (y := (⟨"java/lang/StringLatin1", "charAt", "([BI)C"⟩ : MethodName)) hown (mvT hZ (hw _ (List.mem_of_getElem? (i := 61) rfl))) (mvT hZ (hw _ (List.mem_of_getElem? (i := 62) rfl))) (mvT hZ (hw _ (List.mem_of_getElem? (i := 63) rfl))) (mvT hZ (hw _ (List.mem_of_getElem? (i := 64) rfl))) (by decide) (backOf (W := 0) (rm11 l Z a0 hw [] b p2 vf cl ln x h0 n0 Z0 Ar hlen h1 h2 hin hat S_F hvf) hZ (hw _ (List.mem_of_getElem? (i := 64) rfl)) (hw _ (List.mem_of_getElem? (i := 63) rfl)) (by decide) (by decide)) (g := (mkF m 12 #[.val (.ref a1), .val (.int p2)] [(.int p2), (.ref b)])) rfl (by rw [hml]; rfl) (argsL := [(.ref b), (.int p2)]) (rest := []) (lenOf pd_7 rfl) rfl (by show 2 * 0 + _ ≤ _; exact Nat.le_of_eq rfl) (hb hby d9_12) (fun _ _ => ⟨rfl, e2, (by decide : 0 + 0 ≤ _), (by decide : 0 + 0 ≤ _)⟩)
  dsimp only [Pt.U, Pt.locs, Pt.cells, Pt.slots] at X3 l3 y3 z3 st3 hQ3
  subst l3 y3 z3
  obtain ⟨rfl, N3q, e3⟩ := hQ3
  have N3 := Fr.app N1 N3q
  refine own_step st3 ?_
  show own_Go p e below s _ _ _ (T3.setTop (mkF m 15 #[.val (.ref a1), .val (.int p2)] [(.int (nar .char (nar .char (x &&& (255 : Int32)))))]))
  exact own_retN X3 hx Bd.notSynchronized (t := .char) Bd.returns (by simp) (hb hby d9_15) ⟨rfl, N3, e3⟩ (by decide) (by decide)
theorem d14_0 : decode prog_76_method_3_code 0 = .ok (.iload_n 0, 1) := by decide +kernel
theorem d14_1 : decode prog_76_method_3_code 1 = .ok (.bipush 65, 2) := by decide +kernel
theorem d14_3 : decode prog_76_method_3_code 3 = .ok (.if_icmp .lt 9, 3) := by decide +kernel
theorem d14_6 : decode prog_76_method_3_code 6 = .ok (.iload_n 0, 1) := by decide +kernel
theorem d14_7 : decode prog_76_method_3_code 7 = .ok (.bipush 90, 2) := by decide +kernel
theorem d14_9 : decode prog_76_method_3_code 9 = .ok (.if_icmp .le 45, 3) := by decide +kernel
theorem d14_12 : decode prog_76_method_3_code 12 = .ok (.iload_n 0, 1) := by decide +kernel
theorem d14_13 : decode prog_76_method_3_code 13 = .ok (.bipush 97, 2) := by decide +kernel
theorem d14_15 : decode prog_76_method_3_code 15 = .ok (.if_icmp .lt 9, 3) := by decide +kernel
theorem d14_18 : decode prog_76_method_3_code 18 = .ok (.iload_n 0, 1) := by decide +kernel
theorem d14_19 : decode prog_76_method_3_code 19 = .ok (.bipush 122, 2) := by decide +kernel
theorem d14_21 : decode prog_76_method_3_code 21 = .ok (.if_icmp .le 33, 3) := by decide +kernel
theorem d14_24 : decode prog_76_method_3_code 24 = .ok (.iload_n 0, 1) := by decide +kernel
theorem d14_25 : decode prog_76_method_3_code 25 = .ok (.bipush 48, 2) := by decide +kernel
theorem d14_27 : decode prog_76_method_3_code 27 = .ok (.if_icmp .lt 9, 3) := by decide +kernel
theorem d14_30 : decode prog_76_method_3_code 30 = .ok (.iload_n 0, 1) := by decide +kernel
theorem d14_31 : decode prog_76_method_3_code 31 = .ok (.bipush 57, 2) := by decide +kernel
theorem d14_33 : decode prog_76_method_3_code 33 = .ok (.if_icmp .le 21, 3) := by decide +kernel
theorem d14_36 : decode prog_76_method_3_code 36 = .ok (.iload_n 0, 1) := by decide +kernel
theorem d14_37 : decode prog_76_method_3_code 37 = .ok (.bipush 95, 2) := by decide +kernel
theorem d14_39 : decode prog_76_method_3_code 39 = .ok (.if_icmp .eq 15, 3) := by decide +kernel
theorem d14_42 : decode prog_76_method_3_code 42 = .ok (.iload_n 0, 1) := by decide +kernel
theorem d14_43 : decode prog_76_method_3_code 43 = .ok (.bipush 46, 2) := by decide +kernel
theorem d14_45 : decode prog_76_method_3_code 45 = .ok (.if_icmp .eq 9, 3) := by decide +kernel
theorem d14_48 : decode prog_76_method_3_code 48 = .ok (.iload_n 0, 1) := by decide +kernel
theorem d14_49 : decode prog_76_method_3_code 49 = .ok (.bipush 45, 2) := by decide +kernel
theorem d14_51 : decode prog_76_method_3_code 51 = .ok (.if_icmp .ne 7, 3) := by decide +kernel
theorem d14_54 : decode prog_76_method_3_code 54 = .ok (.iconst 1, 1) := by decide +kernel
theorem d14_55 : decode prog_76_method_3_code 55 = .ok (.goto 4, 3) := by decide +kernel
theorem d14_58 : decode prog_76_method_3_code 58 = .ok (.iconst 0, 1) := by decide +kernel
theorem d14_59 : decode prog_76_method_3_code 59 = .ok (.ireturn, 1) := by decide +kernel
theorem pn_8 : plainName "com/example/nests/nests/model/Names" = true := by first | (simp [plainName, overriddenIn]; done) | decide +kernel
theorem ef_14 (m : MethodId) (p1 : Int32) : entryFrame m #[(.int p1)] 1 = mkF m 0 #[.val (.int p1)] [] := by first | (simp [entryFrame, mkF, argsToLocals, Value.category]; done) | rfl
def Q14 (Z : State) (p1 : Int32)  (h0 : Heap) (n0 : Nat) (v : Option Value) (h : Heap) (L : List Loc) : Prop := v = some (.int (own_b (own_NC p1))) ∧ Fr n0 L ∧ h = h0
set_option maxRecDepth 65536 in
set_option maxHeartbeats 40000000 in
theorem rm14 (l : Launch) (Z : State) (a0 : Array Value) (hw : ∀ d ∈ tables_1, d.before a0 Z = true) (ws : List Jvm.Cond) (p1 : Int32)  (h0 : Heap) (n0 : Nat) (Z0 : n0 ≤ h0.size) :
    MetFree l (⟨"com/example/nests/nests/model/Names", "isNameChar", "(C)Z"⟩ : MethodName) (head1 (Jvm.Cond.code (⟨"com/example/nests/nests/model/Names", "isNameChar", "(C)Z"⟩ : MethodName) prog_76_method_3_code 1 (some .boolean) :: ws) ({ frames := 0, cells := 0, slots := 0, locals := 0 } : Room)) (fun a U => a = #[(.int p1)] ∧ Z.Warmed39 U.vm ∧ U.heap = h0) (fun _ _ _ _ _ => True) (fun _ U o U' => ∃ v L, o = .returned v ∧ Q14 Z p1  h0 n0 v U'.heap L ∧ FrameEnd U o U' L ({ frames := 0, cells := 0, slots := 0, locals := 0 } : Room).cells ({ frames := 0, cells := 0, slots := 0, locals := 0 } : Room).slots) := by
  refine MetFree.of_bodySF (plainFor_of_name pn_8) hisR ?_
  intro p e s m args below meth c s₁ Bd hml0 hP hK
  obtain ⟨rfl, hZ, hh⟩ := hP
  have hx := Bd.exec
  have hby := Bd.bytes
  have hml : c.maxLocals = 1 := hml0
  have hown : s.vm.findClass "com/example/nests/nests/model/Names" = some m.cls := findClass_of_methodNamed Bd.named
  have hnm := (name_of_methodNamed Bd.named Bd.method).1
  have X0 : Stand p l e ({ frames := 0, cells := 0, slots := 0, locals := 0 } : Room) s m #[(.int p1)] below meth c s₁ [] 0 0 := Stand.of_body Bd
  have e0 : s₁.heap = h0 := by rw [← hh, Bd.state]; rfl
  have N0 := Fr.nil n0
  skip
  show own_Go p e below s (Q14 Z p1  h0 n0) ({ frames := 0, cells := 0, slots := 0, locals := 0 } : Room).cells ({ frames := 0, cells := 0, slots := 0, locals := 0 } : Room).slots _
  refine own_step (B := s₁.setTop (mkF m 0 #[.val (.int p1)] [])) (fun t k => castTop (ef_14 m p1) k) ?_
  refine own_step (B := s₁.setTop (mkF m 3 #[.val (.int p1)] [(.int (65 : Int32)), (.int p1)])) (fun t k => ?_) ?_
  · show Steps p.tables e below (s₁.setTop (mkF m 0 #[.val (.int p1)] [])) _
    refine XS.iloadN X0.here hx rfl (hb hby d14_0) rfl ?_
    show Steps p.tables e below (s₁.setTop (mkF m 1 #[.val (.int p1)] [(.int p1)])) _
    refine XS.bipush X0.here hx rfl (hb hby d14_1) ?_
    exact k
  by_cases hc3 : p1 < (65 : Int32)
  · refine own_step (B := s₁.setTop (mkF m 15 #[.val (.int p1)] [(.int (97 : Int32)), (.int p1)])) (fun t k => ?_) ?_
    · show Steps p.tables e below (s₁.setTop (mkF m 3 #[.val (.int p1)] [(.int (65 : Int32)), (.int p1)])) _
      refine XS.icmpYes X0.here hx rfl (pc0 := 3) (pc' := 12) rfl (hb hby d14_3) rfl (tlt hc3).1 (by decide) (by decide) ?_
      show Steps p.tables e below (s₁.setTop (mkF m 12 #[.val (.int p1)] [])) _
      refine XS.iloadN X0.here hx rfl (hb hby d14_12) rfl ?_
      show Steps p.tables e below (s₁.setTop (mkF m 13 #[.val (.int p1)] [(.int p1)])) _
      refine XS.bipush X0.here hx rfl (hb hby d14_13) ?_
      exact k
    by_cases hc15 : p1 < (97 : Int32)
    · refine own_step (B := s₁.setTop (mkF m 27 #[.val (.int p1)] [(.int (48 : Int32)), (.int p1)])) (fun t k => ?_) ?_
      · show Steps p.tables e below (s₁.setTop (mkF m 15 #[.val (.int p1)] [(.int (97 : Int32)), (.int p1)])) _
        refine XS.icmpYes X0.here hx rfl (pc0 := 15) (pc' := 24) rfl (hb hby d14_15) rfl (tlt hc15).1 (by decide) (by decide) ?_
        show Steps p.tables e below (s₁.setTop (mkF m 24 #[.val (.int p1)] [])) _
        refine XS.iloadN X0.here hx rfl (hb hby d14_24) rfl ?_
        show Steps p.tables e below (s₁.setTop (mkF m 25 #[.val (.int p1)] [(.int p1)])) _
        refine XS.bipush X0.here hx rfl (hb hby d14_25) ?_
        exact k
      by_cases hc27 : p1 < (48 : Int32)
      · refine own_step (B := s₁.setTop (mkF m 39 #[.val (.int p1)] [(.int (95 : Int32)), (.int p1)])) (fun t k => ?_) ?_
        · show Steps p.tables e below (s₁.setTop (mkF m 27 #[.val (.int p1)] [(.int (48 : Int32)), (.int p1)])) _
          refine XS.icmpYes X0.here hx rfl (pc0 := 27) (pc' := 36) rfl (hb hby d14_27) rfl (tlt hc27).1 (by decide) (by decide) ?_
          show Steps p.tables e below (s₁.setTop (mkF m 36 #[.val (.int p1)] [])) _
          refine XS.iloadN X0.here hx rfl (hb hby d14_36) rfl ?_
          show Steps p.tables e below (s₁.setTop (mkF m 37 #[.val (.int p1)] [(.int p1)])) _
          refine XS.bipush X0.here hx rfl (hb hby d14_37) ?_
          exact k
        by_cases hc39 : p1 = (95 : Int32)
        · refine own_step (B := s₁.setTop (mkF m 59 #[.val (.int p1)] [(.int (1 : Int32))])) (fun t k => ?_) ?_
          · show Steps p.tables e below (s₁.setTop (mkF m 39 #[.val (.int p1)] [(.int (95 : Int32)), (.int p1)])) _
            refine XS.icmpYes X0.here hx rfl (pc0 := 39) (pc' := 54) rfl (hb hby d14_39) rfl (teq hc39).1 (by decide) (by decide) ?_
            show Steps p.tables e below (s₁.setTop (mkF m 54 #[.val (.int p1)] [])) _
            refine XS.iconst X0.here hx rfl (hb hby d14_54) ?_
            show Steps p.tables e below (s₁.setTop (mkF m 55 #[.val (.int p1)] [(.int (1 : Int32))])) _
            refine XS.goto X0.here hx rfl (pc0 := 55) (pc' := 59) rfl (hb hby d14_55) (by decide) (by decide) ?_
            exact k
          exact own_retN X0 hx Bd.notSynchronized (t := .boolean) Bd.returns (by simp) (hb hby d14_59) ⟨by show some (Value.int ((1 : Int32))) = _; simp [own_b, own_NC, hc3, hc15, hc27, hc39], N0, e0⟩ (by decide) (by decide)
        · refine own_step (B := s₁.setTop (mkF m 45 #[.val (.int p1)] [(.int (46 : Int32)), (.int p1)])) (fun t k => ?_) ?_
          · show Steps p.tables e below (s₁.setTop (mkF m 39 #[.val (.int p1)] [(.int (95 : Int32)), (.int p1)])) _
            refine XS.icmpNo X0.here hx rfl (hb hby d14_39) rfl (feq hc39).1 ?_
            show Steps p.tables e below (s₁.setTop (mkF m 42 #[.val (.int p1)] [])) _
            refine XS.iloadN X0.here hx rfl (hb hby d14_42) rfl ?_
            show Steps p.tables e below (s₁.setTop (mkF m 43 #[.val (.int p1)] [(.int p1)])) _
            refine XS.bipush X0.here hx rfl (hb hby d14_43) ?_
            exact k
          by_cases hc45 : p1 = (46 : Int32)
          · refine own_step (B := s₁.setTop (mkF m 59 #[.val (.int p1)] [(.int (1 : Int32))])) (fun t k => ?_) ?_
            · show Steps p.tables e below (s₁.setTop (mkF m 45 #[.val (.int p1)] [(.int (46 : Int32)), (.int p1)])) _
              refine XS.icmpYes X0.here hx rfl (pc0 := 45) (pc' := 54) rfl (hb hby d14_45) rfl (teq hc45).1 (by decide) (by decide) ?_
              show Steps p.tables e below (s₁.setTop (mkF m 54 #[.val (.int p1)] [])) _
              refine XS.iconst X0.here hx rfl (hb hby d14_54) ?_
              show Steps p.tables e below (s₁.setTop (mkF m 55 #[.val (.int p1)] [(.int (1 : Int32))])) _
              refine XS.goto X0.here hx rfl (pc0 := 55) (pc' := 59) rfl (hb hby d14_55) (by decide) (by decide) ?_
              exact k
            exact own_retN X0 hx Bd.notSynchronized (t := .boolean) Bd.returns (by simp) (hb hby d14_59) ⟨by show some (Value.int ((1 : Int32))) = _; simp [own_b, own_NC, hc3, hc15, hc27, hc39, hc45], N0, e0⟩ (by decide) (by decide)
          · refine own_step (B := s₁.setTop (mkF m 51 #[.val (.int p1)] [(.int (45 : Int32)), (.int p1)])) (fun t k => ?_) ?_
            · show Steps p.tables e below (s₁.setTop (mkF m 45 #[.val (.int p1)] [(.int (46 : Int32)), (.int p1)])) _
              refine XS.icmpNo X0.here hx rfl (hb hby d14_45) rfl (feq hc45).1 ?_
              show Steps p.tables e below (s₁.setTop (mkF m 48 #[.val (.int p1)] [])) _
              refine XS.iloadN X0.here hx rfl (hb hby d14_48) rfl ?_
              show Steps p.tables e below (s₁.setTop (mkF m 49 #[.val (.int p1)] [(.int p1)])) _
              refine XS.bipush X0.here hx rfl (hb hby d14_49) ?_
              exact k
            by_cases hc51 : p1 = (45 : Int32)
            · refine own_step (B := s₁.setTop (mkF m 59 #[.val (.int p1)] [(.int (1 : Int32))])) (fun t k => ?_) ?_
              · show Steps p.tables e below (s₁.setTop (mkF m 51 #[.val (.int p1)] [(.int (45 : Int32)), (.int p1)])) _
                refine XS.icmpNo X0.here hx rfl (hb hby d14_51) rfl (teq hc51).2 ?_
                show Steps p.tables e below (s₁.setTop (mkF m 54 #[.val (.int p1)] [])) _
                refine XS.iconst X0.here hx rfl (hb hby d14_54) ?_
                show Steps p.tables e below (s₁.setTop (mkF m 55 #[.val (.int p1)] [(.int (1 : Int32))])) _
                refine XS.goto X0.here hx rfl (pc0 := 55) (pc' := 59) rfl (hb hby d14_55) (by decide) (by decide) ?_
                exact k
              exact own_retN X0 hx Bd.notSynchronized (t := .boolean) Bd.returns (by simp) (hb hby d14_59) ⟨by show some (Value.int ((1 : Int32))) = _; simp [own_b, own_NC, hc3, hc15, hc27, hc39, hc45, hc51], N0, e0⟩ (by decide) (by decide)
            · refine own_step (B := s₁.setTop (mkF m 59 #[.val (.int p1)] [(.int (0 : Int32))])) (fun t k => ?_) ?_
              · show Steps p.tables e below (s₁.setTop (mkF m 51 #[.val (.int p1)] [(.int (45 : Int32)), (.int p1)])) _
                refine XS.icmpYes X0.here hx rfl (pc0 := 51) (pc' := 58) rfl (hb hby d14_51) rfl (feq hc51).2 (by decide) (by decide) ?_
                show Steps p.tables e below (s₁.setTop (mkF m 58 #[.val (.int p1)] [])) _
                refine XS.iconst X0.here hx rfl (hb hby d14_58) ?_
                exact k
              exact own_retN X0 hx Bd.notSynchronized (t := .boolean) Bd.returns (by simp) (hb hby d14_59) ⟨by show some (Value.int ((0 : Int32))) = _; simp [own_b, own_NC, hc3, hc15, hc27, hc39, hc45, hc51], N0, e0⟩ (by decide) (by decide)
      · refine own_step (B := s₁.setTop (mkF m 33 #[.val (.int p1)] [(.int (57 : Int32)), (.int p1)])) (fun t k => ?_) ?_
        · show Steps p.tables e below (s₁.setTop (mkF m 27 #[.val (.int p1)] [(.int (48 : Int32)), (.int p1)])) _
          refine XS.icmpNo X0.here hx rfl (hb hby d14_27) rfl (flt hc27).1 ?_
          show Steps p.tables e below (s₁.setTop (mkF m 30 #[.val (.int p1)] [])) _
          refine XS.iloadN X0.here hx rfl (hb hby d14_30) rfl ?_
          show Steps p.tables e below (s₁.setTop (mkF m 31 #[.val (.int p1)] [(.int p1)])) _
          refine XS.bipush X0.here hx rfl (hb hby d14_31) ?_
          exact k
        by_cases hc33 : (57 : Int32) < p1
        · refine own_step (B := s₁.setTop (mkF m 39 #[.val (.int p1)] [(.int (95 : Int32)), (.int p1)])) (fun t k => ?_) ?_
          · show Steps p.tables e below (s₁.setTop (mkF m 33 #[.val (.int p1)] [(.int (57 : Int32)), (.int p1)])) _
            refine XS.icmpNo X0.here hx rfl (hb hby d14_33) rfl (tlt hc33).2.2.2 ?_
            show Steps p.tables e below (s₁.setTop (mkF m 36 #[.val (.int p1)] [])) _
            refine XS.iloadN X0.here hx rfl (hb hby d14_36) rfl ?_
            show Steps p.tables e below (s₁.setTop (mkF m 37 #[.val (.int p1)] [(.int p1)])) _
            refine XS.bipush X0.here hx rfl (hb hby d14_37) ?_
            exact k
          by_cases hc39 : p1 = (95 : Int32)
          · refine own_step (B := s₁.setTop (mkF m 59 #[.val (.int p1)] [(.int (1 : Int32))])) (fun t k => ?_) ?_
            · show Steps p.tables e below (s₁.setTop (mkF m 39 #[.val (.int p1)] [(.int (95 : Int32)), (.int p1)])) _
              refine XS.icmpYes X0.here hx rfl (pc0 := 39) (pc' := 54) rfl (hb hby d14_39) rfl (teq hc39).1 (by decide) (by decide) ?_
              show Steps p.tables e below (s₁.setTop (mkF m 54 #[.val (.int p1)] [])) _
              refine XS.iconst X0.here hx rfl (hb hby d14_54) ?_
              show Steps p.tables e below (s₁.setTop (mkF m 55 #[.val (.int p1)] [(.int (1 : Int32))])) _
              refine XS.goto X0.here hx rfl (pc0 := 55) (pc' := 59) rfl (hb hby d14_55) (by decide) (by decide) ?_
              exact k
            exact own_retN X0 hx Bd.notSynchronized (t := .boolean) Bd.returns (by simp) (hb hby d14_59) ⟨by show some (Value.int ((1 : Int32))) = _; simp [own_b, own_NC, hc3, hc15, hc27, hc33, hc39], N0, e0⟩ (by decide) (by decide)
          · refine own_step (B := s₁.setTop (mkF m 45 #[.val (.int p1)] [(.int (46 : Int32)), (.int p1)])) (fun t k => ?_) ?_
            · show Steps p.tables e below (s₁.setTop (mkF m 39 #[.val (.int p1)] [(.int (95 : Int32)), (.int p1)])) _
              refine XS.icmpNo X0.here hx rfl (hb hby d14_39) rfl (feq hc39).1 ?_
              show Steps p.tables e below (s₁.setTop (mkF m 42 #[.val (.int p1)] [])) _
              refine XS.iloadN X0.here hx rfl (hb hby d14_42) rfl ?_
              show Steps p.tables e below (s₁.setTop (mkF m 43 #[.val (.int p1)] [(.int p1)])) _
              refine XS.bipush X0.here hx rfl (hb hby d14_43) ?_
              exact k
            by_cases hc45 : p1 = (46 : Int32)
            · refine own_step (B := s₁.setTop (mkF m 59 #[.val (.int p1)] [(.int (1 : Int32))])) (fun t k => ?_) ?_
              · show Steps p.tables e below (s₁.setTop (mkF m 45 #[.val (.int p1)] [(.int (46 : Int32)), (.int p1)])) _
                refine XS.icmpYes X0.here hx rfl (pc0 := 45) (pc' := 54) rfl (hb hby d14_45) rfl (teq hc45).1 (by decide) (by decide) ?_
                show Steps p.tables e below (s₁.setTop (mkF m 54 #[.val (.int p1)] [])) _
                refine XS.iconst X0.here hx rfl (hb hby d14_54) ?_
                show Steps p.tables e below (s₁.setTop (mkF m 55 #[.val (.int p1)] [(.int (1 : Int32))])) _
                refine XS.goto X0.here hx rfl (pc0 := 55) (pc' := 59) rfl (hb hby d14_55) (by decide) (by decide) ?_
                exact k
              exact own_retN X0 hx Bd.notSynchronized (t := .boolean) Bd.returns (by simp) (hb hby d14_59) ⟨by show some (Value.int ((1 : Int32))) = _; simp [own_b, own_NC, hc3, hc15, hc27, hc33, hc39, hc45], N0, e0⟩ (by decide) (by decide)
            · refine own_step (B := s₁.setTop (mkF m 51 #[.val (.int p1)] [(.int (45 : Int32)), (.int p1)])) (fun t k => ?_) ?_
              · show Steps p.tables e below (s₁.setTop (mkF m 45 #[.val (.int p1)] [(.int (46 : Int32)), (.int p1)])) _
                refine XS.icmpNo X0.here hx rfl (hb hby d14_45) rfl (feq hc45).1 ?_
                show Steps p.tables e below (s₁.setTop (mkF m 48 #[.val (.int p1)] [])) _
                refine XS.iloadN X0.here hx rfl (hb hby d14_48) rfl ?_
                show Steps p.tables e below (s₁.setTop (mkF m 49 #[.val (.int p1)] [(.int p1)])) _
                refine XS.bipush X0.here hx rfl (hb hby d14_49) ?_
                exact k
              by_cases hc51 : p1 = (45 : Int32)
              · refine own_step (B := s₁.setTop (mkF m 59 #[.val (.int p1)] [(.int (1 : Int32))])) (fun t k => ?_) ?_
                · show Steps p.tables e below (s₁.setTop (mkF m 51 #[.val (.int p1)] [(.int (45 : Int32)), (.int p1)])) _
                  refine XS.icmpNo X0.here hx rfl (hb hby d14_51) rfl (teq hc51).2 ?_
                  show Steps p.tables e below (s₁.setTop (mkF m 54 #[.val (.int p1)] [])) _
                  refine XS.iconst X0.here hx rfl (hb hby d14_54) ?_
                  show Steps p.tables e below (s₁.setTop (mkF m 55 #[.val (.int p1)] [(.int (1 : Int32))])) _
                  refine XS.goto X0.here hx rfl (pc0 := 55) (pc' := 59) rfl (hb hby d14_55) (by decide) (by decide) ?_
                  exact k
                exact own_retN X0 hx Bd.notSynchronized (t := .boolean) Bd.returns (by simp) (hb hby d14_59) ⟨by show some (Value.int ((1 : Int32))) = _; simp [own_b, own_NC, hc3, hc15, hc27, hc33, hc39, hc45, hc51], N0, e0⟩ (by decide) (by decide)
              · refine own_step (B := s₁.setTop (mkF m 59 #[.val (.int p1)] [(.int (0 : Int32))])) (fun t k => ?_) ?_
                · show Steps p.tables e below (s₁.setTop (mkF m 51 #[.val (.int p1)] [(.int (45 : Int32)), (.int p1)])) _
                  refine XS.icmpYes X0.here hx rfl (pc0 := 51) (pc' := 58) rfl (hb hby d14_51) rfl (feq hc51).2 (by decide) (by decide) ?_
                  show Steps p.tables e below (s₁.setTop (mkF m 58 #[.val (.int p1)] [])) _
                  refine XS.iconst X0.here hx rfl (hb hby d14_58) ?_
                  exact k
                exact own_retN X0 hx Bd.notSynchronized (t := .boolean) Bd.returns (by simp) (hb hby d14_59) ⟨by show some (Value.int ((0 : Int32))) = _; simp [own_b, own_NC, hc3, hc15, hc27, hc33, hc39, hc45, hc51], N0, e0⟩ (by decide) (by decide)
        · refine own_step (B := s₁.setTop (mkF m 59 #[.val (.int p1)] [(.int (1 : Int32))])) (fun t k => ?_) ?_
          · show Steps p.tables e below (s₁.setTop (mkF m 33 #[.val (.int p1)] [(.int (57 : Int32)), (.int p1)])) _
            refine XS.icmpYes X0.here hx rfl (pc0 := 33) (pc' := 54) rfl (hb hby d14_33) rfl (flt hc33).2.2.2 (by decide) (by decide) ?_
            show Steps p.tables e below (s₁.setTop (mkF m 54 #[.val (.int p1)] [])) _
            refine XS.iconst X0.here hx rfl (hb hby d14_54) ?_
            show Steps p.tables e below (s₁.setTop (mkF m 55 #[.val (.int p1)] [(.int (1 : Int32))])) _
            refine XS.goto X0.here hx rfl (pc0 := 55) (pc' := 59) rfl (hb hby d14_55) (by decide) (by decide) ?_
            exact k
          exact own_retN X0 hx Bd.notSynchronized (t := .boolean) Bd.returns (by simp) (hb hby d14_59) ⟨by show some (Value.int ((1 : Int32))) = _; simp [own_b, own_NC, hc3, hc15, hc27, hc33], N0, e0⟩ (by decide) (by decide)
    · refine own_step (B := s₁.setTop (mkF m 21 #[.val (.int p1)] [(.int (122 : Int32)), (.int p1)])) (fun t k => ?_) ?_
      · show Steps p.tables e below (s₁.setTop (mkF m 15 #[.val (.int p1)] [(.int (97 : Int32)), (.int p1)])) _
        refine XS.icmpNo X0.here hx rfl (hb hby d14_15) rfl (flt hc15).1 ?_
        show Steps p.tables e below (s₁.setTop (mkF m 18 #[.val (.int p1)] [])) _
        refine XS.iloadN X0.here hx rfl (hb hby d14_18) rfl ?_
        show Steps p.tables e below (s₁.setTop (mkF m 19 #[.val (.int p1)] [(.int p1)])) _
        refine XS.bipush X0.here hx rfl (hb hby d14_19) ?_
        exact k
      by_cases hc21 : (122 : Int32) < p1
      · refine own_step (B := s₁.setTop (mkF m 27 #[.val (.int p1)] [(.int (48 : Int32)), (.int p1)])) (fun t k => ?_) ?_
        · show Steps p.tables e below (s₁.setTop (mkF m 21 #[.val (.int p1)] [(.int (122 : Int32)), (.int p1)])) _
          refine XS.icmpNo X0.here hx rfl (hb hby d14_21) rfl (tlt hc21).2.2.2 ?_
          show Steps p.tables e below (s₁.setTop (mkF m 24 #[.val (.int p1)] [])) _
          refine XS.iloadN X0.here hx rfl (hb hby d14_24) rfl ?_
          show Steps p.tables e below (s₁.setTop (mkF m 25 #[.val (.int p1)] [(.int p1)])) _
          refine XS.bipush X0.here hx rfl (hb hby d14_25) ?_
          exact k
        by_cases hc27 : p1 < (48 : Int32)
        · refine own_step (B := s₁.setTop (mkF m 39 #[.val (.int p1)] [(.int (95 : Int32)), (.int p1)])) (fun t k => ?_) ?_
          · show Steps p.tables e below (s₁.setTop (mkF m 27 #[.val (.int p1)] [(.int (48 : Int32)), (.int p1)])) _
            refine XS.icmpYes X0.here hx rfl (pc0 := 27) (pc' := 36) rfl (hb hby d14_27) rfl (tlt hc27).1 (by decide) (by decide) ?_
            show Steps p.tables e below (s₁.setTop (mkF m 36 #[.val (.int p1)] [])) _
            refine XS.iloadN X0.here hx rfl (hb hby d14_36) rfl ?_
            show Steps p.tables e below (s₁.setTop (mkF m 37 #[.val (.int p1)] [(.int p1)])) _
            refine XS.bipush X0.here hx rfl (hb hby d14_37) ?_
            exact k
          by_cases hc39 : p1 = (95 : Int32)
          · refine own_step (B := s₁.setTop (mkF m 59 #[.val (.int p1)] [(.int (1 : Int32))])) (fun t k => ?_) ?_
            · show Steps p.tables e below (s₁.setTop (mkF m 39 #[.val (.int p1)] [(.int (95 : Int32)), (.int p1)])) _
              refine XS.icmpYes X0.here hx rfl (pc0 := 39) (pc' := 54) rfl (hb hby d14_39) rfl (teq hc39).1 (by decide) (by decide) ?_
              show Steps p.tables e below (s₁.setTop (mkF m 54 #[.val (.int p1)] [])) _
              refine XS.iconst X0.here hx rfl (hb hby d14_54) ?_
              show Steps p.tables e below (s₁.setTop (mkF m 55 #[.val (.int p1)] [(.int (1 : Int32))])) _
              refine XS.goto X0.here hx rfl (pc0 := 55) (pc' := 59) rfl (hb hby d14_55) (by decide) (by decide) ?_
              exact k
            exact own_retN X0 hx Bd.notSynchronized (t := .boolean) Bd.returns (by simp) (hb hby d14_59) ⟨by show some (Value.int ((1 : Int32))) = _; simp [own_b, own_NC, hc3, hc15, hc21, hc27, hc39], N0, e0⟩ (by decide) (by decide)
          · refine own_step (B := s₁.setTop (mkF m 45 #[.val (.int p1)] [(.int (46 : Int32)), (.int p1)])) (fun t k => ?_) ?_
            · show Steps p.tables e below (s₁.setTop (mkF m 39 #[.val (.int p1)] [(.int (95 : Int32)), (.int p1)])) _
              refine XS.icmpNo X0.here hx rfl (hb hby d14_39) rfl (feq hc39).1 ?_
              show Steps p.tables e below (s₁.setTop (mkF m 42 #[.val (.int p1)] [])) _
              refine XS.iloadN X0.here hx rfl (hb hby d14_42) rfl ?_
              show Steps p.tables e below (s₁.setTop (mkF m 43 #[.val (.int p1)] [(.int p1)])) _
              refine XS.bipush X0.here hx rfl (hb hby d14_43) ?_
              exact k
            by_cases hc45 : p1 = (46 : Int32)
            · refine own_step (B := s₁.setTop (mkF m 59 #[.val (.int p1)] [(.int (1 : Int32))])) (fun t k => ?_) ?_
              · show Steps p.tables e below (s₁.setTop (mkF m 45 #[.val (.int p1)] [(.int (46 : Int32)), (.int p1)])) _
                refine XS.icmpYes X0.here hx rfl (pc0 := 45) (pc' := 54) rfl (hb hby d14_45) rfl (teq hc45).1 (by decide) (by decide) ?_
                show Steps p.tables e below (s₁.setTop (mkF m 54 #[.val (.int p1)] [])) _
                refine XS.iconst X0.here hx rfl (hb hby d14_54) ?_
                show Steps p.tables e below (s₁.setTop (mkF m 55 #[.val (.int p1)] [(.int (1 : Int32))])) _
                refine XS.goto X0.here hx rfl (pc0 := 55) (pc' := 59) rfl (hb hby d14_55) (by decide) (by decide) ?_
                exact k
              exact own_retN X0 hx Bd.notSynchronized (t := .boolean) Bd.returns (by simp) (hb hby d14_59) ⟨by show some (Value.int ((1 : Int32))) = _; simp [own_b, own_NC, hc3, hc15, hc21, hc27, hc39, hc45], N0, e0⟩ (by decide) (by decide)
            · refine own_step (B := s₁.setTop (mkF m 51 #[.val (.int p1)] [(.int (45 : Int32)), (.int p1)])) (fun t k => ?_) ?_
              · show Steps p.tables e below (s₁.setTop (mkF m 45 #[.val (.int p1)] [(.int (46 : Int32)), (.int p1)])) _
                refine XS.icmpNo X0.here hx rfl (hb hby d14_45) rfl (feq hc45).1 ?_
                show Steps p.tables e below (s₁.setTop (mkF m 48 #[.val (.int p1)] [])) _
                refine XS.iloadN X0.here hx rfl (hb hby d14_48) rfl ?_
                show Steps p.tables e below (s₁.setTop (mkF m 49 #[.val (.int p1)] [(.int p1)])) _
                refine XS.bipush X0.here hx rfl (hb hby d14_49) ?_
                exact k
              by_cases hc51 : p1 = (45 : Int32)
              · refine own_step (B := s₁.setTop (mkF m 59 #[.val (.int p1)] [(.int (1 : Int32))])) (fun t k => ?_) ?_
                · show Steps p.tables e below (s₁.setTop (mkF m 51 #[.val (.int p1)] [(.int (45 : Int32)), (.int p1)])) _
                  refine XS.icmpNo X0.here hx rfl (hb hby d14_51) rfl (teq hc51).2 ?_
                  show Steps p.tables e below (s₁.setTop (mkF m 54 #[.val (.int p1)] [])) _
                  refine XS.iconst X0.here hx rfl (hb hby d14_54) ?_
                  show Steps p.tables e below (s₁.setTop (mkF m 55 #[.val (.int p1)] [(.int (1 : Int32))])) _
                  refine XS.goto X0.here hx rfl (pc0 := 55) (pc' := 59) rfl (hb hby d14_55) (by decide) (by decide) ?_
                  exact k
                exact own_retN X0 hx Bd.notSynchronized (t := .boolean) Bd.returns (by simp) (hb hby d14_59) ⟨by show some (Value.int ((1 : Int32))) = _; simp [own_b, own_NC, hc3, hc15, hc21, hc27, hc39, hc45, hc51], N0, e0⟩ (by decide) (by decide)
              · refine own_step (B := s₁.setTop (mkF m 59 #[.val (.int p1)] [(.int (0 : Int32))])) (fun t k => ?_) ?_
                · show Steps p.tables e below (s₁.setTop (mkF m 51 #[.val (.int p1)] [(.int (45 : Int32)), (.int p1)])) _
                  refine XS.icmpYes X0.here hx rfl (pc0 := 51) (pc' := 58) rfl (hb hby d14_51) rfl (feq hc51).2 (by decide) (by decide) ?_
                  show Steps p.tables e below (s₁.setTop (mkF m 58 #[.val (.int p1)] [])) _
                  refine XS.iconst X0.here hx rfl (hb hby d14_58) ?_
                  exact k
                exact own_retN X0 hx Bd.notSynchronized (t := .boolean) Bd.returns (by simp) (hb hby d14_59) ⟨by show some (Value.int ((0 : Int32))) = _; simp [own_b, own_NC, hc3, hc15, hc21, hc27, hc39, hc45, hc51], N0, e0⟩ (by decide) (by decide)
        · refine own_step (B := s₁.setTop (mkF m 33 #[.val (.int p1)] [(.int (57 : Int32)), (.int p1)])) (fun t k => ?_) ?_
          · show Steps p.tables e below (s₁.setTop (mkF m 27 #[.val (.int p1)] [(.int (48 : Int32)), (.int p1)])) _
            refine XS.icmpNo X0.here hx rfl (hb hby d14_27) rfl (flt hc27).1 ?_
            show Steps p.tables e below (s₁.setTop (mkF m 30 #[.val (.int p1)] [])) _
            refine XS.iloadN X0.here hx rfl (hb hby d14_30) rfl ?_
            show Steps p.tables e below (s₁.setTop (mkF m 31 #[.val (.int p1)] [(.int p1)])) _
            refine XS.bipush X0.here hx rfl (hb hby d14_31) ?_
            exact k
          by_cases hc33 : (57 : Int32) < p1
          · refine own_step (B := s₁.setTop (mkF m 39 #[.val (.int p1)] [(.int (95 : Int32)), (.int p1)])) (fun t k => ?_) ?_
            · show Steps p.tables e below (s₁.setTop (mkF m 33 #[.val (.int p1)] [(.int (57 : Int32)), (.int p1)])) _
              refine XS.icmpNo X0.here hx rfl (hb hby d14_33) rfl (tlt hc33).2.2.2 ?_
              show Steps p.tables e below (s₁.setTop (mkF m 36 #[.val (.int p1)] [])) _
              refine XS.iloadN X0.here hx rfl (hb hby d14_36) rfl ?_
              show Steps p.tables e below (s₁.setTop (mkF m 37 #[.val (.int p1)] [(.int p1)])) _
              refine XS.bipush X0.here hx rfl (hb hby d14_37) ?_
              exact k
            by_cases hc39 : p1 = (95 : Int32)
            · refine own_step (B := s₁.setTop (mkF m 59 #[.val (.int p1)] [(.int (1 : Int32))])) (fun t k => ?_) ?_
              · show Steps p.tables e below (s₁.setTop (mkF m 39 #[.val (.int p1)] [(.int (95 : Int32)), (.int p1)])) _
                refine XS.icmpYes X0.here hx rfl (pc0 := 39) (pc' := 54) rfl (hb hby d14_39) rfl (teq hc39).1 (by decide) (by decide) ?_
                show Steps p.tables e below (s₁.setTop (mkF m 54 #[.val (.int p1)] [])) _
                refine XS.iconst X0.here hx rfl (hb hby d14_54) ?_
                show Steps p.tables e below (s₁.setTop (mkF m 55 #[.val (.int p1)] [(.int (1 : Int32))])) _
                refine XS.goto X0.here hx rfl (pc0 := 55) (pc' := 59) rfl (hb hby d14_55) (by decide) (by decide) ?_
                exact k
              exact own_retN X0 hx Bd.notSynchronized (t := .boolean) Bd.returns (by simp) (hb hby d14_59) ⟨by show some (Value.int ((1 : Int32))) = _; simp [own_b, own_NC, hc3, hc15, hc21, hc27, hc33, hc39], N0, e0⟩ (by decide) (by decide)
            · refine own_step (B := s₁.setTop (mkF m 45 #[.val (.int p1)] [(.int (46 : Int32)), (.int p1)])) (fun t k => ?_) ?_
              · show Steps p.tables e below (s₁.setTop (mkF m 39 #[.val (.int p1)] [(.int (95 : Int32)), (.int p1)])) _
                refine XS.icmpNo X0.here hx rfl (hb hby d14_39) rfl (feq hc39).1 ?_
                show Steps p.tables e below (s₁.setTop (mkF m 42 #[.val (.int p1)] [])) _
                refine XS.iloadN X0.here hx rfl (hb hby d14_42) rfl ?_
                show Steps p.tables e below (s₁.setTop (mkF m 43 #[.val (.int p1)] [(.int p1)])) _
                refine XS.bipush X0.here hx rfl (hb hby d14_43) ?_
                exact k
              by_cases hc45 : p1 = (46 : Int32)
              · refine own_step (B := s₁.setTop (mkF m 59 #[.val (.int p1)] [(.int (1 : Int32))])) (fun t k => ?_) ?_
                · show Steps p.tables e below (s₁.setTop (mkF m 45 #[.val (.int p1)] [(.int (46 : Int32)), (.int p1)])) _
                  refine XS.icmpYes X0.here hx rfl (pc0 := 45) (pc' := 54) rfl (hb hby d14_45) rfl (teq hc45).1 (by decide) (by decide) ?_
                  show Steps p.tables e below (s₁.setTop (mkF m 54 #[.val (.int p1)] [])) _
                  refine XS.iconst X0.here hx rfl (hb hby d14_54) ?_
                  show Steps p.tables e below (s₁.setTop (mkF m 55 #[.val (.int p1)] [(.int (1 : Int32))])) _
                  refine XS.goto X0.here hx rfl (pc0 := 55) (pc' := 59) rfl (hb hby d14_55) (by decide) (by decide) ?_
                  exact k
                exact own_retN X0 hx Bd.notSynchronized (t := .boolean) Bd.returns (by simp) (hb hby d14_59) ⟨by show some (Value.int ((1 : Int32))) = _; simp [own_b, own_NC, hc3, hc15, hc21, hc27, hc33, hc39, hc45], N0, e0⟩ (by decide) (by decide)
              · refine own_step (B := s₁.setTop (mkF m 51 #[.val (.int p1)] [(.int (45 : Int32)), (.int p1)])) (fun t k => ?_) ?_
                · show Steps p.tables e below (s₁.setTop (mkF m 45 #[.val (.int p1)] [(.int (46 : Int32)), (.int p1)])) _
                  refine XS.icmpNo X0.here hx rfl (hb hby d14_45) rfl (feq hc45).1 ?_
                  show Steps p.tables e below (s₁.setTop (mkF m 48 #[.val (.int p1)] [])) _
                  refine XS.iloadN X0.here hx rfl (hb hby d14_48) rfl ?_
                  show Steps p.tables e below (s₁.setTop (mkF m 49 #[.val (.int p1)] [(.int p1)])) _
                  refine XS.bipush X0.here hx rfl (hb hby d14_49) ?_
                  exact k
                by_cases hc51 : p1 = (45 : Int32)
                · refine own_step (B := s₁.setTop (mkF m 59 #[.val (.int p1)] [(.int (1 : Int32))])) (fun t k => ?_) ?_
                  · show Steps p.tables e below (s₁.setTop (mkF m 51 #[.val (.int p1)] [(.int (45 : Int32)), (.int p1)])) _
                    refine XS.icmpNo X0.here hx rfl (hb hby d14_51) rfl (teq hc51).2 ?_
                    show Steps p.tables e below (s₁.setTop (mkF m 54 #[.val (.int p1)] [])) _
                    refine XS.iconst X0.here hx rfl (hb hby d14_54) ?_
                    show Steps p.tables e below (s₁.setTop (mkF m 55 #[.val (.int p1)] [(.int (1 : Int32))])) _
                    refine XS.goto X0.here hx rfl (pc0 := 55) (pc' := 59) rfl (hb hby d14_55) (by decide) (by decide) ?_
                    exact k
                  exact own_retN X0 hx Bd.notSynchronized (t := .boolean) Bd.returns (by simp) (hb hby d14_59) ⟨by show some (Value.int ((1 : Int32))) = _; simp [own_b, own_NC, hc3, hc15, hc21, hc27, hc33, hc39, hc45, hc51], N0, e0⟩ (by decide) (by decide)
                · refine own_step (B := s₁.setTop (mkF m 59 #[.val (.int p1)] [(.int (0 : Int32))])) (fun t k => ?_) ?_
                  · show Steps p.tables e below (s₁.setTop (mkF m 51 #[.val (.int p1)] [(.int (45 : Int32)), (.int p1)])) _
                    refine XS.icmpYes X0.here hx rfl (pc0 := 51) (pc' := 58) rfl (hb hby d14_51) rfl (feq hc51).2 (by decide) (by decide) ?_
                    show Steps p.tables e below (s₁.setTop (mkF m 58 #[.val (.int p1)] [])) _
                    refine XS.iconst X0.here hx rfl (hb hby d14_58) ?_
                    exact k
                  exact own_retN X0 hx Bd.notSynchronized (t := .boolean) Bd.returns (by simp) (hb hby d14_59) ⟨by show some (Value.int ((0 : Int32))) = _; simp [own_b, own_NC, hc3, hc15, hc21, hc27, hc33, hc39, hc45, hc51], N0, e0⟩ (by decide) (by decide)
          · refine own_step (B := s₁.setTop (mkF m 59 #[.val (.int p1)] [(.int (1 : Int32))])) (fun t k => ?_) ?_
            · show Steps p.tables e below (s₁.setTop (mkF m 33 #[.val (.int p1)] [(.int (57 : Int32)), (.int p1)])) _
              refine XS.icmpYes X0.here hx rfl (pc0 := 33) (pc' := 54) rfl (hb hby d14_33) rfl (flt hc33).2.2.2 (by decide) (by decide) ?_
              show Steps p.tables e below (s₁.setTop (mkF m 54 #[.val (.int p1)] [])) _
              refine XS.iconst X0.here hx rfl (hb hby d14_54) ?_
              show Steps p.tables e below (s₁.setTop (mkF m 55 #[.val (.int p1)] [(.int (1 : Int32))])) _
              refine XS.goto X0.here hx rfl (pc0 := 55) (pc' := 59) rfl (hb hby d14_55) (by decide) (by decide) ?_
              exact k
            exact own_retN X0 hx Bd.notSynchronized (t := .boolean) Bd.returns (by simp) (hb hby d14_59) ⟨by show some (Value.int ((1 : Int32))) = _; simp [own_b, own_NC, hc3, hc15, hc21, hc27, hc33], N0, e0⟩ (by decide) (by decide)
      · refine own_step (B := s₁.setTop (mkF m 59 #[.val (.int p1)] [(.int (1 : Int32))])) (fun t k => ?_) ?_
        · show Steps p.tables e below (s₁.setTop (mkF m 21 #[.val (.int p1)] [(.int (122 : Int32)), (.int p1)])) _
          refine XS.icmpYes X0.here hx rfl (pc0 := 21) (pc' := 54) rfl (hb hby d14_21) rfl (flt hc21).2.2.2 (by decide) (by decide) ?_
          show Steps p.tables e below (s₁.setTop (mkF m 54 #[.val (.int p1)] [])) _
          refine XS.iconst X0.here hx rfl (hb hby d14_54) ?_
          show Steps p.tables e below (s₁.setTop (mkF m 55 #[.val (.int p1)] [(.int (1 : Int32))])) _
          refine XS.goto X0.here hx rfl (pc0 := 55) (pc' := 59) rfl (hb hby d14_55) (by decide) (by decide) ?_
          exact k
        exact own_retN X0 hx Bd.notSynchronized (t := .boolean) Bd.returns (by simp) (hb hby d14_59) ⟨by show some (Value.int ((1 : Int32))) = _; simp [own_b, own_NC, hc3, hc15, hc21], N0, e0⟩ (by decide) (by decide)
  · refine own_step (B := s₁.setTop (mkF m 9 #[.val (.int p1)] [(.int (90 : Int32)), (.int p1)])) (fun t k => ?_) ?_
    · show Steps p.tables e below (s₁.setTop (mkF m 3 #[.val (.int p1)] [(.int (65 : Int32)), (.int p1)])) _
      refine XS.icmpNo X0.here hx rfl (hb hby d14_3) rfl (flt hc3).1 ?_
      show Steps p.tables e below (s₁.setTop (mkF m 6 #[.val (.int p1)] [])) _
      refine XS.iloadN X0.here hx rfl (hb hby d14_6) rfl ?_
      show Steps p.tables e below (s₁.setTop (mkF m 7 #[.val (.int p1)] [(.int p1)])) _
      refine XS.bipush X0.here hx rfl (hb hby d14_7) ?_
      exact k
    by_cases hc9 : (90 : Int32) < p1
    · refine own_step (B := s₁.setTop (mkF m 15 #[.val (.int p1)] [(.int (97 : Int32)), (.int p1)])) (fun t k => ?_) ?_
      · show Steps p.tables e below (s₁.setTop (mkF m 9 #[.val (.int p1)] [(.int (90 : Int32)), (.int p1)])) _
        refine XS.icmpNo X0.here hx rfl (hb hby d14_9) rfl (tlt hc9).2.2.2 ?_
        show Steps p.tables e below (s₁.setTop (mkF m 12 #[.val (.int p1)] [])) _
        refine XS.iloadN X0.here hx rfl (hb hby d14_12) rfl ?_
        show Steps p.tables e below (s₁.setTop (mkF m 13 #[.val (.int p1)] [(.int p1)])) _
        refine XS.bipush X0.here hx rfl (hb hby d14_13) ?_
        exact k
      by_cases hc15 : p1 < (97 : Int32)
      · refine own_step (B := s₁.setTop (mkF m 27 #[.val (.int p1)] [(.int (48 : Int32)), (.int p1)])) (fun t k => ?_) ?_
        · show Steps p.tables e below (s₁.setTop (mkF m 15 #[.val (.int p1)] [(.int (97 : Int32)), (.int p1)])) _
          refine XS.icmpYes X0.here hx rfl (pc0 := 15) (pc' := 24) rfl (hb hby d14_15) rfl (tlt hc15).1 (by decide) (by decide) ?_
          show Steps p.tables e below (s₁.setTop (mkF m 24 #[.val (.int p1)] [])) _
          refine XS.iloadN X0.here hx rfl (hb hby d14_24) rfl ?_
          show Steps p.tables e below (s₁.setTop (mkF m 25 #[.val (.int p1)] [(.int p1)])) _
          refine XS.bipush X0.here hx rfl (hb hby d14_25) ?_
          exact k
        by_cases hc27 : p1 < (48 : Int32)
        · refine own_step (B := s₁.setTop (mkF m 39 #[.val (.int p1)] [(.int (95 : Int32)), (.int p1)])) (fun t k => ?_) ?_
          · show Steps p.tables e below (s₁.setTop (mkF m 27 #[.val (.int p1)] [(.int (48 : Int32)), (.int p1)])) _
            refine XS.icmpYes X0.here hx rfl (pc0 := 27) (pc' := 36) rfl (hb hby d14_27) rfl (tlt hc27).1 (by decide) (by decide) ?_
            show Steps p.tables e below (s₁.setTop (mkF m 36 #[.val (.int p1)] [])) _
            refine XS.iloadN X0.here hx rfl (hb hby d14_36) rfl ?_
            show Steps p.tables e below (s₁.setTop (mkF m 37 #[.val (.int p1)] [(.int p1)])) _
            refine XS.bipush X0.here hx rfl (hb hby d14_37) ?_
            exact k
          by_cases hc39 : p1 = (95 : Int32)
          · refine own_step (B := s₁.setTop (mkF m 59 #[.val (.int p1)] [(.int (1 : Int32))])) (fun t k => ?_) ?_
            · show Steps p.tables e below (s₁.setTop (mkF m 39 #[.val (.int p1)] [(.int (95 : Int32)), (.int p1)])) _
              refine XS.icmpYes X0.here hx rfl (pc0 := 39) (pc' := 54) rfl (hb hby d14_39) rfl (teq hc39).1 (by decide) (by decide) ?_
              show Steps p.tables e below (s₁.setTop (mkF m 54 #[.val (.int p1)] [])) _
              refine XS.iconst X0.here hx rfl (hb hby d14_54) ?_
              show Steps p.tables e below (s₁.setTop (mkF m 55 #[.val (.int p1)] [(.int (1 : Int32))])) _
              refine XS.goto X0.here hx rfl (pc0 := 55) (pc' := 59) rfl (hb hby d14_55) (by decide) (by decide) ?_
              exact k
            exact own_retN X0 hx Bd.notSynchronized (t := .boolean) Bd.returns (by simp) (hb hby d14_59) ⟨by show some (Value.int ((1 : Int32))) = _; simp [own_b, own_NC, hc3, hc9, hc15, hc27, hc39], N0, e0⟩ (by decide) (by decide)
          · refine own_step (B := s₁.setTop (mkF m 45 #[.val (.int p1)] [(.int (46 : Int32)), (.int p1)])) (fun t k => ?_) ?_
            · show Steps p.tables e below (s₁.setTop (mkF m 39 #[.val (.int p1)] [(.int (95 : Int32)), (.int p1)])) _
              refine XS.icmpNo X0.here hx rfl (hb hby d14_39) rfl (feq hc39).1 ?_
              show Steps p.tables e below (s₁.setTop (mkF m 42 #[.val (.int p1)] [])) _
              refine XS.iloadN X0.here hx rfl (hb hby d14_42) rfl ?_
              show Steps p.tables e below (s₁.setTop (mkF m 43 #[.val (.int p1)] [(.int p1)])) _
              refine XS.bipush X0.here hx rfl (hb hby d14_43) ?_
              exact k
            by_cases hc45 : p1 = (46 : Int32)
            · refine own_step (B := s₁.setTop (mkF m 59 #[.val (.int p1)] [(.int (1 : Int32))])) (fun t k => ?_) ?_
              · show Steps p.tables e below (s₁.setTop (mkF m 45 #[.val (.int p1)] [(.int (46 : Int32)), (.int p1)])) _
                refine XS.icmpYes X0.here hx rfl (pc0 := 45) (pc' := 54) rfl (hb hby d14_45) rfl (teq hc45).1 (by decide) (by decide) ?_
                show Steps p.tables e below (s₁.setTop (mkF m 54 #[.val (.int p1)] [])) _
                refine XS.iconst X0.here hx rfl (hb hby d14_54) ?_
                show Steps p.tables e below (s₁.setTop (mkF m 55 #[.val (.int p1)] [(.int (1 : Int32))])) _
                refine XS.goto X0.here hx rfl (pc0 := 55) (pc' := 59) rfl (hb hby d14_55) (by decide) (by decide) ?_
                exact k
              exact own_retN X0 hx Bd.notSynchronized (t := .boolean) Bd.returns (by simp) (hb hby d14_59) ⟨by show some (Value.int ((1 : Int32))) = _; simp [own_b, own_NC, hc3, hc9, hc15, hc27, hc39, hc45], N0, e0⟩ (by decide) (by decide)
            · refine own_step (B := s₁.setTop (mkF m 51 #[.val (.int p1)] [(.int (45 : Int32)), (.int p1)])) (fun t k => ?_) ?_
              · show Steps p.tables e below (s₁.setTop (mkF m 45 #[.val (.int p1)] [(.int (46 : Int32)), (.int p1)])) _
                refine XS.icmpNo X0.here hx rfl (hb hby d14_45) rfl (feq hc45).1 ?_
                show Steps p.tables e below (s₁.setTop (mkF m 48 #[.val (.int p1)] [])) _
                refine XS.iloadN X0.here hx rfl (hb hby d14_48) rfl ?_
                show Steps p.tables e below (s₁.setTop (mkF m 49 #[.val (.int p1)] [(.int p1)])) _
                refine XS.bipush X0.here hx rfl (hb hby d14_49) ?_
                exact k
              by_cases hc51 : p1 = (45 : Int32)
              · refine own_step (B := s₁.setTop (mkF m 59 #[.val (.int p1)] [(.int (1 : Int32))])) (fun t k => ?_) ?_
                · show Steps p.tables e below (s₁.setTop (mkF m 51 #[.val (.int p1)] [(.int (45 : Int32)), (.int p1)])) _
                  refine XS.icmpNo X0.here hx rfl (hb hby d14_51) rfl (teq hc51).2 ?_
                  show Steps p.tables e below (s₁.setTop (mkF m 54 #[.val (.int p1)] [])) _
                  refine XS.iconst X0.here hx rfl (hb hby d14_54) ?_
                  show Steps p.tables e below (s₁.setTop (mkF m 55 #[.val (.int p1)] [(.int (1 : Int32))])) _
                  refine XS.goto X0.here hx rfl (pc0 := 55) (pc' := 59) rfl (hb hby d14_55) (by decide) (by decide) ?_
                  exact k
                exact own_retN X0 hx Bd.notSynchronized (t := .boolean) Bd.returns (by simp) (hb hby d14_59) ⟨by show some (Value.int ((1 : Int32))) = _; simp [own_b, own_NC, hc3, hc9, hc15, hc27, hc39, hc45, hc51], N0, e0⟩ (by decide) (by decide)
              · refine own_step (B := s₁.setTop (mkF m 59 #[.val (.int p1)] [(.int (0 : Int32))])) (fun t k => ?_) ?_
                · show Steps p.tables e below (s₁.setTop (mkF m 51 #[.val (.int p1)] [(.int (45 : Int32)), (.int p1)])) _
                  refine XS.icmpYes X0.here hx rfl (pc0 := 51) (pc' := 58) rfl (hb hby d14_51) rfl (feq hc51).2 (by decide) (by decide) ?_
                  show Steps p.tables e below (s₁.setTop (mkF m 58 #[.val (.int p1)] [])) _
                  refine XS.iconst X0.here hx rfl (hb hby d14_58) ?_
                  exact k
                exact own_retN X0 hx Bd.notSynchronized (t := .boolean) Bd.returns (by simp) (hb hby d14_59) ⟨by show some (Value.int ((0 : Int32))) = _; simp [own_b, own_NC, hc3, hc9, hc15, hc27, hc39, hc45, hc51], N0, e0⟩ (by decide) (by decide)
        · refine own_step (B := s₁.setTop (mkF m 33 #[.val (.int p1)] [(.int (57 : Int32)), (.int p1)])) (fun t k => ?_) ?_
          · show Steps p.tables e below (s₁.setTop (mkF m 27 #[.val (.int p1)] [(.int (48 : Int32)), (.int p1)])) _
            refine XS.icmpNo X0.here hx rfl (hb hby d14_27) rfl (flt hc27).1 ?_
            show Steps p.tables e below (s₁.setTop (mkF m 30 #[.val (.int p1)] [])) _
            refine XS.iloadN X0.here hx rfl (hb hby d14_30) rfl ?_
            show Steps p.tables e below (s₁.setTop (mkF m 31 #[.val (.int p1)] [(.int p1)])) _
            refine XS.bipush X0.here hx rfl (hb hby d14_31) ?_
            exact k
          by_cases hc33 : (57 : Int32) < p1
          · refine own_step (B := s₁.setTop (mkF m 39 #[.val (.int p1)] [(.int (95 : Int32)), (.int p1)])) (fun t k => ?_) ?_
            · show Steps p.tables e below (s₁.setTop (mkF m 33 #[.val (.int p1)] [(.int (57 : Int32)), (.int p1)])) _
              refine XS.icmpNo X0.here hx rfl (hb hby d14_33) rfl (tlt hc33).2.2.2 ?_
              show Steps p.tables e below (s₁.setTop (mkF m 36 #[.val (.int p1)] [])) _
              refine XS.iloadN X0.here hx rfl (hb hby d14_36) rfl ?_
              show Steps p.tables e below (s₁.setTop (mkF m 37 #[.val (.int p1)] [(.int p1)])) _
              refine XS.bipush X0.here hx rfl (hb hby d14_37) ?_
              exact k
            by_cases hc39 : p1 = (95 : Int32)
            · refine own_step (B := s₁.setTop (mkF m 59 #[.val (.int p1)] [(.int (1 : Int32))])) (fun t k => ?_) ?_
              · show Steps p.tables e below (s₁.setTop (mkF m 39 #[.val (.int p1)] [(.int (95 : Int32)), (.int p1)])) _
                refine XS.icmpYes X0.here hx rfl (pc0 := 39) (pc' := 54) rfl (hb hby d14_39) rfl (teq hc39).1 (by decide) (by decide) ?_
                show Steps p.tables e below (s₁.setTop (mkF m 54 #[.val (.int p1)] [])) _
                refine XS.iconst X0.here hx rfl (hb hby d14_54) ?_
                show Steps p.tables e below (s₁.setTop (mkF m 55 #[.val (.int p1)] [(.int (1 : Int32))])) _
                refine XS.goto X0.here hx rfl (pc0 := 55) (pc' := 59) rfl (hb hby d14_55) (by decide) (by decide) ?_
                exact k
              exact own_retN X0 hx Bd.notSynchronized (t := .boolean) Bd.returns (by simp) (hb hby d14_59) ⟨by show some (Value.int ((1 : Int32))) = _; simp [own_b, own_NC, hc3, hc9, hc15, hc27, hc33, hc39], N0, e0⟩ (by decide) (by decide)
            · refine own_step (B := s₁.setTop (mkF m 45 #[.val (.int p1)] [(.int (46 : Int32)), (.int p1)])) (fun t k => ?_) ?_
              · show Steps p.tables e below (s₁.setTop (mkF m 39 #[.val (.int p1)] [(.int (95 : Int32)), (.int p1)])) _
                refine XS.icmpNo X0.here hx rfl (hb hby d14_39) rfl (feq hc39).1 ?_
                show Steps p.tables e below (s₁.setTop (mkF m 42 #[.val (.int p1)] [])) _
                refine XS.iloadN X0.here hx rfl (hb hby d14_42) rfl ?_
                show Steps p.tables e below (s₁.setTop (mkF m 43 #[.val (.int p1)] [(.int p1)])) _
                refine XS.bipush X0.here hx rfl (hb hby d14_43) ?_
                exact k
              by_cases hc45 : p1 = (46 : Int32)
              · refine own_step (B := s₁.setTop (mkF m 59 #[.val (.int p1)] [(.int (1 : Int32))])) (fun t k => ?_) ?_
                · show Steps p.tables e below (s₁.setTop (mkF m 45 #[.val (.int p1)] [(.int (46 : Int32)), (.int p1)])) _
                  refine XS.icmpYes X0.here hx rfl (pc0 := 45) (pc' := 54) rfl (hb hby d14_45) rfl (teq hc45).1 (by decide) (by decide) ?_
                  show Steps p.tables e below (s₁.setTop (mkF m 54 #[.val (.int p1)] [])) _
                  refine XS.iconst X0.here hx rfl (hb hby d14_54) ?_
                  show Steps p.tables e below (s₁.setTop (mkF m 55 #[.val (.int p1)] [(.int (1 : Int32))])) _
                  refine XS.goto X0.here hx rfl (pc0 := 55) (pc' := 59) rfl (hb hby d14_55) (by decide) (by decide) ?_
                  exact k
                exact own_retN X0 hx Bd.notSynchronized (t := .boolean) Bd.returns (by simp) (hb hby d14_59) ⟨by show some (Value.int ((1 : Int32))) = _; simp [own_b, own_NC, hc3, hc9, hc15, hc27, hc33, hc39, hc45], N0, e0⟩ (by decide) (by decide)
              · refine own_step (B := s₁.setTop (mkF m 51 #[.val (.int p1)] [(.int (45 : Int32)), (.int p1)])) (fun t k => ?_) ?_
                · show Steps p.tables e below (s₁.setTop (mkF m 45 #[.val (.int p1)] [(.int (46 : Int32)), (.int p1)])) _
                  refine XS.icmpNo X0.here hx rfl (hb hby d14_45) rfl (feq hc45).1 ?_
                  show Steps p.tables e below (s₁.setTop (mkF m 48 #[.val (.int p1)] [])) _
                  refine XS.iloadN X0.here hx rfl (hb hby d14_48) rfl ?_
                  show Steps p.tables e below (s₁.setTop (mkF m 49 #[.val (.int p1)] [(.int p1)])) _
                  refine XS.bipush X0.here hx rfl (hb hby d14_49) ?_
                  exact k
                by_cases hc51 : p1 = (45 : Int32)
                · refine own_step (B := s₁.setTop (mkF m 59 #[.val (.int p1)] [(.int (1 : Int32))])) (fun t k => ?_) ?_
                  · show Steps p.tables e below (s₁.setTop (mkF m 51 #[.val (.int p1)] [(.int (45 : Int32)), (.int p1)])) _
                    refine XS.icmpNo X0.here hx rfl (hb hby d14_51) rfl (teq hc51).2 ?_
                    show Steps p.tables e below (s₁.setTop (mkF m 54 #[.val (.int p1)] [])) _
                    refine XS.iconst X0.here hx rfl (hb hby d14_54) ?_
                    show Steps p.tables e below (s₁.setTop (mkF m 55 #[.val (.int p1)] [(.int (1 : Int32))])) _
                    refine XS.goto X0.here hx rfl (pc0 := 55) (pc' := 59) rfl (hb hby d14_55) (by decide) (by decide) ?_
                    exact k
                  exact own_retN X0 hx Bd.notSynchronized (t := .boolean) Bd.returns (by simp) (hb hby d14_59) ⟨by show some (Value.int ((1 : Int32))) = _; simp [own_b, own_NC, hc3, hc9, hc15, hc27, hc33, hc39, hc45, hc51], N0, e0⟩ (by decide) (by decide)
                · refine own_step (B := s₁.setTop (mkF m 59 #[.val (.int p1)] [(.int (0 : Int32))])) (fun t k => ?_) ?_
                  · show Steps p.tables e below (s₁.setTop (mkF m 51 #[.val (.int p1)] [(.int (45 : Int32)), (.int p1)])) _
                    refine XS.icmpYes X0.here hx rfl (pc0 := 51) (pc' := 58) rfl (hb hby d14_51) rfl (feq hc51).2 (by decide) (by decide) ?_
                    show Steps p.tables e below (s₁.setTop (mkF m 58 #[.val (.int p1)] [])) _
                    refine XS.iconst X0.here hx rfl (hb hby d14_58) ?_
                    exact k
                  exact own_retN X0 hx Bd.notSynchronized (t := .boolean) Bd.returns (by simp) (hb hby d14_59) ⟨by show some (Value.int ((0 : Int32))) = _; simp [own_b, own_NC, hc3, hc9, hc15, hc27, hc33, hc39, hc45, hc51], N0, e0⟩ (by decide) (by decide)
          · refine own_step (B := s₁.setTop (mkF m 59 #[.val (.int p1)] [(.int (1 : Int32))])) (fun t k => ?_) ?_
            · show Steps p.tables e below (s₁.setTop (mkF m 33 #[.val (.int p1)] [(.int (57 : Int32)), (.int p1)])) _
              refine XS.icmpYes X0.here hx rfl (pc0 := 33) (pc' := 54) rfl (hb hby d14_33) rfl (flt hc33).2.2.2 (by decide) (by decide) ?_
              show Steps p.tables e below (s₁.setTop (mkF m 54 #[.val (.int p1)] [])) _
              refine XS.iconst X0.here hx rfl (hb hby d14_54) ?_
              show Steps p.tables e below (s₁.setTop (mkF m 55 #[.val (.int p1)] [(.int (1 : Int32))])) _
              refine XS.goto X0.here hx rfl (pc0 := 55) (pc' := 59) rfl (hb hby d14_55) (by decide) (by decide) ?_
              exact k
            exact own_retN X0 hx Bd.notSynchronized (t := .boolean) Bd.returns (by simp) (hb hby d14_59) ⟨by show some (Value.int ((1 : Int32))) = _; simp [own_b, own_NC, hc3, hc9, hc15, hc27, hc33], N0, e0⟩ (by decide) (by decide)
      · refine own_step (B := s₁.setTop (mkF m 21 #[.val (.int p1)] [(.int (122 : Int32)), (.int p1)])) (fun t k => ?_) ?_
        · show Steps p.tables e below (s₁.setTop (mkF m 15 #[.val (.int p1)] [(.int (97 : Int32)), (.int p1)])) _
          refine XS.icmpNo X0.here hx rfl (hb hby d14_15) rfl (flt hc15).1 ?_
          show Steps p.tables e below (s₁.setTop (mkF m 18 #[.val (.int p1)] [])) _
          refine XS.iloadN X0.here hx rfl (hb hby d14_18) rfl ?_
          show Steps p.tables e below (s₁.setTop (mkF m 19 #[.val (.int p1)] [(.int p1)])) _
          refine XS.bipush X0.here hx rfl (hb hby d14_19) ?_
          exact k
        by_cases hc21 : (122 : Int32) < p1
        · refine own_step (B := s₁.setTop (mkF m 27 #[.val (.int p1)] [(.int (48 : Int32)), (.int p1)])) (fun t k => ?_) ?_
          · show Steps p.tables e below (s₁.setTop (mkF m 21 #[.val (.int p1)] [(.int (122 : Int32)), (.int p1)])) _
            refine XS.icmpNo X0.here hx rfl (hb hby d14_21) rfl (tlt hc21).2.2.2 ?_
            show Steps p.tables e below (s₁.setTop (mkF m 24 #[.val (.int p1)] [])) _
            refine XS.iloadN X0.here hx rfl (hb hby d14_24) rfl ?_
            show Steps p.tables e below (s₁.setTop (mkF m 25 #[.val (.int p1)] [(.int p1)])) _
            refine XS.bipush X0.here hx rfl (hb hby d14_25) ?_
            exact k
          by_cases hc27 : p1 < (48 : Int32)
          · refine own_step (B := s₁.setTop (mkF m 39 #[.val (.int p1)] [(.int (95 : Int32)), (.int p1)])) (fun t k => ?_) ?_
            · show Steps p.tables e below (s₁.setTop (mkF m 27 #[.val (.int p1)] [(.int (48 : Int32)), (.int p1)])) _
              refine XS.icmpYes X0.here hx rfl (pc0 := 27) (pc' := 36) rfl (hb hby d14_27) rfl (tlt hc27).1 (by decide) (by decide) ?_
              show Steps p.tables e below (s₁.setTop (mkF m 36 #[.val (.int p1)] [])) _
              refine XS.iloadN X0.here hx rfl (hb hby d14_36) rfl ?_
              show Steps p.tables e below (s₁.setTop (mkF m 37 #[.val (.int p1)] [(.int p1)])) _
              refine XS.bipush X0.here hx rfl (hb hby d14_37) ?_
              exact k
            by_cases hc39 : p1 = (95 : Int32)
            · refine own_step (B := s₁.setTop (mkF m 59 #[.val (.int p1)] [(.int (1 : Int32))])) (fun t k => ?_) ?_
              · show Steps p.tables e below (s₁.setTop (mkF m 39 #[.val (.int p1)] [(.int (95 : Int32)), (.int p1)])) _
                refine XS.icmpYes X0.here hx rfl (pc0 := 39) (pc' := 54) rfl (hb hby d14_39) rfl (teq hc39).1 (by decide) (by decide) ?_
                show Steps p.tables e below (s₁.setTop (mkF m 54 #[.val (.int p1)] [])) _
                refine XS.iconst X0.here hx rfl (hb hby d14_54) ?_
                show Steps p.tables e below (s₁.setTop (mkF m 55 #[.val (.int p1)] [(.int (1 : Int32))])) _
                refine XS.goto X0.here hx rfl (pc0 := 55) (pc' := 59) rfl (hb hby d14_55) (by decide) (by decide) ?_
                exact k
              exact own_retN X0 hx Bd.notSynchronized (t := .boolean) Bd.returns (by simp) (hb hby d14_59) ⟨by show some (Value.int ((1 : Int32))) = _; simp [own_b, own_NC, hc3, hc9, hc15, hc21, hc27, hc39], N0, e0⟩ (by decide) (by decide)
            · refine own_step (B := s₁.setTop (mkF m 45 #[.val (.int p1)] [(.int (46 : Int32)), (.int p1)])) (fun t k => ?_) ?_
              · show Steps p.tables e below (s₁.setTop (mkF m 39 #[.val (.int p1)] [(.int (95 : Int32)), (.int p1)])) _
                refine XS.icmpNo X0.here hx rfl (hb hby d14_39) rfl (feq hc39).1 ?_
                show Steps p.tables e below (s₁.setTop (mkF m 42 #[.val (.int p1)] [])) _
                refine XS.iloadN X0.here hx rfl (hb hby d14_42) rfl ?_
                show Steps p.tables e below (s₁.setTop (mkF m 43 #[.val (.int p1)] [(.int p1)])) _
                refine XS.bipush X0.here hx rfl (hb hby d14_43) ?_
                exact k
              by_cases hc45 : p1 = (46 : Int32)
              · refine own_step (B := s₁.setTop (mkF m 59 #[.val (.int p1)] [(.int (1 : Int32))])) (fun t k => ?_) ?_
                · show Steps p.tables e below (s₁.setTop (mkF m 45 #[.val (.int p1)] [(.int (46 : Int32)), (.int p1)])) _
                  refine XS.icmpYes X0.here hx rfl (pc0 := 45) (pc' := 54) rfl (hb hby d14_45) rfl (teq hc45).1 (by decide) (by decide) ?_
                  show Steps p.tables e below (s₁.setTop (mkF m 54 #[.val (.int p1)] [])) _
                  refine XS.iconst X0.here hx rfl (hb hby d14_54) ?_
                  show Steps p.tables e below (s₁.setTop (mkF m 55 #[.val (.int p1)] [(.int (1 : Int32))])) _
                  refine XS.goto X0.here hx rfl (pc0 := 55) (pc' := 59) rfl (hb hby d14_55) (by decide) (by decide) ?_
                  exact k
                exact own_retN X0 hx Bd.notSynchronized (t := .boolean) Bd.returns (by simp) (hb hby d14_59) ⟨by show some (Value.int ((1 : Int32))) = _; simp [own_b, own_NC, hc3, hc9, hc15, hc21, hc27, hc39, hc45], N0, e0⟩ (by decide) (by decide)
              · refine own_step (B := s₁.setTop (mkF m 51 #[.val (.int p1)] [(.int (45 : Int32)), (.int p1)])) (fun t k => ?_) ?_
                · show Steps p.tables e below (s₁.setTop (mkF m 45 #[.val (.int p1)] [(.int (46 : Int32)), (.int p1)])) _
                  refine XS.icmpNo X0.here hx rfl (hb hby d14_45) rfl (feq hc45).1 ?_
                  show Steps p.tables e below (s₁.setTop (mkF m 48 #[.val (.int p1)] [])) _
                  refine XS.iloadN X0.here hx rfl (hb hby d14_48) rfl ?_
                  show Steps p.tables e below (s₁.setTop (mkF m 49 #[.val (.int p1)] [(.int p1)])) _
                  refine XS.bipush X0.here hx rfl (hb hby d14_49) ?_
                  exact k
                by_cases hc51 : p1 = (45 : Int32)
                · refine own_step (B := s₁.setTop (mkF m 59 #[.val (.int p1)] [(.int (1 : Int32))])) (fun t k => ?_) ?_
                  · show Steps p.tables e below (s₁.setTop (mkF m 51 #[.val (.int p1)] [(.int (45 : Int32)), (.int p1)])) _
                    refine XS.icmpNo X0.here hx rfl (hb hby d14_51) rfl (teq hc51).2 ?_
                    show Steps p.tables e below (s₁.setTop (mkF m 54 #[.val (.int p1)] [])) _
                    refine XS.iconst X0.here hx rfl (hb hby d14_54) ?_
                    show Steps p.tables e below (s₁.setTop (mkF m 55 #[.val (.int p1)] [(.int (1 : Int32))])) _
                    refine XS.goto X0.here hx rfl (pc0 := 55) (pc' := 59) rfl (hb hby d14_55) (by decide) (by decide) ?_
                    exact k
                  exact own_retN X0 hx Bd.notSynchronized (t := .boolean) Bd.returns (by simp) (hb hby d14_59) ⟨by show some (Value.int ((1 : Int32))) = _; simp [own_b, own_NC, hc3, hc9, hc15, hc21, hc27, hc39, hc45, hc51], N0, e0⟩ (by decide) (by decide)
                · refine own_step (B := s₁.setTop (mkF m 59 #[.val (.int p1)] [(.int (0 : Int32))])) (fun t k => ?_) ?_
                  · show Steps p.tables e below (s₁.setTop (mkF m 51 #[.val (.int p1)] [(.int (45 : Int32)), (.int p1)])) _
                    refine XS.icmpYes X0.here hx rfl (pc0 := 51) (pc' := 58) rfl (hb hby d14_51) rfl (feq hc51).2 (by decide) (by decide) ?_
                    show Steps p.tables e below (s₁.setTop (mkF m 58 #[.val (.int p1)] [])) _
                    refine XS.iconst X0.here hx rfl (hb hby d14_58) ?_
                    exact k
                  exact own_retN X0 hx Bd.notSynchronized (t := .boolean) Bd.returns (by simp) (hb hby d14_59) ⟨by show some (Value.int ((0 : Int32))) = _; simp [own_b, own_NC, hc3, hc9, hc15, hc21, hc27, hc39, hc45, hc51], N0, e0⟩ (by decide) (by decide)
          · refine own_step (B := s₁.setTop (mkF m 33 #[.val (.int p1)] [(.int (57 : Int32)), (.int p1)])) (fun t k => ?_) ?_
            · show Steps p.tables e below (s₁.setTop (mkF m 27 #[.val (.int p1)] [(.int (48 : Int32)), (.int p1)])) _
              refine XS.icmpNo X0.here hx rfl (hb hby d14_27) rfl (flt hc27).1 ?_
              show Steps p.tables e below (s₁.setTop (mkF m 30 #[.val (.int p1)] [])) _
              refine XS.iloadN X0.here hx rfl (hb hby d14_30) rfl ?_
              show Steps p.tables e below (s₁.setTop (mkF m 31 #[.val (.int p1)] [(.int p1)])) _
              refine XS.bipush X0.here hx rfl (hb hby d14_31) ?_
              exact k
            by_cases hc33 : (57 : Int32) < p1
            · refine own_step (B := s₁.setTop (mkF m 39 #[.val (.int p1)] [(.int (95 : Int32)), (.int p1)])) (fun t k => ?_) ?_
              · show Steps p.tables e below (s₁.setTop (mkF m 33 #[.val (.int p1)] [(.int (57 : Int32)), (.int p1)])) _
                refine XS.icmpNo X0.here hx rfl (hb hby d14_33) rfl (tlt hc33).2.2.2 ?_
                show Steps p.tables e below (s₁.setTop (mkF m 36 #[.val (.int p1)] [])) _
                refine XS.iloadN X0.here hx rfl (hb hby d14_36) rfl ?_
                show Steps p.tables e below (s₁.setTop (mkF m 37 #[.val (.int p1)] [(.int p1)])) _
                refine XS.bipush X0.here hx rfl (hb hby d14_37) ?_
                exact k
              by_cases hc39 : p1 = (95 : Int32)
              · refine own_step (B := s₁.setTop (mkF m 59 #[.val (.int p1)] [(.int (1 : Int32))])) (fun t k => ?_) ?_
                · show Steps p.tables e below (s₁.setTop (mkF m 39 #[.val (.int p1)] [(.int (95 : Int32)), (.int p1)])) _
                  refine XS.icmpYes X0.here hx rfl (pc0 := 39) (pc' := 54) rfl (hb hby d14_39) rfl (teq hc39).1 (by decide) (by decide) ?_
                  show Steps p.tables e below (s₁.setTop (mkF m 54 #[.val (.int p1)] [])) _
                  refine XS.iconst X0.here hx rfl (hb hby d14_54) ?_
                  show Steps p.tables e below (s₁.setTop (mkF m 55 #[.val (.int p1)] [(.int (1 : Int32))])) _
                  refine XS.goto X0.here hx rfl (pc0 := 55) (pc' := 59) rfl (hb hby d14_55) (by decide) (by decide) ?_
                  exact k
                exact own_retN X0 hx Bd.notSynchronized (t := .boolean) Bd.returns (by simp) (hb hby d14_59) ⟨by show some (Value.int ((1 : Int32))) = _; simp [own_b, own_NC, hc3, hc9, hc15, hc21, hc27, hc33, hc39], N0, e0⟩ (by decide) (by decide)
              · refine own_step (B := s₁.setTop (mkF m 45 #[.val (.int p1)] [(.int (46 : Int32)), (.int p1)])) (fun t k => ?_) ?_
                · show Steps p.tables e below (s₁.setTop (mkF m 39 #[.val (.int p1)] [(.int (95 : Int32)), (.int p1)])) _
                  refine XS.icmpNo X0.here hx rfl (hb hby d14_39) rfl (feq hc39).1 ?_
                  show Steps p.tables e below (s₁.setTop (mkF m 42 #[.val (.int p1)] [])) _
                  refine XS.iloadN X0.here hx rfl (hb hby d14_42) rfl ?_
                  show Steps p.tables e below (s₁.setTop (mkF m 43 #[.val (.int p1)] [(.int p1)])) _
                  refine XS.bipush X0.here hx rfl (hb hby d14_43) ?_
                  exact k
                by_cases hc45 : p1 = (46 : Int32)
                · refine own_step (B := s₁.setTop (mkF m 59 #[.val (.int p1)] [(.int (1 : Int32))])) (fun t k => ?_) ?_
                  · show Steps p.tables e below (s₁.setTop (mkF m 45 #[.val (.int p1)] [(.int (46 : Int32)), (.int p1)])) _
                    refine XS.icmpYes X0.here hx rfl (pc0 := 45) (pc' := 54) rfl (hb hby d14_45) rfl (teq hc45).1 (by decide) (by decide) ?_
                    show Steps p.tables e below (s₁.setTop (mkF m 54 #[.val (.int p1)] [])) _
                    refine XS.iconst X0.here hx rfl (hb hby d14_54) ?_
                    show Steps p.tables e below (s₁.setTop (mkF m 55 #[.val (.int p1)] [(.int (1 : Int32))])) _
                    refine XS.goto X0.here hx rfl (pc0 := 55) (pc' := 59) rfl (hb hby d14_55) (by decide) (by decide) ?_
                    exact k
                  exact own_retN X0 hx Bd.notSynchronized (t := .boolean) Bd.returns (by simp) (hb hby d14_59) ⟨by show some (Value.int ((1 : Int32))) = _; simp [own_b, own_NC, hc3, hc9, hc15, hc21, hc27, hc33, hc39, hc45], N0, e0⟩ (by decide) (by decide)
                · refine own_step (B := s₁.setTop (mkF m 51 #[.val (.int p1)] [(.int (45 : Int32)), (.int p1)])) (fun t k => ?_) ?_
                  · show Steps p.tables e below (s₁.setTop (mkF m 45 #[.val (.int p1)] [(.int (46 : Int32)), (.int p1)])) _
                    refine XS.icmpNo X0.here hx rfl (hb hby d14_45) rfl (feq hc45).1 ?_
                    show Steps p.tables e below (s₁.setTop (mkF m 48 #[.val (.int p1)] [])) _
                    refine XS.iloadN X0.here hx rfl (hb hby d14_48) rfl ?_
                    show Steps p.tables e below (s₁.setTop (mkF m 49 #[.val (.int p1)] [(.int p1)])) _
                    refine XS.bipush X0.here hx rfl (hb hby d14_49) ?_
                    exact k
                  by_cases hc51 : p1 = (45 : Int32)
                  · refine own_step (B := s₁.setTop (mkF m 59 #[.val (.int p1)] [(.int (1 : Int32))])) (fun t k => ?_) ?_
                    · show Steps p.tables e below (s₁.setTop (mkF m 51 #[.val (.int p1)] [(.int (45 : Int32)), (.int p1)])) _
                      refine XS.icmpNo X0.here hx rfl (hb hby d14_51) rfl (teq hc51).2 ?_
                      show Steps p.tables e below (s₁.setTop (mkF m 54 #[.val (.int p1)] [])) _
                      refine XS.iconst X0.here hx rfl (hb hby d14_54) ?_
                      show Steps p.tables e below (s₁.setTop (mkF m 55 #[.val (.int p1)] [(.int (1 : Int32))])) _
                      refine XS.goto X0.here hx rfl (pc0 := 55) (pc' := 59) rfl (hb hby d14_55) (by decide) (by decide) ?_
                      exact k
                    exact own_retN X0 hx Bd.notSynchronized (t := .boolean) Bd.returns (by simp) (hb hby d14_59) ⟨by show some (Value.int ((1 : Int32))) = _; simp [own_b, own_NC, hc3, hc9, hc15, hc21, hc27, hc33, hc39, hc45, hc51], N0, e0⟩ (by decide) (by decide)
                  · refine own_step (B := s₁.setTop (mkF m 59 #[.val (.int p1)] [(.int (0 : Int32))])) (fun t k => ?_) ?_
                    · show Steps p.tables e below (s₁.setTop (mkF m 51 #[.val (.int p1)] [(.int (45 : Int32)), (.int p1)])) _
                      refine XS.icmpYes X0.here hx rfl (pc0 := 51) (pc' := 58) rfl (hb hby d14_51) rfl (feq hc51).2 (by decide) (by decide) ?_
                      show Steps p.tables e below (s₁.setTop (mkF m 58 #[.val (.int p1)] [])) _
                      refine XS.iconst X0.here hx rfl (hb hby d14_58) ?_
                      exact k
                    exact own_retN X0 hx Bd.notSynchronized (t := .boolean) Bd.returns (by simp) (hb hby d14_59) ⟨by show some (Value.int ((0 : Int32))) = _; simp [own_b, own_NC, hc3, hc9, hc15, hc21, hc27, hc33, hc39, hc45, hc51], N0, e0⟩ (by decide) (by decide)
            · refine own_step (B := s₁.setTop (mkF m 59 #[.val (.int p1)] [(.int (1 : Int32))])) (fun t k => ?_) ?_
              · show Steps p.tables e below (s₁.setTop (mkF m 33 #[.val (.int p1)] [(.int (57 : Int32)), (.int p1)])) _
                refine XS.icmpYes X0.here hx rfl (pc0 := 33) (pc' := 54) rfl (hb hby d14_33) rfl (flt hc33).2.2.2 (by decide) (by decide) ?_
                show Steps p.tables e below (s₁.setTop (mkF m 54 #[.val (.int p1)] [])) _
                refine XS.iconst X0.here hx rfl (hb hby d14_54) ?_
                show Steps p.tables e below (s₁.setTop (mkF m 55 #[.val (.int p1)] [(.int (1 : Int32))])) _
                refine XS.goto X0.here hx rfl (pc0 := 55) (pc' := 59) rfl (hb hby d14_55) (by decide) (by decide) ?_
                exact k
              exact own_retN X0 hx Bd.notSynchronized (t := .boolean) Bd.returns (by simp) (hb hby d14_59) ⟨by show some (Value.int ((1 : Int32))) = _; simp [own_b, own_NC, hc3, hc9, hc15, hc21, hc27, hc33], N0, e0⟩ (by decide) (by decide)
        · refine own_step (B := s₁.setTop (mkF m 59 #[.val (.int p1)] [(.int (1 : Int32))])) (fun t k => ?_) ?_
          · show Steps p.tables e below (s₁.setTop (mkF m 21 #[.val (.int p1)] [(.int (122 : Int32)), (.int p1)])) _
            refine XS.icmpYes X0.here hx rfl (pc0 := 21) (pc' := 54) rfl (hb hby d14_21) rfl (flt hc21).2.2.2 (by decide) (by decide) ?_
            show Steps p.tables e below (s₁.setTop (mkF m 54 #[.val (.int p1)] [])) _
            refine XS.iconst X0.here hx rfl (hb hby d14_54) ?_
            show Steps p.tables e below (s₁.setTop (mkF m 55 #[.val (.int p1)] [(.int (1 : Int32))])) _
            refine XS.goto X0.here hx rfl (pc0 := 55) (pc' := 59) rfl (hb hby d14_55) (by decide) (by decide) ?_
            exact k
          exact own_retN X0 hx Bd.notSynchronized (t := .boolean) Bd.returns (by simp) (hb hby d14_59) ⟨by show some (Value.int ((1 : Int32))) = _; simp [own_b, own_NC, hc3, hc9, hc15, hc21], N0, e0⟩ (by decide) (by decide)
    · refine own_step (B := s₁.setTop (mkF m 59 #[.val (.int p1)] [(.int (1 : Int32))])) (fun t k => ?_) ?_
      · show Steps p.tables e below (s₁.setTop (mkF m 9 #[.val (.int p1)] [(.int (90 : Int32)), (.int p1)])) _
        refine XS.icmpYes X0.here hx rfl (pc0 := 9) (pc' := 54) rfl (hb hby d14_9) rfl (flt hc9).2.2.2 (by decide) (by decide) ?_
        show Steps p.tables e below (s₁.setTop (mkF m 54 #[.val (.int p1)] [])) _
        refine XS.iconst X0.here hx rfl (hb hby d14_54) ?_
        show Steps p.tables e below (s₁.setTop (mkF m 55 #[.val (.int p1)] [(.int (1 : Int32))])) _
        refine XS.goto X0.here hx rfl (pc0 := 55) (pc' := 59) rfl (hb hby d14_55) (by decide) (by decide) ?_
        exact k
      exact own_retN X0 hx Bd.notSynchronized (t := .boolean) Bd.returns (by simp) (hb hby d14_59) ⟨by show some (Value.int ((1 : Int32))) = _; simp [own_b, own_NC, hc3, hc9], N0, e0⟩ (by decide) (by decide)
theorem d5_0 : decode prog_76_method_2_code 0 = .ok (.aload_n 1, 1) := by decide +kernel
theorem d5_1 : decode prog_76_method_2_code 1 = .ok (.invokevirtual 7, 3) := by decide +kernel
theorem d5_4 : decode prog_76_method_2_code 4 = .ok (.ifCond .ne 12, 3) := by decide +kernel
theorem d5_7 : decode prog_76_method_2_code 7 = .ok (.aload_n 1, 1) := by decide +kernel
theorem d5_8 : decode prog_76_method_2_code 8 = .ok (.invokevirtual 13, 3) := by decide +kernel
theorem d5_11 : decode prog_76_method_2_code 11 = .ok (.bipush 64, 2) := by decide +kernel
theorem d5_13 : decode prog_76_method_2_code 13 = .ok (.if_icmp .le 21, 3) := by decide +kernel
theorem d5_16 : decode prog_76_method_2_code 16 = .ok (.new 19, 3) := by decide +kernel
theorem d5_19 : decode prog_76_method_2_code 19 = .ok (.dup, 1) := by decide +kernel
theorem d5_20 : decode prog_76_method_2_code 20 = .ok (.aload_n 0, 1) := by decide +kernel
theorem d5_21 : decode prog_76_method_2_code 21 = .ok (.aload_n 1, 1) := by decide +kernel
theorem d5_22 : decode prog_76_method_2_code 22 = .ok (.invokevirtual 13, 3) := by decide +kernel
theorem d5_30 : decode prog_76_method_2_code 30 = .ok (.invokespecial 25, 3) := by decide +kernel
theorem d5_33 : decode prog_76_method_2_code 33 = .ok (.athrow, 1) := by decide +kernel
theorem d5_34 : decode prog_76_method_2_code 34 = .ok (.iconst 0, 1) := by decide +kernel
theorem d5_35 : decode prog_76_method_2_code 35 = .ok (.istore_n 2, 1) := by decide +kernel
theorem d5_36 : decode prog_76_method_2_code 36 = .ok (.iload_n 2, 1) := by decide +kernel
theorem d5_37 : decode prog_76_method_2_code 37 = .ok (.aload_n 1, 1) := by decide +kernel
theorem d5_38 : decode prog_76_method_2_code 38 = .ok (.invokevirtual 13, 3) := by decide +kernel
theorem d5_41 : decode prog_76_method_2_code 41 = .ok (.if_icmp .ge 57, 3) := by decide +kernel
theorem d5_44 : decode prog_76_method_2_code 44 = .ok (.aload_n 1, 1) := by decide +kernel
theorem d5_45 : decode prog_76_method_2_code 45 = .ok (.iload_n 2, 1) := by decide +kernel
theorem d5_46 : decode prog_76_method_2_code 46 = .ok (.invokevirtual 28, 3) := by decide +kernel
theorem d5_49 : decode prog_76_method_2_code 49 = .ok (.istore_n 3, 1) := by decide +kernel
theorem d5_50 : decode prog_76_method_2_code 50 = .ok (.iload_n 3, 1) := by decide +kernel
theorem d5_51 : decode prog_76_method_2_code 51 = .ok (.invokestatic 32, 3) := by decide +kernel
theorem d5_54 : decode prog_76_method_2_code 54 = .ok (.ifCond .ne 38, 3) := by decide +kernel
theorem d5_57 : decode prog_76_method_2_code 57 = .ok (.new 19, 3) := by decide +kernel
theorem d5_60 : decode prog_76_method_2_code 60 = .ok (.dup, 1) := by decide +kernel
theorem d5_61 : decode prog_76_method_2_code 61 = .ok (.ldc 36, 2) := by decide +kernel
theorem d5_63 : decode prog_76_method_2_code 63 = .ok (.iconst 3, 1) := by decide +kernel
theorem d5_64 : decode prog_76_method_2_code 64 = .ok (.anewarray 2, 3) := by decide +kernel
theorem d5_67 : decode prog_76_method_2_code 67 = .ok (.dup, 1) := by decide +kernel
theorem d5_68 : decode prog_76_method_2_code 68 = .ok (.iconst 0, 1) := by decide +kernel
theorem d5_69 : decode prog_76_method_2_code 69 = .ok (.aload_n 0, 1) := by decide +kernel
theorem d5_70 : decode prog_76_method_2_code 70 = .ok (.aastore, 1) := by decide +kernel
theorem d5_71 : decode prog_76_method_2_code 71 = .ok (.dup, 1) := by decide +kernel
theorem d5_72 : decode prog_76_method_2_code 72 = .ok (.iconst 1, 1) := by decide +kernel
theorem d5_73 : decode prog_76_method_2_code 73 = .ok (.iload_n 3, 1) := by decide +kernel
theorem d5_74 : decode prog_76_method_2_code 74 = .ok (.invokestatic 38, 3) := by decide +kernel
theorem d5_77 : decode prog_76_method_2_code 77 = .ok (.aastore, 1) := by decide +kernel
theorem d5_78 : decode prog_76_method_2_code 78 = .ok (.dup, 1) := by decide +kernel
theorem d5_79 : decode prog_76_method_2_code 79 = .ok (.iconst 2, 1) := by decide +kernel
theorem d5_80 : decode prog_76_method_2_code 80 = .ok (.iload_n 2, 1) := by decide +kernel
theorem d5_81 : decode prog_76_method_2_code 81 = .ok (.invokestatic 38, 3) := by decide +kernel
theorem d5_84 : decode prog_76_method_2_code 84 = .ok (.aastore, 1) := by decide +kernel
theorem d5_85 : decode prog_76_method_2_code 85 = .ok (.invokestatic 44, 3) := by decide +kernel
theorem d5_88 : decode prog_76_method_2_code 88 = .ok (.invokespecial 25, 3) := by decide +kernel
theorem d5_91 : decode prog_76_method_2_code 91 = .ok (.athrow, 1) := by decide +kernel
theorem d5_92 : decode prog_76_method_2_code 92 = .ok (.iinc 2 1, 3) := by decide +kernel
theorem d5_95 : decode prog_76_method_2_code 95 = .ok (.goto (-59), 3) := by decide +kernel
theorem d5_98 : decode prog_76_method_2_code 98 = .ok (.return_, 1) := by decide +kernel
theorem pd_9 : parseMethodDescriptor "()I" = some ⟨[], some .int⟩ := by decide +kernel
theorem pd_10 : parseMethodDescriptor "(I)C" = some ⟨[.int], some .char⟩ := by decide +kernel
theorem pd_11 : parseMethodDescriptor "(C)Z" = some ⟨[.char], some .boolean⟩ := by decide +kernel
theorem ef_5 (m : MethodId) (a1 : Addr) (a2 : Addr) : entryFrame m #[(.ref a1), (.ref a2)] 4 = mkF m 0 #[.val (.ref a1), .val (.ref a2), .unset, .unset] [] := by first | (simp [entryFrame, mkF, argsToLocals, Value.category]; done) | rfl
def Q5 (Z : State) (a1 : Addr) (a2 : Addr) (cs : Int32) (vf : Value) (b : Addr) (k : ClassId) (h0 : Heap) (n0 : Nat) (v : Option Value) (h : Heap) (L : List Loc) : Prop := v = none ∧ Fr n0 L ∧ h = h0
set_option maxRecDepth 65536 in
set_option maxHeartbeats 40000000 in
theorem rm5 (l : Launch) (Z : State) (a0 : Array Value) (hw : ∀ d ∈ tables_1, d.before a0 Z = true) (ws : List Jvm.Cond) (a1 : Addr) (a2 : Addr) (cs : Int32) (vf : Value) (b : Addr) (k : ClassId) (h0 : Heap) (n0 : Nat) (Z0 : n0 ≤ h0.size) (P_0 : Exa Z h0 a2 "java/lang/String") (P_1 : Fld Z h0 a2 "java/lang/String" "coder" "B" (.int (0 : Int32))) (P_2 : Fld Z h0 a2 "java/lang/String" "value" "[B" (.ref b)) (V_b : Arv Z h0 b k .byte (1 : Int32) [(.int (102 : Int32))] (.int 0)) (S_C : Sta Z h0 "java/lang/String" "COMPACT_STRINGS" "Z" (.int cs)) (hcs : ¬ (cs = (0 : Int32))) (S_F : Sta Z h0 "jdk/internal/util/Preconditions" "SIOOBE_FORMATTER" "Ljava/util/function/BiFunction;" vf) (hvf : vf.isRef = true) :
    MetFree l (⟨"com/example/nests/nests/model/Names", "check", "(Ljava/lang/String;Ljava/lang/String;)V"⟩ : MethodName) (head1 (Jvm.Cond.code (⟨"com/example/nests/nests/model/Names", "check", "(Ljava/lang/String;Ljava/lang/String;)V"⟩ : MethodName) prog_76_method_2_code 4 none :: ws) ({ frames := 4, cells := 0, slots := 0, locals := 53 } : Room)) (fun a U => a = #[(.ref a1), (.ref a2)] ∧ Z.Warmed39 U.vm ∧ U.heap = h0) (fun _ _ _ _ _ => True) (fun _ U o U' => ∃ v L, o = .returned v ∧ Q5 Z a1 a2 cs vf b k h0 n0 v U'.heap L ∧ FrameEnd U o U' L ({ frames := 4, cells := 0, slots := 0, locals := 53 } : Room).cells ({ frames := 4, cells := 0, slots := 0, locals := 53 } : Room).slots) := by
  refine MetFree.of_bodySF (plainFor_of_name pn_8) hisR ?_
  intro p e s m args below meth c s₁ Bd hml0 hP hK
  obtain ⟨rfl, hZ, hh⟩ := hP
  have hx := Bd.exec
  have hby := Bd.bytes
  have hml : c.maxLocals = 4 := hml0
  have hown : s.vm.findClass "com/example/nests/nests/model/Names" = some m.cls := findClass_of_methodNamed Bd.named
  have hnm := (name_of_methodNamed Bd.named Bd.method).1
  have X0 : Stand p l e ({ frames := 4, cells := 0, slots := 0, locals := 53 } : Room) s m #[(.ref a1), (.ref a2)] below meth c s₁ [] 0 0 := Stand.of_body Bd
  have e0 : s₁.heap = h0 := by rw [← hh, Bd.state]; rfl
  have N0 := Fr.nil n0
  skip
  show own_Go p e below s (Q5 Z a1 a2 cs vf b k h0 n0) ({ frames := 4, cells := 0, slots := 0, locals := 53 } : Room).cells ({ frames := 4, cells := 0, slots := 0, locals := 53 } : Room).slots _
  refine own_step (B := s₁.setTop (mkF m 0 #[.val (.ref a1), .val (.ref a2), .unset, .unset] [])) (fun t k => castTop (ef_5 m a1 a2) k) ?_
  obtain ⟨cl, Ar, -, Sz, Nz, Hs, -⟩ := V_b
  have hlen : cl.slots.size.toInt32 = (1 : Int32) := len_of Sz Nz
  have hin0 : ¬ ((0 : Int32) < 0 ∨ cl.slots.size ≤ ((0 : Int32)).toNatClampNeg) := inb_of Sz ⟨by decide, by decide⟩
  have hat0 : cl.slots[((0 : Int32)).toNatClampNeg]? = some (.int (102 : Int32)) := Has.at Hs hin0 rfl
  refine own_step (B := s₁.setTop (mkF m 1 #[.val (.ref a1), .val (.ref a2), .unset, .unset] [(.ref a2)])) (fun t k => ?_) ?_
  · show Steps p.tables e below (s₁.setTop (mkF m 0 #[.val (.ref a1), .val (.ref a2), .unset, .unset] [])) _
    refine XS.aloadN X0.here hx rfl (hb hby d5_0) rfl rfl ?_
    exact k
  obtain ⟨cq1, kq1, q1a, q1b, q1c⟩ := isOf hZ e0 P_0
  obtain ⟨_, _, ⟨T1, L1, k1, n1⟩, -, X1, ⟨Lc1, hQ1, l1, y1, z1⟩, st1⟩ := X0.virtualBack hx (y := (⟨"java/lang/String", "isEmpty", "()Z"⟩ : MethodName)) (z := (⟨"java/lang/String", "isEmpty", "()Z"⟩ : MethodName)) hown (mvT hZ (hw _ (List.mem_of_getElem? (i := 33) rfl))) (mvT hZ (hw _ (List.mem_of_getElem? (i := 34) rfl))) (notFace_of_selects (args := #[]) (mvT hZ (hw _ (List.mem_of_getElem? (i := 36) rfl)))) (mvT hZ (hw _ (List.mem_of_getElem? (i := 36) rfl))) (mvT hZ (hw _ (List.mem_of_getElem? (i := 35) rfl))) (by decide) (backOf (W := 0) (rm6 l Z a0 hw [] a2 b cl (1 : Int32) h0 n0 Z0 P_2 Ar hlen (by decide)) hZ (hw _ (List.mem_of_getElem? (i := 37) rfl)) (hw _ (List.mem_of_getElem? (i := 11) rfl)) (by decide) (by decide)) q1a q1c (g := (mkF m 1 #[.val (.ref a1), .val (.ref a2), .unset, .unset] [(.ref a2)])) rfl (by rw [hml]; rfl) (Steps.refl _) (argsL := []) (rest := []) (lenOf pd_6 rfl) rfl (by show 2 * 0 + _ ≤ _; exact Nat.le_of_eq rfl) (hb hby d5_1) (fun _ _ => ⟨rfl, e0, (by decide : 0 + 0 ≤ _), (by decide : 0 + 0 ≤ _)⟩)
  dsimp only [Pt.U, Pt.locs, Pt.cells, Pt.slots] at X1 l1 y1 z1 st1 hQ1
  subst l1 y1 z1
  obtain ⟨rfl, N1q, e1⟩ := hQ1
  have N1 := Fr.app N0 N1q
  refine own_via st1 ?_
  show own_Go p e below s _ _ _ (T1.setTop (mkF m 4 #[.val (.ref a1), .val (.ref a2), .unset, .unset] [(.int (0 : Int32))]))
  refine own_step (B := T1.setTop (mkF m 8 #[.val (.ref a1), .val (.ref a2), .unset, .unset] [(.ref a2)])) (fun t k => ?_) ?_
  · show Steps p.tables e below (T1.setTop (mkF m 4 #[.val (.ref a1), .val (.ref a2), .unset, .unset] [(.int (0 : Int32))])) _
    refine XS.ifNo X1.here hx rfl (hb hby d5_4) rfl ((if0 _ _).trans (teq (by decide : ((0 : Int32) = (0 : Int32)))).2) ?_
    show Steps p.tables e below (T1.setTop (mkF m 7 #[.val (.ref a1), .val (.ref a2), .unset, .unset] [])) _
    refine XS.aloadN X1.here hx rfl (hb hby d5_7) rfl rfl ?_
    exact k
  obtain ⟨cq2, kq2, q2a, q2b, q2c⟩ := isOf hZ e1 P_0
  obtain ⟨_, _, ⟨T2, L2, k2, n2⟩, -, X2, ⟨Lc2, hQ2, l2, y2, z2⟩, st2⟩ := X1.virtualBack hx (y := (⟨"java/lang/String", "length", "()I"⟩ : MethodName)) (z := (⟨"java/lang/String", "length", "()I"⟩ : MethodName)) hown (mvT hZ (hw _ (List.mem_of_getElem? (i := 39) rfl))) (mvT hZ (hw _ (List.mem_of_getElem? (i := 40) rfl))) (notFace_of_selects (args := #[]) (mvT hZ (hw _ (List.mem_of_getElem? (i := 42) rfl)))) (mvT hZ (hw _ (List.mem_of_getElem? (i := 42) rfl))) (mvT hZ (hw _ (List.mem_of_getElem? (i := 41) rfl))) (by decide) (backOf (W := 0) (rm7 l Z a0 hw [] a2 cs b cl (1 : Int32) h0 n0 Z0 P_0 P_1 P_2 Ar hlen S_C hcs) hZ (hw _ (List.mem_of_getElem? (i := 43) rfl)) (hw _ (List.mem_of_getElem? (i := 11) rfl)) (by decide) (by decide)) q2a q2c (g := (mkF m 8 #[.val (.ref a1), .val (.ref a2), .unset, .unset] [(.ref a2)])) rfl (by rw [hml]; rfl) (Steps.refl _) (argsL := []) (rest := []) (lenOf pd_9 rfl) rfl (by show 2 * 0 + _ ≤ _; exact Nat.le_of_eq rfl) (hb hby d5_8) (fun _ _ => ⟨rfl, e1, (by decide : 0 + 0 ≤ _), (by decide : 0 + 0 ≤ _)⟩)
  dsimp only [Pt.U, Pt.locs, Pt.cells, Pt.slots] at X2 l2 y2 z2 st2 hQ2
  subst l2 y2 z2
  obtain ⟨rfl, N2q, e2⟩ := hQ2
  have N2 := Fr.app N1 N2q
  refine own_via st2 ?_
  show own_Go p e below s _ _ _ (T2.setTop (mkF m 11 #[.val (.ref a1), .val (.ref a2), .unset, .unset] [(.int (1 : Int32))]))
  refine own_step (B := T2.setTop (mkF m 38 #[.val (.ref a1), .val (.ref a2), .val (.int (0 : Int32)), .unset] [(.ref a2), (.int (0 : Int32))])) (fun t k => ?_) ?_
  · show Steps p.tables e below (T2.setTop (mkF m 11 #[.val (.ref a1), .val (.ref a2), .unset, .unset] [(.int (1 : Int32))])) _
    refine XS.bipush X2.here hx rfl (hb hby d5_11) ?_
    show Steps p.tables e below (T2.setTop (mkF m 13 #[.val (.ref a1), .val (.ref a2), .unset, .unset] [(.int (64 : Int32)), (.int (1 : Int32))])) _
    refine XS.icmpYes X2.here hx rfl (pc0 := 13) (pc' := 34) rfl (hb hby d5_13) rfl (flt (by decide : ¬ ((64 : Int32) < (1 : Int32)))).2.2.2 (by decide) (by decide) ?_
    show Steps p.tables e below (T2.setTop (mkF m 34 #[.val (.ref a1), .val (.ref a2), .unset, .unset] [])) _
    refine XS.iconst X2.here hx rfl (hb hby d5_34) ?_
    show Steps p.tables e below (T2.setTop (mkF m 35 #[.val (.ref a1), .val (.ref a2), .unset, .unset] [(.int (0 : Int32))])) _
    refine XS.istoreN X2.here hx rfl (hb hby d5_35) rfl (l' := #[.val (.ref a1), .val (.ref a2), .val (.int (0 : Int32)), .unset]) rfl ?_
    show Steps p.tables e below (T2.setTop (mkF m 36 #[.val (.ref a1), .val (.ref a2), .val (.int (0 : Int32)), .unset] [])) _
    refine XS.iloadN X2.here hx rfl (hb hby d5_36) rfl ?_
    show Steps p.tables e below (T2.setTop (mkF m 37 #[.val (.ref a1), .val (.ref a2), .val (.int (0 : Int32)), .unset] [(.int (0 : Int32))])) _
    refine XS.aloadN X2.here hx rfl (hb hby d5_37) rfl rfl ?_
    exact k
  obtain ⟨cq3, kq3, q3a, q3b, q3c⟩ := isOf hZ e2 P_0
  obtain ⟨_, _, ⟨T3, L3, k3, n3⟩, -, X3, ⟨Lc3, hQ3, l3, y3, z3⟩, st3⟩ := X2.virtualBack hx (y := (⟨"java/lang/String", "length", "()I"⟩ : MethodName)) (z := (⟨"java/lang/String", "length", "()I"⟩ : MethodName)) hown (mvT hZ (hw _ (List.mem_of_getElem? (i := 39) rfl))) (mvT hZ (hw _ (List.mem_of_getElem? (i := 40) rfl))) (notFace_of_selects (args := #[]) (mvT hZ (hw _ (List.mem_of_getElem? (i := 42) rfl)))) (mvT hZ (hw _ (List.mem_of_getElem? (i := 42) rfl))) (mvT hZ (hw _ (List.mem_of_getElem? (i := 41) rfl))) (by decide) (backOf (W := 1) (rm7 l Z a0 hw [] a2 cs b cl (1 : Int32) h0 n0 Z0 P_0 P_1 P_2 Ar hlen S_C hcs) hZ (hw _ (List.mem_of_getElem? (i := 43) rfl)) (hw _ (List.mem_of_getElem? (i := 11) rfl)) (by decide) (by decide)) q3a q3c (g := (mkF m 38 #[.val (.ref a1), .val (.ref a2), .val (.int (0 : Int32)), .unset] [(.ref a2), (.int (0 : Int32))])) rfl (by rw [hml]; rfl) (Steps.refl _) (argsL := []) (rest := [(.int (0 : Int32))]) (lenOf pd_9 rfl) rfl (by show 2 * 0 + _ ≤ _; exact Nat.le_of_eq rfl) (hb hby d5_38) (fun _ _ => ⟨rfl, e2, (by decide : 0 + 0 ≤ _), (by decide : 0 + 0 ≤ _)⟩)
  dsimp only [Pt.U, Pt.locs, Pt.cells, Pt.slots] at X3 l3 y3 z3 st3 hQ3
  subst l3 y3 z3
  obtain ⟨rfl, N3q, e3⟩ := hQ3
  have N3 := Fr.app N2 N3q
  refine own_via st3 ?_
  show own_Go p e below s _ _ _ (T3.setTop (mkF m 41 #[.val (.ref a1), .val (.ref a2), .val (.int (0 : Int32)), .unset] [(.int (1 : Int32)), (.int (0 : Int32))]))
  refine own_step (B := T3.setTop (mkF m 46 #[.val (.ref a1), .val (.ref a2), .val (.int (0 : Int32)), .unset] [(.int (0 : Int32)), (.ref a2)])) (fun t k => ?_) ?_
  · show Steps p.tables e below (T3.setTop (mkF m 41 #[.val (.ref a1), .val (.ref a2), .val (.int (0 : Int32)), .unset] [(.int (1 : Int32)), (.int (0 : Int32))])) _
    refine XS.icmpNo X3.here hx rfl (hb hby d5_41) rfl (tlt (by decide : ((0 : Int32) < (1 : Int32)))).2.1 ?_
    show Steps p.tables e below (T3.setTop (mkF m 44 #[.val (.ref a1), .val (.ref a2), .val (.int (0 : Int32)), .unset] [])) _
    refine XS.aloadN X3.here hx rfl (hb hby d5_44) rfl rfl ?_
    show Steps p.tables e below (T3.setTop (mkF m 45 #[.val (.ref a1), .val (.ref a2), .val (.int (0 : Int32)), .unset] [(.ref a2)])) _
    refine XS.iloadN X3.here hx rfl (hb hby d5_45) rfl ?_
    exact k
  obtain ⟨cq4, kq4, q4a, q4b, q4c⟩ := isOf hZ e3 P_0
  obtain ⟨_, _, ⟨T4, L4, k4, n4⟩, -, X4, ⟨Lc4, hQ4, l4, y4, z4⟩, st4⟩ := X3.virtualBack hx (y := (⟨"java/lang/String", "charAt", "(I)C"⟩ : MethodName)) (z := (⟨"java/lang/String", "charAt", "(I)C"⟩ : MethodName)) hown (mvT hZ (hw _ (List.mem_of_getElem? (i := 51) rfl))) (mvT hZ (hw _ (List.mem_of_getElem? (i := 52) rfl))) (notFace_of_selects (args := #[]) (mvT hZ (hw _ (List.mem_of_getElem? (i := 54) rfl)))) (mvT hZ (hw _ (List.mem_of_getElem? (i := 54) rfl))) (mvT hZ (hw _ (List.mem_of_getElem? (i := 53) rfl))) (by decide) (backOf (W := 0) (rm9 l Z a0 hw [] a2 (0 : Int32) cs vf b cl (1 : Int32) (102 : Int32) h0 n0 Z0 P_0 P_1 P_2 Ar hlen (by decide) (by decide) hin0 hat0 S_C hcs S_F hvf) hZ (hw _ (List.mem_of_getElem? (i := 55) rfl)) (hw _ (List.mem_of_getElem? (i := 11) rfl)) (by decide) (by decide)) q4a q4c (g := (mkF m 46 #[.val (.ref a1), .val (.ref a2), .val (.int (0 : Int32)), .unset] [(.int (0 : Int32)), (.ref a2)])) rfl (by rw [hml]; rfl) (Steps.refl _) (argsL := [(.int (0 : Int32))]) (rest := []) (lenOf pd_10 rfl) rfl (by show 2 * 0 + _ ≤ _; exact Nat.le_of_eq rfl) (hb hby d5_46) (fun _ _ => ⟨rfl, e3, (by decide : 0 + 0 ≤ _), (by decide : 0 + 0 ≤ _)⟩)
  dsimp only [Pt.U, Pt.locs, Pt.cells, Pt.slots] at X4 l4 y4 z4 st4 hQ4
  subst l4 y4 z4
  obtain ⟨rfl, N4q, e4⟩ := hQ4
  have N4 := Fr.app N3 N4q
  refine own_via st4 ?_
  show own_Go p e below s _ _ _ (T4.setTop (mkF m 49 #[.val (.ref a1), .val (.ref a2), .val (.int (0 : Int32)), .unset] [(.int (own_ch (102 : Int32)))]))
  refine own_step (B := T4.setTop (mkF m 51 #[.val (.ref a1), .val (.ref a2), .val (.int (0 : Int32)), .val (.int (own_ch (102 : Int32)))] [(.int (own_ch (102 : Int32)))])) (fun t k => ?_) ?_
  · show Steps p.tables e below (T4.setTop (mkF m 49 #[.val (.ref a1), .val (.ref a2), .val (.int (0 : Int32)), .unset] [(.int (own_ch (102 : Int32)))])) _
    refine XS.istoreN X4.here hx rfl (hb hby d5_49) rfl (l' := #[.val (.ref a1), .val (.ref a2), .val (.int (0 : Int32)), .val (.int (own_ch (102 : Int32)))]) rfl ?_
    show Steps p.tables e below (T4.setTop (mkF m 50 #[.val (.ref a1), .val (.ref a2), .val (.int (0 : Int32)), .val (.int (own_ch (102 : Int32)))] [])) _
    refine XS.iloadN X4.here hx rfl (hb hby d5_50) rfl ?_
    exact k
  obtain ⟨_, _, ⟨T5, L5, k5, n5⟩, -, X5, ⟨Lc5, hQ5, l5, y5, z5⟩, st5⟩ := Jvm.LawKit.callS X4 hx (y := (⟨"com/example/nests/nests/model/Names", "isNameChar", "(C)Z"⟩ : MethodName)) hown (mvT hZ (hw _ (List.mem_of_getElem? (i := 73) rfl))) (mvT hZ (hw _ (List.mem_of_getElem? (i := 74) rfl))) (mvT hZ (hw _ (List.mem_of_getElem? (i := 31) rfl))) (mvT hZ (hw _ (List.mem_of_getElem? (i := 75) rfl))) (by decide) (backOf (W := 0) (rm14 l Z a0 hw [] (own_ch (102 : Int32))  h0 n0 Z0 ) hZ (hw _ (List.mem_of_getElem? (i := 75) rfl)) (hw _ (List.mem_of_getElem? (i := 31) rfl)) (by decide) (by decide)) (g := (mkF m 51 #[.val (.ref a1), .val (.ref a2), .val (.int (0 : Int32)), .val (.int (own_ch (102 : Int32)))] [(.int (own_ch (102 : Int32)))])) rfl (by rw [hml]; rfl) (argsL := [(.int (own_ch (102 : Int32)))]) (rest := []) (lenOf pd_11 rfl) rfl (by show 2 * 0 + _ ≤ _; exact Nat.le_of_eq rfl) (hb hby d5_51) (fun _ _ => ⟨rfl, e4, (by decide : 0 + 0 ≤ _), (by decide : 0 + 0 ≤ _)⟩)
  dsimp only [Pt.U, Pt.locs, Pt.cells, Pt.slots] at X5 l5 y5 z5 st5 hQ5
  subst l5 y5 z5
  obtain ⟨rfl, N5q, e5⟩ := hQ5
  have N5 := Fr.app N4 N5q
  refine own_step st5 ?_
  show own_Go p e below s _ _ _ (T5.setTop (mkF m 54 #[.val (.ref a1), .val (.ref a2), .val (.int (0 : Int32)), .val (.int (own_ch (102 : Int32)))] [(.int (own_b (own_NC (own_ch (102 : Int32)))))]))
  refine own_step (B := T5.setTop (mkF m 95 #[.val (.ref a1), .val (.ref a2), .val (.int ((0 : Int32) + (1 : Int32))), .val (.int (own_ch (102 : Int32)))] [])) (fun t k => ?_) ?_
  · show Steps p.tables e below (T5.setTop (mkF m 54 #[.val (.ref a1), .val (.ref a2), .val (.int (0 : Int32)), .val (.int (own_ch (102 : Int32)))] [(.int (own_b (own_NC (own_ch (102 : Int32)))))])) _
    refine XS.ifYes X5.here hx rfl (pc0 := 54) (pc' := 92) rfl (hb hby d5_54) rfl ((if0 _ _).trans (feq (by decide)).2) (by decide) (by decide) ?_
    show Steps p.tables e below (T5.setTop (mkF m 92 #[.val (.ref a1), .val (.ref a2), .val (.int (0 : Int32)), .val (.int (own_ch (102 : Int32)))] [])) _
    refine XS.iinc X5.here hx rfl (hb hby d5_92) rfl (l' := #[.val (.ref a1), .val (.ref a2), .val (.int ((0 : Int32) + (1 : Int32))), .val (.int (own_ch (102 : Int32)))]) rfl ?_
    exact k
  show own_Go p e below s _ _ _ (T5.setTop (mkF m 95 #[.val (.ref a1), .val (.ref a2), .val (.int (1 : Int32)), .val (.int (own_ch (102 : Int32)))] []))
  refine own_step (B := T5.setTop (mkF m 38 #[.val (.ref a1), .val (.ref a2), .val (.int (1 : Int32)), .val (.int (own_ch (102 : Int32)))] [(.ref a2), (.int (1 : Int32))])) (fun t k => ?_) ?_
  · show Steps p.tables e below (T5.setTop (mkF m 95 #[.val (.ref a1), .val (.ref a2), .val (.int (1 : Int32)), .val (.int (own_ch (102 : Int32)))] [])) _
    refine XS.goto X5.here hx rfl (pc0 := 95) (pc' := 36) rfl (hb hby d5_95) (by decide) (by decide) ?_
    show Steps p.tables e below (T5.setTop (mkF m 36 #[.val (.ref a1), .val (.ref a2), .val (.int (1 : Int32)), .val (.int (own_ch (102 : Int32)))] [])) _
    refine XS.iloadN X5.here hx rfl (hb hby d5_36) rfl ?_
    show Steps p.tables e below (T5.setTop (mkF m 37 #[.val (.ref a1), .val (.ref a2), .val (.int (1 : Int32)), .val (.int (own_ch (102 : Int32)))] [(.int (1 : Int32))])) _
    refine XS.aloadN X5.here hx rfl (hb hby d5_37) rfl rfl ?_
    exact k
  obtain ⟨cq6, kq6, q6a, q6b, q6c⟩ := isOf hZ e5 P_0
  obtain ⟨_, _, ⟨T6, L6, k6, n6⟩, -, X6, ⟨Lc6, hQ6, l6, y6, z6⟩, st6⟩ := X5.virtualBack hx (y := (⟨"java/lang/String", "length", "()I"⟩ : MethodName)) (z := (⟨"java/lang/String", "length", "()I"⟩ : MethodName)) hown (mvT hZ (hw _ (List.mem_of_getElem? (i := 39) rfl))) (mvT hZ (hw _ (List.mem_of_getElem? (i := 40) rfl))) (notFace_of_selects (args := #[]) (mvT hZ (hw _ (List.mem_of_getElem? (i := 42) rfl)))) (mvT hZ (hw _ (List.mem_of_getElem? (i := 42) rfl))) (mvT hZ (hw _ (List.mem_of_getElem? (i := 41) rfl))) (by decide) (backOf (W := 1) (rm7 l Z a0 hw [] a2 cs b cl (1 : Int32) h0 n0 Z0 P_0 P_1 P_2 Ar hlen S_C hcs) hZ (hw _ (List.mem_of_getElem? (i := 43) rfl)) (hw _ (List.mem_of_getElem? (i := 11) rfl)) (by decide) (by decide)) q6a q6c (g := (mkF m 38 #[.val (.ref a1), .val (.ref a2), .val (.int (1 : Int32)), .val (.int (own_ch (102 : Int32)))] [(.ref a2), (.int (1 : Int32))])) rfl (by rw [hml]; rfl) (Steps.refl _) (argsL := []) (rest := [(.int (1 : Int32))]) (lenOf pd_9 rfl) rfl (by show 2 * 0 + _ ≤ _; exact Nat.le_of_eq rfl) (hb hby d5_38) (fun _ _ => ⟨rfl, e5, (by decide : 0 + 0 ≤ _), (by decide : 0 + 0 ≤ _)⟩)
  dsimp only [Pt.U, Pt.locs, Pt.cells, Pt.slots] at X6 l6 y6 z6 st6 hQ6
  subst l6 y6 z6
  obtain ⟨rfl, N6q, e6⟩ := hQ6
  have N6 := Fr.app N5 N6q
  refine own_via st6 ?_
  show own_Go p e below s _ _ _ (T6.setTop (mkF m 41 #[.val (.ref a1), .val (.ref a2), .val (.int (1 : Int32)), .val (.int (own_ch (102 : Int32)))] [(.int (1 : Int32)), (.int (1 : Int32))]))
  refine own_step (B := T6.setTop (mkF m 98 #[.val (.ref a1), .val (.ref a2), .val (.int (1 : Int32)), .val (.int (own_ch (102 : Int32)))] [])) (fun t k => ?_) ?_
  · show Steps p.tables e below (T6.setTop (mkF m 41 #[.val (.ref a1), .val (.ref a2), .val (.int (1 : Int32)), .val (.int (own_ch (102 : Int32)))] [(.int (1 : Int32)), (.int (1 : Int32))])) _
    refine XS.icmpYes X6.here hx rfl (pc0 := 41) (pc' := 98) rfl (hb hby d5_41) rfl (flt (by decide : ¬ ((1 : Int32) < (1 : Int32)))).2.1 (by decide) (by decide) ?_
    exact k
  exact own_retV X6 hx Bd.notSynchronized Bd.returns (hb hby d5_98) ⟨rfl, N6, e6⟩ (by decide) (by decide)
theorem d4_0 : decode prog_68_method_3_code 0 = .ok (.ldc 51, 2) := by decide +kernel
theorem d4_2 : decode prog_68_method_3_code 2 = .ok (.aload_n 0, 1) := by decide +kernel
theorem d4_3 : decode prog_68_method_3_code 3 = .ok (.invokestatic 52, 3) := by decide +kernel
theorem d4_6 : decode prog_68_method_3_code 6 = .ok (.return_, 1) := by decide +kernel
theorem pd_12 : parseMethodDescriptor "(Ljava/lang/String;Ljava/lang/String;)V" = some ⟨[(.object "java/lang/String"), (.object "java/lang/String")], none⟩ := by decide +kernel
theorem pn_13 : plainName "com/example/nests/nests/model/Cell" = true := by first | (simp [plainName, overriddenIn]; done) | decide +kernel
theorem ef_4 (m : MethodId) (a1 : Addr) : entryFrame m #[(.ref a1)] 1 = mkF m 0 #[.val (.ref a1)] [] := by first | (simp [entryFrame, mkF, argsToLocals, Value.category]; done) | rfl
def Q4 (Z : State) (a1 : Addr) (cs : Int32) (vf : Value) (b : Addr) (k : ClassId) (h0 : Heap) (n0 : Nat) (v : Option Value) (h : Heap) (L : List Loc) : Prop := v = none ∧ Fr n0 L ∧ Keep h0 h []
set_option maxRecDepth 65536 in
set_option maxHeartbeats 40000000 in
theorem rm4 (l : Launch) (Z : State) (a0 : Array Value) (hw : ∀ d ∈ tables_1, d.before a0 Z = true) (ws : List Jvm.Cond) (a1 : Addr) (cs : Int32) (vf : Value) (b : Addr) (k : ClassId) (h0 : Heap) (n0 : Nat) (Z0 : n0 ≤ h0.size) (P_0 : Exa Z h0 a1 "java/lang/String") (P_1 : Fld Z h0 a1 "java/lang/String" "coder" "B" (.int (0 : Int32))) (P_2 : Fld Z h0 a1 "java/lang/String" "value" "[B" (.ref b)) (V_b : Arv Z h0 b k .byte (1 : Int32) [(.int (102 : Int32))] (.int 0)) (S_C : Sta Z h0 "java/lang/String" "COMPACT_STRINGS" "Z" (.int cs)) (hcs : ¬ (cs = (0 : Int32))) (S_F : Sta Z h0 "jdk/internal/util/Preconditions" "SIOOBE_FORMATTER" "Ljava/util/function/BiFunction;" vf) (hvf : vf.isRef = true) :
    MetFree l (⟨"com/example/nests/nests/model/Cell", "checkFamily", "(Ljava/lang/String;)V"⟩ : MethodName) (head1 (Jvm.Cond.code (⟨"com/example/nests/nests/model/Cell", "checkFamily", "(Ljava/lang/String;)V"⟩ : MethodName) prog_68_method_3_code 1 none :: ws) ({ frames := 5, cells := 2, slots := 28, locals := 68 } : Room)) (fun a U => a = #[(.ref a1)] ∧ Z.Warmed39 U.vm ∧ U.heap = h0) (fun _ _ _ _ _ => True) (fun _ U o U' => ∃ v L, o = .returned v ∧ Q4 Z a1 cs vf b k h0 n0 v U'.heap L ∧ ReturnedEndW U o U' L ({ frames := 5, cells := 2, slots := 28, locals := 68 } : Room).cells ({ frames := 5, cells := 2, slots := 28, locals := 68 } : Room).slots) := by
  refine MetFree.of_bodySF (plainFor_of_name pn_13) hisR ?_
  intro p e s m args below meth c s₁ Bd hml0 hP hK
  obtain ⟨rfl, hZ, hh⟩ := hP
  have hx := Bd.exec
  have hby := Bd.bytes
  have hml : c.maxLocals = 1 := hml0
  have hown : s.vm.findClass "com/example/nests/nests/model/Cell" = some m.cls := findClass_of_methodNamed Bd.named
  have hnm := (name_of_methodNamed Bd.named Bd.method).1
  have X0 : Stand p l e ({ frames := 5, cells := 2, slots := 28, locals := 68 } : Room) (s.setVm s.vm) m #[(.ref a1)] below meth c s₁ [] 0 0 := Stand.of_body Bd
  have e0 : s₁.heap = h0 := by rw [← hh, Bd.state]; rfl
  have N0 := Fr.nil n0
  have hS0 : s.Since s.vm s.heap.size := (State.WarmedH.refl s).since _
  have hk0 : s.heap.size ≤ h0.size := by rw [hh]; exact Nat.le_refl _
  show own_GoW p e below s (Q4 Z a1 cs vf b k h0 n0) ({ frames := 5, cells := 2, slots := 28, locals := 68 } : Room).cells ({ frames := 5, cells := 2, slots := 28, locals := 68 } : Room).slots _
  refine own_stepW (B := s₁.setTop (mkF m 0 #[.val (.ref a1)] [])) (fun t k => castTop (ef_4 m a1) k) ?_
  have KK0 : Keep h0 h0 [] := Keep.refl h0 _
  have wS : ∀ a ∈ Bundle.stringAtoms, a.before a0 Z = true := by
    intro a ha
    simp only [Bundle.stringAtoms, Bundle.sN, List.mem_cons, List.not_mem_nil, or_false] at ha
    rcases ha with rfl | rfl | rfl | rfl | rfl | rfl | rfl
    · exact (hw _ (List.mem_of_getElem? (i := 11) rfl))
    · exact (hw _ (List.mem_of_getElem? (i := 12) rfl))
    · exact (hw _ (List.mem_of_getElem? (i := 13) rfl))
    · exact (hw _ (List.mem_of_getElem? (i := 14) rfl))
    · exact (hw _ (List.mem_of_getElem? (i := 15) rfl))
    · exact (hw _ (List.mem_of_getElem? (i := 16) rfl))
    · exact (hw _ (List.mem_of_getElem? (i := 17) rfl))
  obtain ⟨sa1, T1, h1, kn1, X1, e1, E1, hS1, hk1, hZ, hown, st1⟩ := ldcS X0 hx hZ hown (hw _ (List.mem_of_getElem? (i := 28) rfl)) wS e0 hS0 hk0 (g := (mkF m 0 #[.val (.ref a1)] [])) rfl (hb hby d4_0) (n := 24) (by decide) (by decide) (by decide) (by decide)
  have K1 : Keep h0 h1 [] := KK0.ext E1
  refine own_stepW st1 ?_
  show own_GoW p e below s _ _ _ (T1.setTop (mkF m 2 #[.val (.ref a1)] [(.ref sa1)]))
  refine own_stepW (B := T1.setTop (mkF m 3 #[.val (.ref a1)] [(.ref a1), (.ref sa1)])) (fun t k => ?_) ?_
  · show Steps p.tables e below (T1.setTop (mkF m 2 #[.val (.ref a1)] [(.ref sa1)])) _
    refine XS.aloadN X1.here hx rfl (hb hby d4_2) rfl rfl ?_
    exact k
  obtain ⟨_, _, ⟨T2, L2, k2, n2⟩, -, X2, ⟨Lc2, hQ2, l2, y2, z2⟩, st2⟩ := Jvm.LawKit.callS X1 hx (y := (⟨"com/example/nests/nests/model/Names", "check", "(Ljava/lang/String;Ljava/lang/String;)V"⟩ : MethodName)) hown (mvT hZ (hw _ (List.mem_of_getElem? (i := 29) rfl))) (mvT hZ (hw _ (List.mem_of_getElem? (i := 30) rfl))) (mvT hZ (hw _ (List.mem_of_getElem? (i := 31) rfl))) (mvT hZ (hw _ (List.mem_of_getElem? (i := 32) rfl))) (by decide) (backOf (W := 0) (rm5 l Z a0 hw [] sa1 a1 cs vf b k h1 n0 (Nat.le_trans Z0 E1.1) (P_0.ext E1) (P_1.ext E1) (P_2.ext E1) (V_b.ext E1) (S_C.ext E1) hcs (S_F.ext E1) hvf) hZ (hw _ (List.mem_of_getElem? (i := 32) rfl)) (hw _ (List.mem_of_getElem? (i := 31) rfl)) (by decide) (by decide)) (g := (mkF m 3 #[.val (.ref a1)] [(.ref a1), (.ref sa1)])) rfl (by rw [hml]; rfl) (argsL := [(.ref sa1), (.ref a1)]) (rest := []) (lenOf pd_12 rfl) rfl (by show 2 * 0 + _ ≤ _; exact Nat.le_of_eq rfl) (hb hby d4_3) (fun _ _ => ⟨rfl, e1, (by decide : 2 + 0 ≤ _), (by decide : 28 + 0 ≤ _)⟩)
  dsimp only [Pt.U, Pt.locs, Pt.cells, Pt.slots] at X2 l2 y2 z2 st2 hQ2
  subst l2 y2 z2
  obtain ⟨rfl, N2q, e2⟩ := hQ2
  have N2 := Fr.app N0 N2q
  refine own_stepW st2 ?_
  show own_GoW p e below s _ _ _ (T2.setTop (mkF m 6 #[.val (.ref a1)] []))
  exact own_retVW X2 hS1 (by rw [e2]; exact hk1) hx Bd.notSynchronized Bd.returns (hb hby d4_6) ⟨rfl, N2, by rw [e2]; exact K1⟩ (by decide) (by decide)
theorem d1_0 : decode jdk_29_method_65_code 0 = .ok (.iload_n 0, 1) := by decide +kernel
theorem d1_1 : decode jdk_29_method_65_code 1 = .ok (.iload_n 1, 1) := by decide +kernel
theorem d1_2 : decode jdk_29_method_65_code 2 = .ok (.if_icmp .lt 7, 3) := by decide +kernel
theorem d1_5 : decode jdk_29_method_65_code 5 = .ok (.iload_n 0, 1) := by decide +kernel
theorem d1_6 : decode jdk_29_method_65_code 6 = .ok (.goto 4, 3) := by decide +kernel
theorem d1_9 : decode jdk_29_method_65_code 9 = .ok (.iload_n 1, 1) := by decide +kernel
theorem d1_10 : decode jdk_29_method_65_code 10 = .ok (.ireturn, 1) := by decide +kernel
theorem ef_1 (m : MethodId) (p1 : Int32) (p2 : Int32) : entryFrame m #[(.int p1), (.int p2)] 2 = mkF m 0 #[.val (.int p1), .val (.int p2)] [] := by first | (simp [entryFrame, mkF, argsToLocals, Value.category]; done) | rfl
def Q1 (Z : State) (p1 : Int32) (p2 : Int32)  (h0 : Heap) (n0 : Nat) (v : Option Value) (h : Heap) (L : List Loc) : Prop := v = some (.int (if p1 < p2 then p2 else p1)) ∧ Fr n0 L ∧ h = h0
set_option maxRecDepth 65536 in
set_option maxHeartbeats 40000000 in
theorem rm1 (l : Launch) (Z : State) (a0 : Array Value) (hw : ∀ d ∈ tables_1, d.before a0 Z = true) (ws : List Jvm.Cond) (p1 : Int32) (p2 : Int32)  (h0 : Heap) (n0 : Nat) (Z0 : n0 ≤ h0.size) :
    MetFree l (⟨"java/lang/Math", "max", "(II)I"⟩ : MethodName) (head1 (Jvm.Cond.code (⟨"java/lang/Math", "max", "(II)I"⟩ : MethodName) jdk_29_method_65_code 2 (some .int) :: ws) ({ frames := 0, cells := 0, slots := 0, locals := 0 } : Room)) (fun a U => a = #[(.int p1), (.int p2)] ∧ Z.Warmed39 U.vm ∧ U.heap = h0) (fun _ _ _ _ _ => True) (fun _ U o U' => ∃ v L, o = .returned v ∧ Q1 Z p1 p2  h0 n0 v U'.heap L ∧ FrameEnd U o U' L ({ frames := 0, cells := 0, slots := 0, locals := 0 } : Room).cells ({ frames := 0, cells := 0, slots := 0, locals := 0 } : Room).slots) := by
  refine MetFree.of_bodySF (Jvm.Free.JP.mathPlain rfl (by decide +kernel)) hisR ?_
  intro p e s m args below meth c s₁ Bd hml0 hP hK
  obtain ⟨rfl, hZ, hh⟩ := hP
  have hx := Bd.exec
  have hby := Bd.bytes
  have hml : c.maxLocals = 2 := hml0
  have hown : s.vm.findClass "java/lang/Math" = some m.cls := findClass_of_methodNamed Bd.named
  have hnm := (name_of_methodNamed Bd.named Bd.method).1
  have X0 : Stand p l e ({ frames := 0, cells := 0, slots := 0, locals := 0 } : Room) s m #[(.int p1), (.int p2)] below meth c s₁ [] 0 0 := Stand.of_body Bd
  have e0 : s₁.heap = h0 := by rw [← hh, Bd.state]; rfl
  have N0 := Fr.nil n0
  skip
  show own_Go p e below s (Q1 Z p1 p2  h0 n0) ({ frames := 0, cells := 0, slots := 0, locals := 0 } : Room).cells ({ frames := 0, cells := 0, slots := 0, locals := 0 } : Room).slots _
  refine own_step (B := s₁.setTop (mkF m 0 #[.val (.int p1), .val (.int p2)] [])) (fun t k => castTop (ef_1 m p1 p2) k) ?_
  refine own_step (B := s₁.setTop (mkF m 2 #[.val (.int p1), .val (.int p2)] [(.int p2), (.int p1)])) (fun t k => ?_) ?_
  · show Steps p.tables e below (s₁.setTop (mkF m 0 #[.val (.int p1), .val (.int p2)] [])) _
    refine XS.iloadN X0.here hx rfl (hb hby d1_0) rfl ?_
    show Steps p.tables e below (s₁.setTop (mkF m 1 #[.val (.int p1), .val (.int p2)] [(.int p1)])) _
    refine XS.iloadN X0.here hx rfl (hb hby d1_1) rfl ?_
    exact k
  by_cases hc2 : p1 < p2
  · refine own_step (B := s₁.setTop (mkF m 10 #[.val (.int p1), .val (.int p2)] [(.int p2)])) (fun t k => ?_) ?_
    · show Steps p.tables e below (s₁.setTop (mkF m 2 #[.val (.int p1), .val (.int p2)] [(.int p2), (.int p1)])) _
      refine XS.icmpYes X0.here hx rfl (pc0 := 2) (pc' := 9) rfl (hb hby d1_2) rfl (tlt hc2).1 (by decide) (by decide) ?_
      show Steps p.tables e below (s₁.setTop (mkF m 9 #[.val (.int p1), .val (.int p2)] [])) _
      refine XS.iloadN X0.here hx rfl (hb hby d1_9) rfl ?_
      exact k
    exact own_retI X0 hx Bd.notSynchronized Bd.returns (hb hby d1_10) ⟨by simp [hc2], N0, e0⟩ (by decide) (by decide)
  · refine own_step (B := s₁.setTop (mkF m 10 #[.val (.int p1), .val (.int p2)] [(.int p1)])) (fun t k => ?_) ?_
    · show Steps p.tables e below (s₁.setTop (mkF m 2 #[.val (.int p1), .val (.int p2)] [(.int p2), (.int p1)])) _
      refine XS.icmpNo X0.here hx rfl (hb hby d1_2) rfl (flt hc2).1 ?_
      show Steps p.tables e below (s₁.setTop (mkF m 5 #[.val (.int p1), .val (.int p2)] [])) _
      refine XS.iloadN X0.here hx rfl (hb hby d1_5) rfl ?_
      show Steps p.tables e below (s₁.setTop (mkF m 6 #[.val (.int p1), .val (.int p2)] [(.int p1)])) _
      refine XS.goto X0.here hx rfl (pc0 := 6) (pc' := 10) rfl (hb hby d1_6) (by decide) (by decide) ?_
      exact k
    exact own_retI X0 hx Bd.notSynchronized Bd.returns (hb hby d1_10) ⟨by simp [hc2], N0, e0⟩ (by decide) (by decide)
theorem d2_0 : decode prog_71_method_2_code 0 = .ok (.aload_n 0, 1) := by decide +kernel
theorem d2_1 : decode prog_71_method_2_code 1 = .ok (.invokespecial 14, 3) := by decide +kernel
theorem d2_4 : decode prog_71_method_2_code 4 = .ok (.aload_n 1, 1) := by decide +kernel
theorem d2_5 : decode prog_71_method_2_code 5 = .ok (.invokestatic 19, 3) := by decide +kernel
theorem d2_8 : decode prog_71_method_2_code 8 = .ok (.iload_n 2, 1) := by decide +kernel
theorem d2_9 : decode prog_71_method_2_code 9 = .ok (.iconst 1, 1) := by decide +kernel
theorem d2_10 : decode prog_71_method_2_code 10 = .ok (.if_icmp .ge 18, 3) := by decide +kernel
theorem d2_13 : decode prog_71_method_2_code 13 = .ok (.new 25, 3) := by decide +kernel
theorem d2_16 : decode prog_71_method_2_code 16 = .ok (.dup, 1) := by decide +kernel
theorem d2_17 : decode prog_71_method_2_code 17 = .ok (.aload_n 1, 1) := by decide +kernel
theorem d2_18 : decode prog_71_method_2_code 18 = .ok (.iload_n 2, 1) := by decide +kernel
theorem d2_24 : decode prog_71_method_2_code 24 = .ok (.invokespecial 31, 3) := by decide +kernel
theorem d2_27 : decode prog_71_method_2_code 27 = .ok (.athrow, 1) := by decide +kernel
theorem d2_28 : decode prog_71_method_2_code 28 = .ok (.lload_n 3, 1) := by decide +kernel
theorem d2_29 : decode prog_71_method_2_code 29 = .ok (.ldc2_w 8, 3) := by decide +kernel
theorem d2_32 : decode prog_71_method_2_code 32 = .ok (.lcmp, 1) := by decide +kernel
theorem d2_33 : decode prog_71_method_2_code 33 = .ok (.ifCond .eq 32, 3) := by decide +kernel
theorem d2_36 : decode prog_71_method_2_code 36 = .ok (.lload_n 3, 1) := by decide +kernel
theorem d2_37 : decode prog_71_method_2_code 37 = .ok (.lconst 1, 1) := by decide +kernel
theorem d2_38 : decode prog_71_method_2_code 38 = .ok (.lcmp, 1) := by decide +kernel
theorem d2_39 : decode prog_71_method_2_code 39 = .ok (.ifCond .lt 11, 3) := by decide +kernel
theorem d2_42 : decode prog_71_method_2_code 42 = .ok (.lload_n 3, 1) := by decide +kernel
theorem d2_43 : decode prog_71_method_2_code 43 = .ok (.ldc2_w 33, 3) := by decide +kernel
theorem d2_46 : decode prog_71_method_2_code 46 = .ok (.lcmp, 1) := by decide +kernel
theorem d2_47 : decode prog_71_method_2_code 47 = .ok (.ifCond .le 18, 3) := by decide +kernel
theorem d2_50 : decode prog_71_method_2_code 50 = .ok (.new 25, 3) := by decide +kernel
theorem d2_53 : decode prog_71_method_2_code 53 = .ok (.dup, 1) := by decide +kernel
theorem d2_54 : decode prog_71_method_2_code 54 = .ok (.aload_n 1, 1) := by decide +kernel
theorem d2_55 : decode prog_71_method_2_code 55 = .ok (.lload_n 3, 1) := by decide +kernel
theorem d2_61 : decode prog_71_method_2_code 61 = .ok (.invokespecial 31, 3) := by decide +kernel
theorem d2_64 : decode prog_71_method_2_code 64 = .ok (.athrow, 1) := by decide +kernel
theorem d2_65 : decode prog_71_method_2_code 65 = .ok (.aload_n 0, 1) := by decide +kernel
theorem d2_66 : decode prog_71_method_2_code 66 = .ok (.aload_n 1, 1) := by decide +kernel
theorem d2_67 : decode prog_71_method_2_code 67 = .ok (.putfield 38, 3) := by decide +kernel
theorem d2_70 : decode prog_71_method_2_code 70 = .ok (.aload_n 0, 1) := by decide +kernel
theorem d2_71 : decode prog_71_method_2_code 71 = .ok (.iload_n 2, 1) := by decide +kernel
theorem d2_72 : decode prog_71_method_2_code 72 = .ok (.putfield 42, 3) := by decide +kernel
theorem d2_75 : decode prog_71_method_2_code 75 = .ok (.aload_n 0, 1) := by decide +kernel
theorem d2_76 : decode prog_71_method_2_code 76 = .ok (.lload_n 3, 1) := by decide +kernel
theorem d2_77 : decode prog_71_method_2_code 77 = .ok (.putfield 46, 3) := by decide +kernel
theorem d2_80 : decode prog_71_method_2_code 80 = .ok (.return_, 1) := by decide +kernel
theorem pd_14 : parseMethodDescriptor "()V" = some ⟨[], none⟩ := by decide +kernel
theorem pd_15 : parseMethodDescriptor "(Ljava/lang/String;)V" = some ⟨[(.object "java/lang/String")], none⟩ := by decide +kernel
theorem pn_16 : plainName "com/example/nests/nests/model/Family" = true := by first | (simp [plainName, overriddenIn]; done) | decide +kernel
theorem ef_2 (m : MethodId) (a1 : Addr) (a2 : Addr) (p3 : Int32) (q4 : Int64) : entryFrame m #[(.ref a1), (.ref a2), (.int p3), (.long q4)] 5 = mkF m 0 #[.val (.ref a1), .val (.ref a2), .val (.int p3), .val (.long q4), .second] [] := by first | (simp [entryFrame, mkF, argsToLocals, Value.category]; done) | rfl
def Q2 (Z : State) (a1 : Addr) (a2 : Addr) (p3 : Int32) (q4 : Int64) (u0 : Value) (u1 : Value) (u2 : Value) (cs : Int32) (vf : Value) (b : Addr) (k : ClassId) (h0 : Heap) (n0 : Nat) (v : Option Value) (h : Heap) (L : List Loc) : Prop := v = none ∧ Fr n0 L ∧ Keep h0 h [a1] ∧ Exa Z h a1 "com/example/nests/nests/model/Family" ∧ Fld Z h a1 "com/example/nests/nests/model/Family" "ttlSeconds" "J" (.long q4)
set_option maxRecDepth 65536 in
set_option maxHeartbeats 40000000 in
theorem rm2 (l : Launch) (Z : State) (a0 : Array Value) (hw : ∀ d ∈ tables_1, d.before a0 Z = true) (ws : List Jvm.Cond) (a1 : Addr) (a2 : Addr) (p3 : Int32) (q4 : Int64) (u0 : Value) (u1 : Value) (u2 : Value) (cs : Int32) (vf : Value) (b : Addr) (k : ClassId) (h0 : Heap) (n0 : Nat) (Z0 : n0 ≤ h0.size) (E_a1 : Exa Z h0 a1 "com/example/nests/nests/model/Family") (F_0 : Fld Z h0 a1 "com/example/nests/nests/model/Family" "name" "Ljava/lang/String;" u0) (F_1 : Fld Z h0 a1 "com/example/nests/nests/model/Family" "maxVersions" "I" u1) (F_2 : Fld Z h0 a1 "com/example/nests/nests/model/Family" "ttlSeconds" "J" u2) (g_a1 : n0 ≤ a1) (P_0 : Exa Z h0 a2 "java/lang/String") (P_1 : Fld Z h0 a2 "java/lang/String" "coder" "B" (.int (0 : Int32))) (P_2 : Fld Z h0 a2 "java/lang/String" "value" "[B" (.ref b)) (V_b : Arv Z h0 b k .byte (1 : Int32) [(.int (102 : Int32))] (.int 0)) (S_C : Sta Z h0 "java/lang/String" "COMPACT_STRINGS" "Z" (.int cs)) (hcs : ¬ (cs = (0 : Int32))) (S_F : Sta Z h0 "jdk/internal/util/Preconditions" "SIOOBE_FORMATTER" "Ljava/util/function/BiFunction;" vf) (hvf : vf.isRef = true) (hv : ¬ (p3 < (1 : Int32))) (ht : q4 = (9223372036854775807 : Int64) ∨ (¬ (q4 < (1 : Int64)) ∧ ¬ ((9223372036854 : Int64) < q4))) :
    MetFree l (⟨"com/example/nests/nests/model/Family", "<init>", "(Ljava/lang/String;IJ)V"⟩ : MethodName) (head1 (Jvm.Cond.code (⟨"com/example/nests/nests/model/Family", "<init>", "(Ljava/lang/String;IJ)V"⟩ : MethodName) prog_71_method_2_code 5 none :: ws) ({ frames := 6, cells := 2, slots := 28, locals := 80 } : Room)) (fun a U => a = #[(.ref a1), (.ref a2), (.int p3), (.long q4)] ∧ Z.Warmed39 U.vm ∧ U.heap = h0) (fun _ _ _ _ _ => True) (fun _ U o U' => ∃ v L, o = .returned v ∧ Q2 Z a1 a2 p3 q4 u0 u1 u2 cs vf b k h0 n0 v U'.heap L ∧ ReturnedEndW U o U' L ({ frames := 6, cells := 2, slots := 28, locals := 80 } : Room).cells ({ frames := 6, cells := 2, slots := 28, locals := 80 } : Room).slots) := by
  refine MetFree.of_bodySF (plainFor_of_name pn_16) hisR ?_
  intro p e s m args below meth c s₁ Bd hml0 hP hK
  obtain ⟨rfl, hZ, hh⟩ := hP
  have hx := Bd.exec
  have hby := Bd.bytes
  have hml : c.maxLocals = 5 := hml0
  have hown : s.vm.findClass "com/example/nests/nests/model/Family" = some m.cls := findClass_of_methodNamed Bd.named
  have hnm := (name_of_methodNamed Bd.named Bd.method).1
  have X0 : Stand p l e ({ frames := 6, cells := 2, slots := 28, locals := 80 } : Room) (s.setVm s.vm) m #[(.ref a1), (.ref a2), (.int p3), (.long q4)] below meth c s₁ [] 0 0 := Stand.of_body Bd
  have e0 : s₁.heap = h0 := by rw [← hh, Bd.state]; rfl
  have N0 := Fr.nil n0
  have hS0 : s.Since s.vm s.heap.size := (State.WarmedH.refl s).since _
  have hk0 : s.heap.size ≤ h0.size := by rw [hh]; exact Nat.le_refl _
  show own_GoW p e below s (Q2 Z a1 a2 p3 q4 u0 u1 u2 cs vf b k h0 n0) ({ frames := 6, cells := 2, slots := 28, locals := 80 } : Room).cells ({ frames := 6, cells := 2, slots := 28, locals := 80 } : Room).slots _
  refine own_stepW (B := s₁.setTop (mkF m 0 #[.val (.ref a1), .val (.ref a2), .val (.int p3), .val (.long q4), .second] [])) (fun t k => castTop (ef_2 m a1 a2 p3 q4) k) ?_
  have KK0 : Keep h0 h0 [a1] := Keep.refl h0 _
  refine own_stepW (B := s₁.setTop (mkF m 1 #[.val (.ref a1), .val (.ref a2), .val (.int p3), .val (.long q4), .second] [(.ref a1)])) (fun t k => ?_) ?_
  · show Steps p.tables e below (s₁.setTop (mkF m 0 #[.val (.ref a1), .val (.ref a2), .val (.int p3), .val (.long q4), .second] [])) _
    refine XS.aloadN X0.here hx rfl (hb hby d2_0) rfl rfl ?_
    exact k
  obtain ⟨T1, X1, e1, st1⟩ := initO X0 hx hZ hown (hw _ (List.mem_of_getElem? (i := 21) rfl)) (hw _ (List.mem_of_getElem? (i := 22) rfl)) (hw _ (List.mem_of_getElem? (i := 23) rfl)) e0 (g := (mkF m 1 #[.val (.ref a1), .val (.ref a2), .val (.int p3), .val (.long q4), .second] [(.ref a1)])) rfl (by rw [hml]; rfl) rfl (hb hby d2_1) (by decide) (W := 0) (by show 2 * 0 + _ ≤ _; exact Nat.le_of_eq rfl) (by decide)
  refine own_stepW st1 ?_
  show own_GoW p e below s _ _ _ (T1.setTop (mkF m 4 #[.val (.ref a1), .val (.ref a2), .val (.int p3), .val (.long q4), .second] []))
  refine own_stepW (B := T1.setTop (mkF m 5 #[.val (.ref a1), .val (.ref a2), .val (.int p3), .val (.long q4), .second] [(.ref a2)])) (fun t k => ?_) ?_
  · show Steps p.tables e below (T1.setTop (mkF m 4 #[.val (.ref a1), .val (.ref a2), .val (.int p3), .val (.long q4), .second] [])) _
    refine XS.aloadN X1.here hx rfl (hb hby d2_4) rfl rfl ?_
    exact k
  obtain ⟨_, _, ⟨T2, L2, k2, n2⟩, -, X2, hSx2, gx2, ⟨Lc2, hQ2, l2, y2, z2⟩, st2⟩ := callSS X1 hx (y := (⟨"com/example/nests/nests/model/Cell", "checkFamily", "(Ljava/lang/String;)V"⟩ : MethodName)) hown (mvT hZ (hw _ (List.mem_of_getElem? (i := 24) rfl))) (mvT hZ (hw _ (List.mem_of_getElem? (i := 25) rfl))) (mvT hZ (hw _ (List.mem_of_getElem? (i := 26) rfl))) (mvT hZ (hw _ (List.mem_of_getElem? (i := 27) rfl))) (by decide) (backOfS (W := 0) (rm4 l Z a0 hw [] a2 cs vf b k h0 n0 Z0 P_0 P_1 P_2 V_b S_C hcs S_F hvf) hZ (hw _ (List.mem_of_getElem? (i := 27) rfl)) (hw _ (List.mem_of_getElem? (i := 26) rfl)) (by decide) (by decide)) (g := (mkF m 5 #[.val (.ref a1), .val (.ref a2), .val (.int p3), .val (.long q4), .second] [(.ref a2)])) rfl (by rw [hml]; rfl) (argsL := [(.ref a2)]) (rest := []) (lenOf pd_15 rfl) rfl (by show 2 * 0 + _ ≤ _; exact Nat.le_of_eq rfl) (hb hby d2_5) (fun _ _ => ⟨rfl, e1, (by decide : 0 + 2 ≤ _), (by decide : 0 + 28 ≤ _)⟩)
  dsimp only [Pt.U, Pt.locs, Pt.cells, Pt.slots] at X2 l2 y2 z2 st2 hQ2 hSx2 gx2
  subst l2 y2 z2
  obtain ⟨rfl, N2q, K2⟩ := hQ2
  have N2 := Fr.app N0 N2q
  refine own_viaW st2 ?_
  obtain ⟨X2, hS2, hZ, hown⟩ := rebS hS0 (by rw [e1]; exact hk0) X2 hSx2 gx2 hZ hown
  show own_GoW p e below s _ _ _ (T2.setTop (mkF m 8 #[.val (.ref a1), .val (.ref a2), .val (.int p3), .val (.long q4), .second] []))
  have KK2 : Keep h0 T2.heap [a1] := KK0.trans K2 all0
  refine own_stepW (B := T2.setTop (mkF m 33 #[.val (.ref a1), .val (.ref a2), .val (.int p3), .val (.long q4), .second] [(.int (lcmpW q4 (9223372036854775807 : Int64)))])) (fun t k => ?_) ?_
  · show Steps p.tables e below (T2.setTop (mkF m 8 #[.val (.ref a1), .val (.ref a2), .val (.int p3), .val (.long q4), .second] [])) _
    refine XS.iloadN X2.here hx rfl (hb hby d2_8) rfl ?_
    show Steps p.tables e below (T2.setTop (mkF m 9 #[.val (.ref a1), .val (.ref a2), .val (.int p3), .val (.long q4), .second] [(.int p3)])) _
    refine XS.iconst X2.here hx rfl (hb hby d2_9) ?_
    show Steps p.tables e below (T2.setTop (mkF m 10 #[.val (.ref a1), .val (.ref a2), .val (.int p3), .val (.long q4), .second] [(.int (1 : Int32)), (.int p3)])) _
    refine XS.icmpYes X2.here hx rfl (pc0 := 10) (pc' := 28) rfl (hb hby d2_10) rfl (flt hv).2.1 (by decide) (by decide) ?_
    show Steps p.tables e below (T2.setTop (mkF m 28 #[.val (.ref a1), .val (.ref a2), .val (.int p3), .val (.long q4), .second] [])) _
    refine XS.lloadN X2.here hx rfl (hb hby d2_28) rfl ?_
    show Steps p.tables e below (T2.setTop (mkF m 29 #[.val (.ref a1), .val (.ref a2), .val (.int p3), .val (.long q4), .second] [(.long q4)])) _
    refine X2.ldc2Long hx hown (mvT hZ (hw _ (List.mem_of_getElem? (i := 76) rfl))) (g := (mkF m 29 #[.val (.ref a1), .val (.ref a2), .val (.int p3), .val (.long q4), .second] [(.long q4)])) rfl (hb hby d2_29) _ ?_
    show Steps p.tables e below (T2.setTop (mkF m 32 #[.val (.ref a1), .val (.ref a2), .val (.int p3), .val (.long q4), .second] [(.long (9223372036854775807 : Int64)), (.long q4)])) _
    refine XS.lcmp X2.here hx rfl (hb hby d2_32) rfl ?_
    exact k
  by_cases hq : q4 = (9223372036854775807 : Int64)
  · refine own_stepW (B := T2.setTop (mkF m 67 #[.val (.ref a1), .val (.ref a2), .val (.int p3), .val (.long q4), .second] [(.ref a2), (.ref a1)])) (fun t k => ?_) ?_
    · show Steps p.tables e below (T2.setTop (mkF m 33 #[.val (.ref a1), .val (.ref a2), .val (.int p3), .val (.long q4), .second] [(.int (lcmpW q4 (9223372036854775807 : Int64)))])) _
      refine XS.ifYes X2.here hx rfl (pc0 := 33) (pc' := 65) rfl (hb hby d2_33) rfl ((if0 _ _).trans (teq ((lw_eq _ _).mpr hq)).1) (by decide) (by decide) ?_
      show Steps p.tables e below (T2.setTop (mkF m 65 #[.val (.ref a1), .val (.ref a2), .val (.int p3), .val (.long q4), .second] [])) _
      refine XS.aloadN X2.here hx rfl (hb hby d2_65) rfl rfl ?_
      show Steps p.tables e below (T2.setTop (mkF m 66 #[.val (.ref a1), .val (.ref a2), .val (.int p3), .val (.long q4), .second] [(.ref a1)])) _
      refine XS.aloadN X2.here hx rfl (hb hby d2_66) rfl rfl ?_
      exact k
    obtain ⟨T3, h3, X3, e3, W3, st3⟩ := putF X2 hx hZ hown (host := "") (Or.inl (hw _ (List.mem_of_getElem? (i := 78) rfl))) Via.refl rfl (F_0.keep K2 nin0) (E_a1.keep K2) (Or.inr ⟨(hw _ (List.mem_of_getElem? (i := 79) rfl)), rfl, hnm⟩) (hw _ (List.mem_of_getElem? (i := 8) rfl)) (ty := (.object "java/lang/String")) (by decide) rfl rfl (g := (mkF m 67 #[.val (.ref a1), .val (.ref a2), .val (.int p3), .val (.long q4), .second] [(.ref a2), (.ref a1)])) rfl rfl (hb hby d2_67)
    have Fw3 := (F_0.keep K2 nin0).same W3
    have K3 : Keep h0 h3 [a1] := KK2.wr W3 (Or.inl (by simp))
    have N3 := Fr.snoc X3 N2 g_a1
    refine own_stepW st3 ?_
    show own_GoW p e below s _ _ _ (T3.setTop (mkF m 70 #[.val (.ref a1), .val (.ref a2), .val (.int p3), .val (.long q4), .second] []))
    refine own_stepW (B := T3.setTop (mkF m 72 #[.val (.ref a1), .val (.ref a2), .val (.int p3), .val (.long q4), .second] [(.int p3), (.ref a1)])) (fun t k => ?_) ?_
    · show Steps p.tables e below (T3.setTop (mkF m 70 #[.val (.ref a1), .val (.ref a2), .val (.int p3), .val (.long q4), .second] [])) _
      refine XS.aloadN X3.here hx rfl (hb hby d2_70) rfl rfl ?_
      show Steps p.tables e below (T3.setTop (mkF m 71 #[.val (.ref a1), .val (.ref a2), .val (.int p3), .val (.long q4), .second] [(.ref a1)])) _
      refine XS.iloadN X3.here hx rfl (hb hby d2_71) rfl ?_
      exact k
    obtain ⟨T4, h4, X4, e4, W4, st4⟩ := putF X3 hx hZ hown (host := "") (Or.inl (hw _ (List.mem_of_getElem? (i := 80) rfl))) Via.refl e3 ((F_1.keep K2 nin0).other W3 (Or.inr (slot_ne (Or.inr (hw _ (List.mem_of_getElem? (i := 81) rfl))) (Or.inr (hw _ (List.mem_of_getElem? (i := 79) rfl))) (by decide) (t := .int) (t' := (.object "java/lang/String")) (by decide) (by decide)))) ((E_a1.keep K2).wr W3) (Or.inr ⟨(hw _ (List.mem_of_getElem? (i := 81) rfl)), rfl, hnm⟩) (hw _ (List.mem_of_getElem? (i := 8) rfl)) (ty := .int) (by decide) rfl rfl (g := (mkF m 72 #[.val (.ref a1), .val (.ref a2), .val (.int p3), .val (.long q4), .second] [(.int p3), (.ref a1)])) rfl rfl (hb hby d2_72)
    have Fw4 := ((F_1.keep K2 nin0).other W3 (Or.inr (slot_ne (Or.inr (hw _ (List.mem_of_getElem? (i := 81) rfl))) (Or.inr (hw _ (List.mem_of_getElem? (i := 79) rfl))) (by decide) (t := .int) (t' := (.object "java/lang/String")) (by decide) (by decide)))).same W4
    have K4 : Keep h0 h4 [a1] := K3.wr W4 (Or.inl (by simp))
    have N4 := Fr.snoc X4 N3 g_a1
    refine own_stepW st4 ?_
    show own_GoW p e below s _ _ _ (T4.setTop (mkF m 75 #[.val (.ref a1), .val (.ref a2), .val (.int p3), .val (.long q4), .second] []))
    refine own_stepW (B := T4.setTop (mkF m 77 #[.val (.ref a1), .val (.ref a2), .val (.int p3), .val (.long q4), .second] [(.long q4), (.ref a1)])) (fun t k => ?_) ?_
    · show Steps p.tables e below (T4.setTop (mkF m 75 #[.val (.ref a1), .val (.ref a2), .val (.int p3), .val (.long q4), .second] [])) _
      refine XS.aloadN X4.here hx rfl (hb hby d2_75) rfl rfl ?_
      show Steps p.tables e below (T4.setTop (mkF m 76 #[.val (.ref a1), .val (.ref a2), .val (.int p3), .val (.long q4), .second] [(.ref a1)])) _
      refine XS.lloadN X4.here hx rfl (hb hby d2_76) rfl ?_
      exact k
    obtain ⟨T5, h5, X5, e5, W5, st5⟩ := putF X4 hx hZ hown (host := "") (Or.inl (hw _ (List.mem_of_getElem? (i := 82) rfl))) Via.refl e4 (((F_2.keep K2 nin0).other W3 (Or.inr (slot_ne (Or.inr (hw _ (List.mem_of_getElem? (i := 83) rfl))) (Or.inr (hw _ (List.mem_of_getElem? (i := 79) rfl))) (by decide) (t := .long) (t' := (.object "java/lang/String")) (by decide) (by decide)))).other W4 (Or.inr (slot_ne (Or.inr (hw _ (List.mem_of_getElem? (i := 83) rfl))) (Or.inr (hw _ (List.mem_of_getElem? (i := 81) rfl))) (by decide) (t := .long) (t' := .int) (by decide) (by decide)))) (((E_a1.keep K2).wr W3).wr W4) (Or.inr ⟨(hw _ (List.mem_of_getElem? (i := 83) rfl)), rfl, hnm⟩) (hw _ (List.mem_of_getElem? (i := 8) rfl)) (ty := .long) (by decide) rfl rfl (g := (mkF m 77 #[.val (.ref a1), .val (.ref a2), .val (.int p3), .val (.long q4), .second] [(.long q4), (.ref a1)])) rfl rfl (hb hby d2_77)
    have Fw5 := (((F_2.keep K2 nin0).other W3 (Or.inr (slot_ne (Or.inr (hw _ (List.mem_of_getElem? (i := 83) rfl))) (Or.inr (hw _ (List.mem_of_getElem? (i := 79) rfl))) (by decide) (t := .long) (t' := (.object "java/lang/String")) (by decide) (by decide)))).other W4 (Or.inr (slot_ne (Or.inr (hw _ (List.mem_of_getElem? (i := 83) rfl))) (Or.inr (hw _ (List.mem_of_getElem? (i := 81) rfl))) (by decide) (t := .long) (t' := .int) (by decide) (by decide)))).same W5
    have K5 : Keep h0 h5 [a1] := K4.wr W5 (Or.inl (by simp))
    have N5 := Fr.snoc X5 N4 g_a1
    refine own_stepW st5 ?_
    show own_GoW p e below s _ _ _ (T5.setTop (mkF m 80 #[.val (.ref a1), .val (.ref a2), .val (.int p3), .val (.long q4), .second] []))
    exact own_retVW X5 hS2 (by rw [e5]; exact (Nat.le_trans (Nat.le_trans (Nat.le_trans (Nat.le_refl T2.heap.size) (Keep.of_wr W3).1) (Keep.of_wr W4).1) (Keep.of_wr W5).1)) hx Bd.notSynchronized Bd.returns (hb hby d2_80) ⟨rfl, N5, by rw [e5]; exact K5, by rw [e5]; exact ((((E_a1.keep K2).wr W3).wr W4).wr W5), by rw [e5]; exact Fw5⟩ (by decide) (by decide)
  · refine own_stepW (B := T2.setTop (mkF m 67 #[.val (.ref a1), .val (.ref a2), .val (.int p3), .val (.long q4), .second] [(.ref a2), (.ref a1)])) (fun t k => ?_) ?_
    · show Steps p.tables e below (T2.setTop (mkF m 33 #[.val (.ref a1), .val (.ref a2), .val (.int p3), .val (.long q4), .second] [(.int (lcmpW q4 (9223372036854775807 : Int64)))])) _
      refine XS.ifNo X2.here hx rfl (hb hby d2_33) rfl ((if0 _ _).trans (feq (fun q => hq ((lw_eq _ _).mp q))).1) ?_
      show Steps p.tables e below (T2.setTop (mkF m 36 #[.val (.ref a1), .val (.ref a2), .val (.int p3), .val (.long q4), .second] [])) _
      refine XS.lloadN X2.here hx rfl (hb hby d2_36) rfl ?_
      show Steps p.tables e below (T2.setTop (mkF m 37 #[.val (.ref a1), .val (.ref a2), .val (.int p3), .val (.long q4), .second] [(.long q4)])) _
      refine XS.lconst X2.here hx rfl (hb hby d2_37) ?_
      show Steps p.tables e below (T2.setTop (mkF m 38 #[.val (.ref a1), .val (.ref a2), .val (.int p3), .val (.long q4), .second] [(.long (1 : Int64)), (.long q4)])) _
      refine XS.lcmp X2.here hx rfl (hb hby d2_38) rfl ?_
      show Steps p.tables e below (T2.setTop (mkF m 39 #[.val (.ref a1), .val (.ref a2), .val (.int p3), .val (.long q4), .second] [(.int (lcmpW q4 (1 : Int64)))])) _
      refine XS.ifNo X2.here hx rfl (hb hby d2_39) rfl ((if0 _ _).trans (flt (fun q => (ht.resolve_left hq).1 ((lw_lt _ _).mp q))).1) ?_
      show Steps p.tables e below (T2.setTop (mkF m 42 #[.val (.ref a1), .val (.ref a2), .val (.int p3), .val (.long q4), .second] [])) _
      refine XS.lloadN X2.here hx rfl (hb hby d2_42) rfl ?_
      show Steps p.tables e below (T2.setTop (mkF m 43 #[.val (.ref a1), .val (.ref a2), .val (.int p3), .val (.long q4), .second] [(.long q4)])) _
      refine X2.ldc2Long hx hown (mvT hZ (hw _ (List.mem_of_getElem? (i := 77) rfl))) (g := (mkF m 43 #[.val (.ref a1), .val (.ref a2), .val (.int p3), .val (.long q4), .second] [(.long q4)])) rfl (hb hby d2_43) _ ?_
      show Steps p.tables e below (T2.setTop (mkF m 46 #[.val (.ref a1), .val (.ref a2), .val (.int p3), .val (.long q4), .second] [(.long (9223372036854 : Int64)), (.long q4)])) _
      refine XS.lcmp X2.here hx rfl (hb hby d2_46) rfl ?_
      show Steps p.tables e below (T2.setTop (mkF m 47 #[.val (.ref a1), .val (.ref a2), .val (.int p3), .val (.long q4), .second] [(.int (lcmpW q4 (9223372036854 : Int64)))])) _
      refine XS.ifYes X2.here hx rfl (pc0 := 47) (pc' := 65) rfl (hb hby d2_47) rfl ((if0 _ _).trans (flt (fun q => (ht.resolve_left hq).2 ((lw_gt _ _).mp q))).2.2.2) (by decide) (by decide) ?_
      show Steps p.tables e below (T2.setTop (mkF m 65 #[.val (.ref a1), .val (.ref a2), .val (.int p3), .val (.long q4), .second] [])) _
      refine XS.aloadN X2.here hx rfl (hb hby d2_65) rfl rfl ?_
      show Steps p.tables e below (T2.setTop (mkF m 66 #[.val (.ref a1), .val (.ref a2), .val (.int p3), .val (.long q4), .second] [(.ref a1)])) _
      refine XS.aloadN X2.here hx rfl (hb hby d2_66) rfl rfl ?_
      exact k
    obtain ⟨T6, h6, X6, e6, W6, st6⟩ := putF X2 hx hZ hown (host := "") (Or.inl (hw _ (List.mem_of_getElem? (i := 78) rfl))) Via.refl rfl (F_0.keep K2 nin0) (E_a1.keep K2) (Or.inr ⟨(hw _ (List.mem_of_getElem? (i := 79) rfl)), rfl, hnm⟩) (hw _ (List.mem_of_getElem? (i := 8) rfl)) (ty := (.object "java/lang/String")) (by decide) rfl rfl (g := (mkF m 67 #[.val (.ref a1), .val (.ref a2), .val (.int p3), .val (.long q4), .second] [(.ref a2), (.ref a1)])) rfl rfl (hb hby d2_67)
    have Fw6 := (F_0.keep K2 nin0).same W6
    have K6 : Keep h0 h6 [a1] := KK2.wr W6 (Or.inl (by simp))
    have N6 := Fr.snoc X6 N2 g_a1
    refine own_stepW st6 ?_
    show own_GoW p e below s _ _ _ (T6.setTop (mkF m 70 #[.val (.ref a1), .val (.ref a2), .val (.int p3), .val (.long q4), .second] []))
    refine own_stepW (B := T6.setTop (mkF m 72 #[.val (.ref a1), .val (.ref a2), .val (.int p3), .val (.long q4), .second] [(.int p3), (.ref a1)])) (fun t k => ?_) ?_
    · show Steps p.tables e below (T6.setTop (mkF m 70 #[.val (.ref a1), .val (.ref a2), .val (.int p3), .val (.long q4), .second] [])) _
      refine XS.aloadN X6.here hx rfl (hb hby d2_70) rfl rfl ?_
      show Steps p.tables e below (T6.setTop (mkF m 71 #[.val (.ref a1), .val (.ref a2), .val (.int p3), .val (.long q4), .second] [(.ref a1)])) _
      refine XS.iloadN X6.here hx rfl (hb hby d2_71) rfl ?_
      exact k
    obtain ⟨T7, h7, X7, e7, W7, st7⟩ := putF X6 hx hZ hown (host := "") (Or.inl (hw _ (List.mem_of_getElem? (i := 80) rfl))) Via.refl e6 ((F_1.keep K2 nin0).other W6 (Or.inr (slot_ne (Or.inr (hw _ (List.mem_of_getElem? (i := 81) rfl))) (Or.inr (hw _ (List.mem_of_getElem? (i := 79) rfl))) (by decide) (t := .int) (t' := (.object "java/lang/String")) (by decide) (by decide)))) ((E_a1.keep K2).wr W6) (Or.inr ⟨(hw _ (List.mem_of_getElem? (i := 81) rfl)), rfl, hnm⟩) (hw _ (List.mem_of_getElem? (i := 8) rfl)) (ty := .int) (by decide) rfl rfl (g := (mkF m 72 #[.val (.ref a1), .val (.ref a2), .val (.int p3), .val (.long q4), .second] [(.int p3), (.ref a1)])) rfl rfl (hb hby d2_72)
    have Fw7 := ((F_1.keep K2 nin0).other W6 (Or.inr (slot_ne (Or.inr (hw _ (List.mem_of_getElem? (i := 81) rfl))) (Or.inr (hw _ (List.mem_of_getElem? (i := 79) rfl))) (by decide) (t := .int) (t' := (.object "java/lang/String")) (by decide) (by decide)))).same W7
    have K7 : Keep h0 h7 [a1] := K6.wr W7 (Or.inl (by simp))
    have N7 := Fr.snoc X7 N6 g_a1
    refine own_stepW st7 ?_
    show own_GoW p e below s _ _ _ (T7.setTop (mkF m 75 #[.val (.ref a1), .val (.ref a2), .val (.int p3), .val (.long q4), .second] []))
    refine own_stepW (B := T7.setTop (mkF m 77 #[.val (.ref a1), .val (.ref a2), .val (.int p3), .val (.long q4), .second] [(.long q4), (.ref a1)])) (fun t k => ?_) ?_
    · show Steps p.tables e below (T7.setTop (mkF m 75 #[.val (.ref a1), .val (.ref a2), .val (.int p3), .val (.long q4), .second] [])) _
      refine XS.aloadN X7.here hx rfl (hb hby d2_75) rfl rfl ?_
      show Steps p.tables e below (T7.setTop (mkF m 76 #[.val (.ref a1), .val (.ref a2), .val (.int p3), .val (.long q4), .second] [(.ref a1)])) _
      refine XS.lloadN X7.here hx rfl (hb hby d2_76) rfl ?_
      exact k
    obtain ⟨T8, h8, X8, e8, W8, st8⟩ := putF X7 hx hZ hown (host := "") (Or.inl (hw _ (List.mem_of_getElem? (i := 82) rfl))) Via.refl e7 (((F_2.keep K2 nin0).other W6 (Or.inr (slot_ne (Or.inr (hw _ (List.mem_of_getElem? (i := 83) rfl))) (Or.inr (hw _ (List.mem_of_getElem? (i := 79) rfl))) (by decide) (t := .long) (t' := (.object "java/lang/String")) (by decide) (by decide)))).other W7 (Or.inr (slot_ne (Or.inr (hw _ (List.mem_of_getElem? (i := 83) rfl))) (Or.inr (hw _ (List.mem_of_getElem? (i := 81) rfl))) (by decide) (t := .long) (t' := .int) (by decide) (by decide)))) (((E_a1.keep K2).wr W6).wr W7) (Or.inr ⟨(hw _ (List.mem_of_getElem? (i := 83) rfl)), rfl, hnm⟩) (hw _ (List.mem_of_getElem? (i := 8) rfl)) (ty := .long) (by decide) rfl rfl (g := (mkF m 77 #[.val (.ref a1), .val (.ref a2), .val (.int p3), .val (.long q4), .second] [(.long q4), (.ref a1)])) rfl rfl (hb hby d2_77)
    have Fw8 := (((F_2.keep K2 nin0).other W6 (Or.inr (slot_ne (Or.inr (hw _ (List.mem_of_getElem? (i := 83) rfl))) (Or.inr (hw _ (List.mem_of_getElem? (i := 79) rfl))) (by decide) (t := .long) (t' := (.object "java/lang/String")) (by decide) (by decide)))).other W7 (Or.inr (slot_ne (Or.inr (hw _ (List.mem_of_getElem? (i := 83) rfl))) (Or.inr (hw _ (List.mem_of_getElem? (i := 81) rfl))) (by decide) (t := .long) (t' := .int) (by decide) (by decide)))).same W8
    have K8 : Keep h0 h8 [a1] := K7.wr W8 (Or.inl (by simp))
    have N8 := Fr.snoc X8 N7 g_a1
    refine own_stepW st8 ?_
    show own_GoW p e below s _ _ _ (T8.setTop (mkF m 80 #[.val (.ref a1), .val (.ref a2), .val (.int p3), .val (.long q4), .second] []))
    exact own_retVW X8 hS2 (by rw [e8]; exact (Nat.le_trans (Nat.le_trans (Nat.le_trans (Nat.le_refl T2.heap.size) (Keep.of_wr W6).1) (Keep.of_wr W7).1) (Keep.of_wr W8).1)) hx Bd.notSynchronized Bd.returns (hb hby d2_80) ⟨rfl, N8, by rw [e8]; exact K8, by rw [e8]; exact ((((E_a1.keep K2).wr W6).wr W7).wr W8), by rw [e8]; exact Fw8⟩ (by decide) (by decide)
theorem d15_0 : decode prog_71_method_7_code 0 = .ok (.ldc2_w 50, 3) := by decide +kernel
theorem d15_3 : decode prog_71_method_7_code 3 = .ok (.lstore_n 3, 1) := by decide +kernel
theorem d15_4 : decode prog_71_method_7_code 4 = .ok (.aload_n 0, 1) := by decide +kernel
theorem d15_5 : decode prog_71_method_7_code 5 = .ok (.getfield 46, 3) := by decide +kernel
theorem d15_8 : decode prog_71_method_7_code 8 = .ok (.ldc2_w 8, 3) := by decide +kernel
theorem d15_11 : decode prog_71_method_7_code 11 = .ok (.lcmp, 1) := by decide +kernel
theorem d15_12 : decode prog_71_method_7_code 12 = .ok (.ifCond .eq 35, 3) := by decide +kernel
theorem d15_15 : decode prog_71_method_7_code 15 = .ok (.aload_n 0, 1) := by decide +kernel
theorem d15_16 : decode prog_71_method_7_code 16 = .ok (.getfield 46, 3) := by decide +kernel
theorem d15_19 : decode prog_71_method_7_code 19 = .ok (.ldc2_w 52, 3) := by decide +kernel
theorem d15_22 : decode prog_71_method_7_code 22 = .ok (.lmul, 1) := by decide +kernel
theorem d15_23 : decode prog_71_method_7_code 23 = .ok (.lstore 5, 2) := by decide +kernel
theorem d15_25 : decode prog_71_method_7_code 25 = .ok (.lload_n 1, 1) := by decide +kernel
theorem d15_26 : decode prog_71_method_7_code 26 = .ok (.ldc2_w 50, 3) := by decide +kernel
theorem d15_29 : decode prog_71_method_7_code 29 = .ok (.lload 5, 2) := by decide +kernel
theorem d15_31 : decode prog_71_method_7_code 31 = .ok (.ladd, 1) := by decide +kernel
theorem d15_32 : decode prog_71_method_7_code 32 = .ok (.lcmp, 1) := by decide +kernel
theorem d15_33 : decode prog_71_method_7_code 33 = .ok (.ifCond .ge 9, 3) := by decide +kernel
theorem d15_36 : decode prog_71_method_7_code 36 = .ok (.ldc2_w 50, 3) := by decide +kernel
theorem d15_39 : decode prog_71_method_7_code 39 = .ok (.goto 7, 3) := by decide +kernel
theorem d15_42 : decode prog_71_method_7_code 42 = .ok (.lload_n 1, 1) := by decide +kernel
theorem d15_43 : decode prog_71_method_7_code 43 = .ok (.lload 5, 2) := by decide +kernel
theorem d15_45 : decode prog_71_method_7_code 45 = .ok (.lsub, 1) := by decide +kernel
theorem d15_46 : decode prog_71_method_7_code 46 = .ok (.lstore_n 3, 1) := by decide +kernel
theorem d15_47 : decode prog_71_method_7_code 47 = .ok (.lload_n 3, 1) := by decide +kernel
theorem d15_48 : decode prog_71_method_7_code 48 = .ok (.lreturn, 1) := by decide +kernel
def own_ok (t w : Int64) : Int64 := if t = 9223372036854775807 then -9223372036854775808 else if w < -9223372036854775808 + t * 1000000 then -9223372036854775808 else w - t * 1000000
def own_ex (t w : Int64) : Int64 := if t = 9223372036854775807 then -9223372036854775808 else if w < w - t * 1000000 then -9223372036854775808 else w - t * 1000000
theorem own_same (t w : Int64) (h : t = 9223372036854775807 ∨ (¬ (t < 1) ∧ ¬ (9223372036854 < t))) : own_ok t w = own_ex t w := by
  unfold own_ok own_ex
  by_cases q : t = 9223372036854775807
  · simp [q]
  · obtain ⟨h1, h2⟩ := h.resolve_left q
    rw [if_neg q, if_neg q]
    have e1 : (1 : Int64).toInt = 1 := rfl
    have e2 : (9223372036854 : Int64).toInt = 9223372036854 := rfl
    have e3 : (1000000 : Int64).toInt = 1000000 := rfl
    have e4 : (-9223372036854775808 : Int64).toInt = -9223372036854775808 := rfl
    rw [Int64.lt_iff_toInt_lt, e1] at h1
    rw [Int64.lt_iff_toInt_lt, e2] at h2
    have m : (t * 1000000).toInt = t.toInt * 1000000 := by
      rw [Int64.toInt_mul, e3, Int.bmod_eq_of_le] <;> omega
    have w1 := w.le_toInt
    have w2 := w.toInt_lt
    have a : (-9223372036854775808 + t * 1000000 : Int64).toInt = -9223372036854775808 + t.toInt * 1000000 := by
      rw [Int64.toInt_add, e4, m, Int.bmod_eq_of_le] <;> omega
    have hc : (w < -9223372036854775808 + t * 1000000) ↔ (w < w - t * 1000000) := by
      rw [Int64.lt_iff_toInt_lt, Int64.lt_iff_toInt_lt, a, Int64.toInt_sub, m]
      simp only [Int.bmod_def]
      omega
    by_cases z : w < -9223372036854775808 + t * 1000000
    · rw [if_pos z, if_pos (hc.mp z)]
    · rw [if_neg z, if_neg (fun y => z (hc.mpr y))]
theorem ef_15 (m : MethodId) (a1 : Addr) (q2 : Int64) : entryFrame m #[(.ref a1), (.long q2)] 7 = mkF m 0 #[.val (.ref a1), .val (.long q2), .second, .unset, .unset, .unset, .unset] [] := by first | (simp [entryFrame, mkF, argsToLocals, Value.category]; done) | rfl
def Q15 (Z : State) (a1 : Addr) (q2 : Int64) (tl : Int64) (h0 : Heap) (n0 : Nat) (v : Option Value) (h : Heap) (L : List Loc) : Prop := v = some (.long (own_ok tl q2)) ∧ Fr n0 L ∧ h = h0
set_option maxRecDepth 65536 in
set_option maxHeartbeats 40000000 in
theorem rm15 (l : Launch) (Z : State) (a0 : Array Value) (hw : ∀ d ∈ tables_1, d.before a0 Z = true) (ws : List Jvm.Cond) (a1 : Addr) (q2 : Int64) (tl : Int64) (h0 : Heap) (n0 : Nat) (Z0 : n0 ≤ h0.size) (F_t : Fld Z h0 a1 "com/example/nests/nests/model/Family" "ttlSeconds" "J" (.long tl)) :
    MetFree l (⟨"com/example/nests/nests/model/Family", "oldestKept", "(J)J"⟩ : MethodName) (head1 (Jvm.Cond.code (⟨"com/example/nests/nests/model/Family", "oldestKept", "(J)J"⟩ : MethodName) prog_71_method_7_code 7 (some .long) :: ws) ({ frames := 0, cells := 0, slots := 0, locals := 0 } : Room)) (fun a U => a = #[(.ref a1), (.long q2)] ∧ Z.Warmed39 U.vm ∧ U.heap = h0) (fun _ _ _ _ _ => True) (fun _ U o U' => ∃ v L, o = .returned v ∧ Q15 Z a1 q2 tl h0 n0 v U'.heap L ∧ FrameEnd U o U' L ({ frames := 0, cells := 0, slots := 0, locals := 0 } : Room).cells ({ frames := 0, cells := 0, slots := 0, locals := 0 } : Room).slots) := by
  refine MetFree.of_bodySF (plainFor_of_name pn_16) hisR ?_
  intro p e s m args below meth c s₁ Bd hml0 hP hK
  obtain ⟨rfl, hZ, hh⟩ := hP
  have hx := Bd.exec
  have hby := Bd.bytes
  have hml : c.maxLocals = 7 := hml0
  have hown : s.vm.findClass "com/example/nests/nests/model/Family" = some m.cls := findClass_of_methodNamed Bd.named
  have hnm := (name_of_methodNamed Bd.named Bd.method).1
  have X0 : Stand p l e ({ frames := 0, cells := 0, slots := 0, locals := 0 } : Room) s m #[(.ref a1), (.long q2)] below meth c s₁ [] 0 0 := Stand.of_body Bd
  have e0 : s₁.heap = h0 := by rw [← hh, Bd.state]; rfl
  have N0 := Fr.nil n0
  skip
  show own_Go p e below s (Q15 Z a1 q2 tl h0 n0) ({ frames := 0, cells := 0, slots := 0, locals := 0 } : Room).cells ({ frames := 0, cells := 0, slots := 0, locals := 0 } : Room).slots _
  refine own_step (B := s₁.setTop (mkF m 0 #[.val (.ref a1), .val (.long q2), .second, .unset, .unset, .unset, .unset] [])) (fun t k => castTop (ef_15 m a1 q2) k) ?_
  refine own_step (B := s₁.setTop (mkF m 5 #[.val (.ref a1), .val (.long q2), .second, .val (.long (-9223372036854775808 : Int64)), .second, .unset, .unset] [(.ref a1)])) (fun t k => ?_) ?_
  · show Steps p.tables e below (s₁.setTop (mkF m 0 #[.val (.ref a1), .val (.long q2), .second, .unset, .unset, .unset, .unset] [])) _
    refine X0.ldc2Long hx hown (mvT hZ (hw _ (List.mem_of_getElem? (i := 89) rfl))) (g := (mkF m 0 #[.val (.ref a1), .val (.long q2), .second, .unset, .unset, .unset, .unset] [])) rfl (hb hby d15_0) _ ?_
    show Steps p.tables e below (s₁.setTop (mkF m 3 #[.val (.ref a1), .val (.long q2), .second, .unset, .unset, .unset, .unset] [(.long (-9223372036854775808 : Int64))])) _
    refine XS.lstoreN X0.here hx rfl (hb hby d15_3) rfl (l' := #[.val (.ref a1), .val (.long q2), .second, .val (.long (-9223372036854775808 : Int64)), .second, .unset, .unset]) rfl ?_
    show Steps p.tables e below (s₁.setTop (mkF m 4 #[.val (.ref a1), .val (.long q2), .second, .val (.long (-9223372036854775808 : Int64)), .second, .unset, .unset] [])) _
    refine XS.aloadN X0.here hx rfl (hb hby d15_4) rfl rfl ?_
    exact k
  obtain ⟨T1, X1, e1, st1⟩ := getF X0 hx hZ hown (host := "") (Or.inl (hw _ (List.mem_of_getElem? (i := 82) rfl))) Via.refl e0 F_t (g := (mkF m 5 #[.val (.ref a1), .val (.long q2), .second, .val (.long (-9223372036854775808 : Int64)), .second, .unset, .unset] [(.ref a1)])) rfl rfl (hb hby d15_5)
  refine own_step st1 ?_
  show own_Go p e below s _ _ _ (T1.setTop (mkF m 8 #[.val (.ref a1), .val (.long q2), .second, .val (.long (-9223372036854775808 : Int64)), .second, .unset, .unset] [(.long tl)]))
  refine own_step (B := T1.setTop (mkF m 12 #[.val (.ref a1), .val (.long q2), .second, .val (.long (-9223372036854775808 : Int64)), .second, .unset, .unset] [(.int (lcmpW tl (9223372036854775807 : Int64)))])) (fun t k => ?_) ?_
  · show Steps p.tables e below (T1.setTop (mkF m 8 #[.val (.ref a1), .val (.long q2), .second, .val (.long (-9223372036854775808 : Int64)), .second, .unset, .unset] [(.long tl)])) _
    refine X1.ldc2Long hx hown (mvT hZ (hw _ (List.mem_of_getElem? (i := 76) rfl))) (g := (mkF m 8 #[.val (.ref a1), .val (.long q2), .second, .val (.long (-9223372036854775808 : Int64)), .second, .unset, .unset] [(.long tl)])) rfl (hb hby d15_8) _ ?_
    show Steps p.tables e below (T1.setTop (mkF m 11 #[.val (.ref a1), .val (.long q2), .second, .val (.long (-9223372036854775808 : Int64)), .second, .unset, .unset] [(.long (9223372036854775807 : Int64)), (.long tl)])) _
    refine XS.lcmp X1.here hx rfl (hb hby d15_11) rfl ?_
    exact k
  by_cases hc12 : tl = (9223372036854775807 : Int64)
  · refine own_step (B := T1.setTop (mkF m 48 #[.val (.ref a1), .val (.long q2), .second, .val (.long (-9223372036854775808 : Int64)), .second, .unset, .unset] [(.long (-9223372036854775808 : Int64))])) (fun t k => ?_) ?_
    · show Steps p.tables e below (T1.setTop (mkF m 12 #[.val (.ref a1), .val (.long q2), .second, .val (.long (-9223372036854775808 : Int64)), .second, .unset, .unset] [(.int (lcmpW tl (9223372036854775807 : Int64)))])) _
      refine XS.ifYes X1.here hx rfl (pc0 := 12) (pc' := 47) rfl (hb hby d15_12) rfl ((if0 _ _).trans (teq ((lw_eq _ _).mpr hc12)).1) (by decide) (by decide) ?_
      show Steps p.tables e below (T1.setTop (mkF m 47 #[.val (.ref a1), .val (.long q2), .second, .val (.long (-9223372036854775808 : Int64)), .second, .unset, .unset] [])) _
      refine XS.lloadN X1.here hx rfl (hb hby d15_47) rfl ?_
      exact k
    exact own_retJ X1 hx Bd.notSynchronized Bd.returns (hb hby d15_48) ⟨by simp [own_ok, hc12], N0, e1⟩ (by decide) (by decide)
  · refine own_step (B := T1.setTop (mkF m 16 #[.val (.ref a1), .val (.long q2), .second, .val (.long (-9223372036854775808 : Int64)), .second, .unset, .unset] [(.ref a1)])) (fun t k => ?_) ?_
    · show Steps p.tables e below (T1.setTop (mkF m 12 #[.val (.ref a1), .val (.long q2), .second, .val (.long (-9223372036854775808 : Int64)), .second, .unset, .unset] [(.int (lcmpW tl (9223372036854775807 : Int64)))])) _
      refine XS.ifNo X1.here hx rfl (hb hby d15_12) rfl ((if0 _ _).trans (feq (fun q => hc12 ((lw_eq _ _).mp q))).1) ?_
      show Steps p.tables e below (T1.setTop (mkF m 15 #[.val (.ref a1), .val (.long q2), .second, .val (.long (-9223372036854775808 : Int64)), .second, .unset, .unset] [])) _
      refine XS.aloadN X1.here hx rfl (hb hby d15_15) rfl rfl ?_
      exact k
    obtain ⟨T2, X2, e2, st2⟩ := getF X1 hx hZ hown (host := "") (Or.inl (hw _ (List.mem_of_getElem? (i := 82) rfl))) Via.refl e1 F_t (g := (mkF m 16 #[.val (.ref a1), .val (.long q2), .second, .val (.long (-9223372036854775808 : Int64)), .second, .unset, .unset] [(.ref a1)])) rfl rfl (hb hby d15_16)
    refine own_step st2 ?_
    show own_Go p e below s _ _ _ (T2.setTop (mkF m 19 #[.val (.ref a1), .val (.long q2), .second, .val (.long (-9223372036854775808 : Int64)), .second, .unset, .unset] [(.long tl)]))
    refine own_step (B := T2.setTop (mkF m 33 #[.val (.ref a1), .val (.long q2), .second, .val (.long (-9223372036854775808 : Int64)), .second, .val (.long (tl * (1000000 : Int64))), .second] [(.int (lcmpW q2 ((-9223372036854775808 : Int64) + (tl * (1000000 : Int64)))))])) (fun t k => ?_) ?_
    · show Steps p.tables e below (T2.setTop (mkF m 19 #[.val (.ref a1), .val (.long q2), .second, .val (.long (-9223372036854775808 : Int64)), .second, .unset, .unset] [(.long tl)])) _
      refine X2.ldc2Long hx hown (mvT hZ (hw _ (List.mem_of_getElem? (i := 90) rfl))) (g := (mkF m 19 #[.val (.ref a1), .val (.long q2), .second, .val (.long (-9223372036854775808 : Int64)), .second, .unset, .unset] [(.long tl)])) rfl (hb hby d15_19) _ ?_
      show Steps p.tables e below (T2.setTop (mkF m 22 #[.val (.ref a1), .val (.long q2), .second, .val (.long (-9223372036854775808 : Int64)), .second, .unset, .unset] [(.long (1000000 : Int64)), (.long tl)])) _
      refine XS.lmul X2.here hx rfl (hb hby d15_22) rfl ?_
      show Steps p.tables e below (T2.setTop (mkF m 23 #[.val (.ref a1), .val (.long q2), .second, .val (.long (-9223372036854775808 : Int64)), .second, .unset, .unset] [(.long (tl * (1000000 : Int64)))])) _
      refine XS.lstore X2.here hx rfl (hb hby d15_23) rfl (l' := #[.val (.ref a1), .val (.long q2), .second, .val (.long (-9223372036854775808 : Int64)), .second, .val (.long (tl * (1000000 : Int64))), .second]) rfl ?_
      show Steps p.tables e below (T2.setTop (mkF m 25 #[.val (.ref a1), .val (.long q2), .second, .val (.long (-9223372036854775808 : Int64)), .second, .val (.long (tl * (1000000 : Int64))), .second] [])) _
      refine XS.lloadN X2.here hx rfl (hb hby d15_25) rfl ?_
      show Steps p.tables e below (T2.setTop (mkF m 26 #[.val (.ref a1), .val (.long q2), .second, .val (.long (-9223372036854775808 : Int64)), .second, .val (.long (tl * (1000000 : Int64))), .second] [(.long q2)])) _
      refine X2.ldc2Long hx hown (mvT hZ (hw _ (List.mem_of_getElem? (i := 89) rfl))) (g := (mkF m 26 #[.val (.ref a1), .val (.long q2), .second, .val (.long (-9223372036854775808 : Int64)), .second, .val (.long (tl * (1000000 : Int64))), .second] [(.long q2)])) rfl (hb hby d15_26) _ ?_
      show Steps p.tables e below (T2.setTop (mkF m 29 #[.val (.ref a1), .val (.long q2), .second, .val (.long (-9223372036854775808 : Int64)), .second, .val (.long (tl * (1000000 : Int64))), .second] [(.long (-9223372036854775808 : Int64)), (.long q2)])) _
      refine XS.lload X2.here hx rfl (hb hby d15_29) rfl ?_
      show Steps p.tables e below (T2.setTop (mkF m 31 #[.val (.ref a1), .val (.long q2), .second, .val (.long (-9223372036854775808 : Int64)), .second, .val (.long (tl * (1000000 : Int64))), .second] [(.long (tl * (1000000 : Int64))), (.long (-9223372036854775808 : Int64)), (.long q2)])) _
      refine XS.ladd X2.here hx rfl (hb hby d15_31) rfl ?_
      show Steps p.tables e below (T2.setTop (mkF m 32 #[.val (.ref a1), .val (.long q2), .second, .val (.long (-9223372036854775808 : Int64)), .second, .val (.long (tl * (1000000 : Int64))), .second] [(.long ((-9223372036854775808 : Int64) + (tl * (1000000 : Int64)))), (.long q2)])) _
      refine XS.lcmp X2.here hx rfl (hb hby d15_32) rfl ?_
      exact k
    by_cases hc33 : q2 < ((-9223372036854775808 : Int64) + (tl * (1000000 : Int64)))
    · refine own_step (B := T2.setTop (mkF m 48 #[.val (.ref a1), .val (.long q2), .second, .val (.long (-9223372036854775808 : Int64)), .second, .val (.long (tl * (1000000 : Int64))), .second] [(.long (-9223372036854775808 : Int64))])) (fun t k => ?_) ?_
      · show Steps p.tables e below (T2.setTop (mkF m 33 #[.val (.ref a1), .val (.long q2), .second, .val (.long (-9223372036854775808 : Int64)), .second, .val (.long (tl * (1000000 : Int64))), .second] [(.int (lcmpW q2 ((-9223372036854775808 : Int64) + (tl * (1000000 : Int64)))))])) _
        refine XS.ifNo X2.here hx rfl (hb hby d15_33) rfl ((if0 _ _).trans (tlt ((lw_lt _ _).mpr hc33)).2.1) ?_
        show Steps p.tables e below (T2.setTop (mkF m 36 #[.val (.ref a1), .val (.long q2), .second, .val (.long (-9223372036854775808 : Int64)), .second, .val (.long (tl * (1000000 : Int64))), .second] [])) _
        refine X2.ldc2Long hx hown (mvT hZ (hw _ (List.mem_of_getElem? (i := 89) rfl))) (g := (mkF m 36 #[.val (.ref a1), .val (.long q2), .second, .val (.long (-9223372036854775808 : Int64)), .second, .val (.long (tl * (1000000 : Int64))), .second] [])) rfl (hb hby d15_36) _ ?_
        show Steps p.tables e below (T2.setTop (mkF m 39 #[.val (.ref a1), .val (.long q2), .second, .val (.long (-9223372036854775808 : Int64)), .second, .val (.long (tl * (1000000 : Int64))), .second] [(.long (-9223372036854775808 : Int64))])) _
        refine XS.goto X2.here hx rfl (pc0 := 39) (pc' := 46) rfl (hb hby d15_39) (by decide) (by decide) ?_
        show Steps p.tables e below (T2.setTop (mkF m 46 #[.val (.ref a1), .val (.long q2), .second, .val (.long (-9223372036854775808 : Int64)), .second, .val (.long (tl * (1000000 : Int64))), .second] [(.long (-9223372036854775808 : Int64))])) _
        refine XS.lstoreN X2.here hx rfl (hb hby d15_46) rfl (l' := #[.val (.ref a1), .val (.long q2), .second, .val (.long (-9223372036854775808 : Int64)), .second, .val (.long (tl * (1000000 : Int64))), .second]) rfl ?_
        show Steps p.tables e below (T2.setTop (mkF m 47 #[.val (.ref a1), .val (.long q2), .second, .val (.long (-9223372036854775808 : Int64)), .second, .val (.long (tl * (1000000 : Int64))), .second] [])) _
        refine XS.lloadN X2.here hx rfl (hb hby d15_47) rfl ?_
        exact k
      exact own_retJ X2 hx Bd.notSynchronized Bd.returns (hb hby d15_48) ⟨by simp [own_ok, hc12, hc33], N0, e2⟩ (by decide) (by decide)
    · refine own_step (B := T2.setTop (mkF m 48 #[.val (.ref a1), .val (.long q2), .second, .val (.long (q2 - (tl * (1000000 : Int64)))), .second, .val (.long (tl * (1000000 : Int64))), .second] [(.long (q2 - (tl * (1000000 : Int64))))])) (fun t k => ?_) ?_
      · show Steps p.tables e below (T2.setTop (mkF m 33 #[.val (.ref a1), .val (.long q2), .second, .val (.long (-9223372036854775808 : Int64)), .second, .val (.long (tl * (1000000 : Int64))), .second] [(.int (lcmpW q2 ((-9223372036854775808 : Int64) + (tl * (1000000 : Int64)))))])) _
        refine XS.ifYes X2.here hx rfl (pc0 := 33) (pc' := 42) rfl (hb hby d15_33) rfl ((if0 _ _).trans (flt (fun q => hc33 ((lw_lt _ _).mp q))).2.1) (by decide) (by decide) ?_
        show Steps p.tables e below (T2.setTop (mkF m 42 #[.val (.ref a1), .val (.long q2), .second, .val (.long (-9223372036854775808 : Int64)), .second, .val (.long (tl * (1000000 : Int64))), .second] [])) _
        refine XS.lloadN X2.here hx rfl (hb hby d15_42) rfl ?_
        show Steps p.tables e below (T2.setTop (mkF m 43 #[.val (.ref a1), .val (.long q2), .second, .val (.long (-9223372036854775808 : Int64)), .second, .val (.long (tl * (1000000 : Int64))), .second] [(.long q2)])) _
        refine XS.lload X2.here hx rfl (hb hby d15_43) rfl ?_
        show Steps p.tables e below (T2.setTop (mkF m 45 #[.val (.ref a1), .val (.long q2), .second, .val (.long (-9223372036854775808 : Int64)), .second, .val (.long (tl * (1000000 : Int64))), .second] [(.long (tl * (1000000 : Int64))), (.long q2)])) _
        refine XS.lsub X2.here hx rfl (hb hby d15_45) rfl ?_
        show Steps p.tables e below (T2.setTop (mkF m 46 #[.val (.ref a1), .val (.long q2), .second, .val (.long (-9223372036854775808 : Int64)), .second, .val (.long (tl * (1000000 : Int64))), .second] [(.long (q2 - (tl * (1000000 : Int64))))])) _
        refine XS.lstoreN X2.here hx rfl (hb hby d15_46) rfl (l' := #[.val (.ref a1), .val (.long q2), .second, .val (.long (q2 - (tl * (1000000 : Int64)))), .second, .val (.long (tl * (1000000 : Int64))), .second]) rfl ?_
        show Steps p.tables e below (T2.setTop (mkF m 47 #[.val (.ref a1), .val (.long q2), .second, .val (.long (q2 - (tl * (1000000 : Int64)))), .second, .val (.long (tl * (1000000 : Int64))), .second] [])) _
        refine XS.lloadN X2.here hx rfl (hb hby d15_47) rfl ?_
        exact k
      exact own_retJ X2 hx Bd.notSynchronized Bd.returns (hb hby d15_48) ⟨by simp [own_ok, hc12, hc33], N0, e2⟩ (by decide) (by decide)
theorem pd_17 : parseMethodDescriptor "(II)I" = some ⟨[.int, .int], some .int⟩ := by decide +kernel
theorem pd_18 : parseMethodDescriptor "(Ljava/lang/String;IJ)V" = some ⟨[(.object "java/lang/String"), .int, .long], none⟩ := by decide +kernel
theorem pd_19 : parseMethodDescriptor "(J)J" = some ⟨[.long], some .long⟩ := by decide +kernel
theorem pn_20 : plainName "com/example/nests/nests/model/FamilyOldestKeptPinLaw" = true := by first | (simp [plainName, overriddenIn]; done) | decide +kernel
theorem own_rem64 (a b : Int64) (n : Int) (hb : b.toInt = n) (h0 : 0 ≤ a.toInt) (hn : 0 < n) : (a - a / b * b).toInt = a.toInt % n := by
  have l := a.toInt_lt
  have d : (a / b).toInt = a.toInt / n := by
    rw [Int64.toInt_div, hb, Int.tdiv_eq_ediv_of_nonneg h0]
    have := Int.ediv_nonneg h0 (Int.le_of_lt hn)
    have := Int.ediv_le_self n h0
    rw [Int.bmod_eq_of_le] <;> omega
  have e1 := Int.emod_nonneg a.toInt (Int.ne_of_gt hn)
  have e2 := Int.emod_add_mul_ediv a.toInt n
  have e3 : a.toInt / n * n = a.toInt - a.toInt % n := by rw [Int.mul_comm]; omega
  have e5 := Int.emod_lt_of_pos a.toInt hn
  have e6 := Int.ediv_nonneg h0 (Int.le_of_lt hn)
  have e7 : 0 ≤ a.toInt / n * n := Int.mul_nonneg e6 (Int.le_of_lt hn)
  have m : (a / b * b).toInt = a.toInt / n * n := by
    rw [Int64.toInt_mul, d, hb, Int.bmod_eq_of_le] <;> omega
  rw [Int64.toInt_sub, m, Int.bmod_eq_of_le] <;> omega
theorem own_mask (x : Int64) : 0 ≤ (x &&& (9223372036854775807 : Int64)).toInt := by
  have h : (x &&& (9223372036854775807 : Int64)).toBitVec.msb = false := by
    rw [Int64.toBitVec_and, BitVec.msb_and, show (9223372036854775807 : Int64).toBitVec.msb = false from rfl, Bool.and_false]
  have := BitVec.toInt_eq_toNat_of_msb h
  show 0 ≤ (x &&& (9223372036854775807 : Int64)).toBitVec.toInt
  omega
def own_ttl (fl : Int32) (tr : Int64) : Int64 := if (fl &&& (3 : Int32)) = (0 : Int32) then 9223372036854775807 else 1 + ((tr &&& 9223372036854775807) - (tr &&& 9223372036854775807) / 9223372036854 * 9223372036854)
theorem own_ttl_ok (fl : Int32) (tr : Int64) : own_ttl fl tr = 9223372036854775807 ∨ (¬ (own_ttl fl tr < 1) ∧ ¬ (9223372036854 < own_ttl fl tr)) := by
  unfold own_ttl
  by_cases q : (fl &&& (3 : Int32)) = (0 : Int32)
  · left; rw [if_pos q]
  · right; rw [if_neg q]
    have e1 : (1 : Int64).toInt = 1 := rfl
    have e2 : (9223372036854 : Int64).toInt = 9223372036854 := rfl
    have h0 : 0 ≤ (tr &&& 9223372036854775807).toInt := own_mask tr
    have er := own_rem64 (tr &&& 9223372036854775807) 9223372036854 9223372036854 rfl h0 (by decide)
    have ea : (1 + ((tr &&& 9223372036854775807) - (tr &&& 9223372036854775807) / 9223372036854 * 9223372036854) : Int64).toInt = 1 + (tr &&& 9223372036854775807).toInt % 9223372036854 := by
      rw [Int64.toInt_add, e1, er, Int.bmod_eq_of_le] <;> omega
    rw [Int64.lt_iff_toInt_lt, Int64.lt_iff_toInt_lt, ea, e1, e2]
    omega
theorem own_ttl_f (fl : Int32) (tr : Int64) : (fl &&& (3 : Int32)) = (0 : Int32) ↔ own_ttl fl tr = 9223372036854775807 := by
  constructor
  · intro q; unfold own_ttl; rw [if_pos q]
  · intro q
    apply Classical.byContradiction
    intro z
    have h := own_ttl_ok fl tr
    unfold own_ttl at q h
    rw [if_neg z] at q h
    have h0 : 0 ≤ (tr &&& 9223372036854775807).toInt := own_mask tr
    have e1 : (1 : Int64).toInt = 1 := rfl
    have e2 : (9223372036854 : Int64).toInt = 9223372036854 := rfl
    have er := own_rem64 (tr &&& 9223372036854775807) 9223372036854 9223372036854 rfl h0 (by decide)
    have ea : (1 + ((tr &&& 9223372036854775807) - (tr &&& 9223372036854775807) / 9223372036854 * 9223372036854) : Int64).toInt = 1 + (tr &&& 9223372036854775807).toInt % 9223372036854 := by
      rw [Int64.toInt_add, e1, er, Int.bmod_eq_of_le] <;> omega
    rw [← Int64.toInt_inj, ea, show (9223372036854775807 : Int64).toInt = 9223372036854775807 from rfl] at q
    omega
theorem own_vers (x : Int32) : ¬ ((if (1 : Int32) < x then x else (1 : Int32)) < (1 : Int32)) := by
  have e1 : (1 : Int32).toInt = 1 := rfl
  split
  · rename_i h; rw [Int32.lt_iff_toInt_lt, e1] at h; rw [Int32.lt_iff_toInt_lt, e1]; omega
  · decide
theorem ef_0 (m : MethodId) (now : Int64) (tr : Int64) (vr : Int32) (fl : Int32) : entryFrame m #[(.long now), (.long tr), (.int vr), (.int fl)] maxLocals = mkF m 0 #[.val (.long now), .second, .val (.long tr), .second, .val (.int vr), .val (.int fl), .unset, .unset, .unset, .unset, .unset, .unset, .unset, .unset, .unset, .unset, .unset, .unset, .unset] [] := by first | (simp [entryFrame, mkF, argsToLocals, Value.category, maxLocals]; done) | rfl
def Q0 (Z : State) (now : Int64) (tr : Int64) (vr : Int32) (fl : Int32) (cs : Int32) (vf : Value) (h0 : Heap) (n0 : Nat) (v : Option Value) (h : Heap) (L : List Loc) : Prop := v = some (.int (1 : Int32)) ∧ Fr n0 L
set_option maxRecDepth 65536 in
set_option maxHeartbeats 40000000 in
theorem rm0 (l : Launch) (Z : State) (a0 : Array Value) (hw : ∀ d ∈ tables_1, d.before a0 Z = true) (ws : List Jvm.Cond) (now : Int64) (tr : Int64) (vr : Int32) (fl : Int32) (cs : Int32) (vf : Value) (h0 : Heap) (n0 : Nat) (Z0 : n0 ≤ h0.size) (O0 : Old Z n0 h0) (hn0 : n0 = h0.size) (hcw : Jvm.Lit.compactW.before a0 Z = true) (hh0 : Jvm.Lit.constHeld Z "com/example/nests/nests/model/FamilyOldestKeptPinLaw" 22) (S_C : Sta Z h0 "java/lang/String" "COMPACT_STRINGS" "Z" (.int cs)) (hcs : ¬ (cs = (0 : Int32))) (S_F : Sta Z h0 "jdk/internal/util/Preconditions" "SIOOBE_FORMATTER" "Ljava/util/function/BiFunction;" vf) (hvf : vf.isRef = true) :
    MetFree l x (head1 (Jvm.Cond.code x code maxLocals ret :: ws) room_1) (fun a U => a = #[(.long now), (.long tr), (.int vr), (.int fl)] ∧ Z.Warmed39 U.vm ∧ U.heap = h0 ∧ IB Z U.vm []) (fun _ _ _ _ _ => True) (fun _ U o U' => ∃ v L, o = .returned v ∧ Q0 Z now tr vr fl cs vf h0 n0 v U'.heap L ∧ ReturnedEndW U o U' L room_1.cells room_1.slots) := by
  refine MetFree.of_bodySF (plainFor_of_name pn_20) hisR ?_
  intro p e s m args below meth c s₁ Bd hml0 hP hK
  obtain ⟨rfl, hZ, hh, I0⟩ := hP
  have hx := Bd.exec
  have hby := Bd.bytes
  have hml : c.maxLocals = 19 := hml0
  have hown : s.vm.findClass "com/example/nests/nests/model/FamilyOldestKeptPinLaw" = some m.cls := findClass_of_methodNamed Bd.named
  have hnm := (name_of_methodNamed Bd.named Bd.method).1
  have X0 : Stand p l e room_1 (s.setVm s.vm) m #[(.long now), (.long tr), (.int vr), (.int fl)] below meth c s₁ [] 0 0 := Stand.of_body Bd
  have e0 : s₁.heap = h0 := by rw [← hh, Bd.state]; rfl
  have N0 := Fr.nil n0
  have hS0 : s.Since s.vm s.heap.size := (State.WarmedH.refl s).since _
  have hk0 : s.heap.size ≤ h0.size := by rw [hh]; exact Nat.le_refl _
  show own_GoW p e below s (Q0 Z now tr vr fl cs vf h0 n0) room_1.cells room_1.slots _
  refine own_stepW (B := s₁.setTop (mkF m 0 #[.val (.long now), .second, .val (.long tr), .second, .val (.int vr), .val (.int fl), .unset, .unset, .unset, .unset, .unset, .unset, .unset, .unset, .unset, .unset, .unset, .unset, .unset] [])) (fun t k => castTop (ef_0 m now tr vr fl) k) ?_
  have wS : ∀ a ∈ Bundle.stringAtoms, a.before a0 Z = true := by
    intro a ha
    simp only [Bundle.stringAtoms, Bundle.sN, List.mem_cons, List.not_mem_nil, or_false] at ha
    rcases ha with rfl | rfl | rfl | rfl | rfl | rfl | rfl
    · exact (hw _ (List.mem_of_getElem? (i := 11) rfl))
    · exact (hw _ (List.mem_of_getElem? (i := 12) rfl))
    · exact (hw _ (List.mem_of_getElem? (i := 13) rfl))
    · exact (hw _ (List.mem_of_getElem? (i := 14) rfl))
    · exact (hw _ (List.mem_of_getElem? (i := 15) rfl))
    · exact (hw _ (List.mem_of_getElem? (i := 16) rfl))
    · exact (hw _ (List.mem_of_getElem? (i := 17) rfl))
  have hkeep : ∀ (b : Addr) (cl : Cell), Z.heap[b]? = some cl → s.heap[b]? = some cl := fun b cl q => by rw [hh]; exact O0.2.2 b cl q
  refine own_stepW (B := s₁.setTop (mkF m 12 #[.val (.long now), .second, .val (.long tr), .second, .val (.int vr), .val (.int fl), .unset, .unset, .unset, .unset, .unset, .unset, .unset, .unset, .unset, .unset, .unset, .unset, .unset] [(.int (own_b ((fl &&& (3 : Int32)) = (0 : Int32))))])) (fun t k => ?_) ?_
  · show Steps p.tables e below (s₁.setTop (mkF m 0 #[.val (.long now), .second, .val (.long tr), .second, .val (.int vr), .val (.int fl), .unset, .unset, .unset, .unset, .unset, .unset, .unset, .unset, .unset, .unset, .unset, .unset, .unset] [])) _
    refine XS.iload X0.here hx rfl (hb hby at_0) rfl ?_
    show Steps p.tables e below (s₁.setTop (mkF m 2 #[.val (.long now), .second, .val (.long tr), .second, .val (.int vr), .val (.int fl), .unset, .unset, .unset, .unset, .unset, .unset, .unset, .unset, .unset, .unset, .unset, .unset, .unset] [(.int fl)])) _
    refine XS.iconst X0.here hx rfl (hb hby at_2) ?_
    show Steps p.tables e below (s₁.setTop (mkF m 3 #[.val (.long now), .second, .val (.long tr), .second, .val (.int vr), .val (.int fl), .unset, .unset, .unset, .unset, .unset, .unset, .unset, .unset, .unset, .unset, .unset, .unset, .unset] [(.int (3 : Int32)), (.int fl)])) _
    refine XS.iand X0.here hx rfl (hb hby at_3) rfl ?_
    by_cases hc4 : (fl &&& (3 : Int32)) = (0 : Int32)
    · show Steps p.tables e below (s₁.setTop (mkF m 4 #[.val (.long now), .second, .val (.long tr), .second, .val (.int vr), .val (.int fl), .unset, .unset, .unset, .unset, .unset, .unset, .unset, .unset, .unset, .unset, .unset, .unset, .unset] [(.int (fl &&& (3 : Int32)))])) _
      refine XS.ifNo X0.here hx rfl (hb hby at_4) rfl ((if0 _ _).trans (teq hc4).2) ?_
      show Steps p.tables e below (s₁.setTop (mkF m 7 #[.val (.long now), .second, .val (.long tr), .second, .val (.int vr), .val (.int fl), .unset, .unset, .unset, .unset, .unset, .unset, .unset, .unset, .unset, .unset, .unset, .unset, .unset] [])) _
      refine XS.iconst X0.here hx rfl (hb hby at_7) ?_
      show Steps p.tables e below (s₁.setTop (mkF m 8 #[.val (.long now), .second, .val (.long tr), .second, .val (.int vr), .val (.int fl), .unset, .unset, .unset, .unset, .unset, .unset, .unset, .unset, .unset, .unset, .unset, .unset, .unset] [(.int (1 : Int32))])) _
      refine XS.goto X0.here hx rfl (pc0 := 8) (pc' := 12) rfl (hb hby at_8) (by decide) (by decide) ?_
      show Steps p.tables e below (s₁.setTop (mkF m 12 #[.val (.long now), .second, .val (.long tr), .second, .val (.int vr), .val (.int fl), .unset, .unset, .unset, .unset, .unset, .unset, .unset, .unset, .unset, .unset, .unset, .unset, .unset] [(.int (1 : Int32))])) _
      have q1 : (own_b ((fl &&& (3 : Int32)) = (0 : Int32))) = (1 : Int32) := by simp [own_b, hc4]
      rw [q1] at k
      exact k
    · show Steps p.tables e below (s₁.setTop (mkF m 4 #[.val (.long now), .second, .val (.long tr), .second, .val (.int vr), .val (.int fl), .unset, .unset, .unset, .unset, .unset, .unset, .unset, .unset, .unset, .unset, .unset, .unset, .unset] [(.int (fl &&& (3 : Int32)))])) _
      refine XS.ifYes X0.here hx rfl (pc0 := 4) (pc' := 11) rfl (hb hby at_4) rfl ((if0 _ _).trans (feq hc4).2) (by decide) (by decide) ?_
      show Steps p.tables e below (s₁.setTop (mkF m 11 #[.val (.long now), .second, .val (.long tr), .second, .val (.int vr), .val (.int fl), .unset, .unset, .unset, .unset, .unset, .unset, .unset, .unset, .unset, .unset, .unset, .unset, .unset] [])) _
      refine XS.iconst X0.here hx rfl (hb hby at_11) ?_
      show Steps p.tables e below (s₁.setTop (mkF m 12 #[.val (.long now), .second, .val (.long tr), .second, .val (.int vr), .val (.int fl), .unset, .unset, .unset, .unset, .unset, .unset, .unset, .unset, .unset, .unset, .unset, .unset, .unset] [(.int (0 : Int32))])) _
      have q2 : (own_b ((fl &&& (3 : Int32)) = (0 : Int32))) = (0 : Int32) := by simp [own_b, hc4]
      rw [q2] at k
      exact k
  refine own_stepW (B := s₁.setTop (mkF m 14 #[.val (.long now), .second, .val (.long tr), .second, .val (.int vr), .val (.int fl), .val (.int (own_b ((fl &&& (3 : Int32)) = (0 : Int32)))), .unset, .unset, .unset, .unset, .unset, .unset, .unset, .unset, .unset, .unset, .unset, .unset] [])) (fun t k => ?_) ?_
  · show Steps p.tables e below (s₁.setTop (mkF m 12 #[.val (.long now), .second, .val (.long tr), .second, .val (.int vr), .val (.int fl), .unset, .unset, .unset, .unset, .unset, .unset, .unset, .unset, .unset, .unset, .unset, .unset, .unset] [(.int (own_b ((fl &&& (3 : Int32)) = (0 : Int32))))])) _
    refine XS.istore X0.here hx rfl (hb hby at_12) rfl (l' := #[.val (.long now), .second, .val (.long tr), .second, .val (.int vr), .val (.int fl), .val (.int (own_b ((fl &&& (3 : Int32)) = (0 : Int32)))), .unset, .unset, .unset, .unset, .unset, .unset, .unset, .unset, .unset, .unset, .unset, .unset]) rfl ?_
    exact k
  refine own_stepW (B := s₁.setTop (mkF m 36 #[.val (.long now), .second, .val (.long tr), .second, .val (.int vr), .val (.int fl), .val (.int (own_b ((fl &&& (3 : Int32)) = (0 : Int32)))), .unset, .unset, .unset, .unset, .unset, .unset, .unset, .unset, .unset, .unset, .unset, .unset] [(.long (own_ttl fl tr))])) (fun t k => ?_) ?_
  · show Steps p.tables e below (s₁.setTop (mkF m 14 #[.val (.long now), .second, .val (.long tr), .second, .val (.int vr), .val (.int fl), .val (.int (own_b ((fl &&& (3 : Int32)) = (0 : Int32)))), .unset, .unset, .unset, .unset, .unset, .unset, .unset, .unset, .unset, .unset, .unset, .unset] [])) _
    refine XS.iload X0.here hx rfl (hb hby at_14) rfl ?_
    by_cases hc16 : (own_b ((fl &&& (3 : Int32)) = (0 : Int32))) = (0 : Int32)
    · show Steps p.tables e below (s₁.setTop (mkF m 16 #[.val (.long now), .second, .val (.long tr), .second, .val (.int vr), .val (.int fl), .val (.int (own_b ((fl &&& (3 : Int32)) = (0 : Int32)))), .unset, .unset, .unset, .unset, .unset, .unset, .unset, .unset, .unset, .unset, .unset, .unset] [(.int (own_b ((fl &&& (3 : Int32)) = (0 : Int32))))])) _
      refine XS.ifYes X0.here hx rfl (pc0 := 16) (pc' := 25) rfl (hb hby at_16) rfl ((if0 _ _).trans (teq hc16).1) (by decide) (by decide) ?_
      show Steps p.tables e below (s₁.setTop (mkF m 25 #[.val (.long now), .second, .val (.long tr), .second, .val (.int vr), .val (.int fl), .val (.int (own_b ((fl &&& (3 : Int32)) = (0 : Int32)))), .unset, .unset, .unset, .unset, .unset, .unset, .unset, .unset, .unset, .unset, .unset, .unset] [])) _
      refine XS.lconst X0.here hx rfl (hb hby at_25) ?_
      show Steps p.tables e below (s₁.setTop (mkF m 26 #[.val (.long now), .second, .val (.long tr), .second, .val (.int vr), .val (.int fl), .val (.int (own_b ((fl &&& (3 : Int32)) = (0 : Int32)))), .unset, .unset, .unset, .unset, .unset, .unset, .unset, .unset, .unset, .unset, .unset, .unset] [(.long (1 : Int64))])) _
      refine XS.lloadN X0.here hx rfl (hb hby at_26) rfl ?_
      show Steps p.tables e below (s₁.setTop (mkF m 27 #[.val (.long now), .second, .val (.long tr), .second, .val (.int vr), .val (.int fl), .val (.int (own_b ((fl &&& (3 : Int32)) = (0 : Int32)))), .unset, .unset, .unset, .unset, .unset, .unset, .unset, .unset, .unset, .unset, .unset, .unset] [(.long tr), (.long (1 : Int64))])) _
      refine X0.ldc2Long hx hown (mvT hZ (hw _ (List.mem_of_getElem? (i := 0) rfl))) (g := (mkF m 27 #[.val (.long now), .second, .val (.long tr), .second, .val (.int vr), .val (.int fl), .val (.int (own_b ((fl &&& (3 : Int32)) = (0 : Int32)))), .unset, .unset, .unset, .unset, .unset, .unset, .unset, .unset, .unset, .unset, .unset, .unset] [(.long tr), (.long (1 : Int64))])) rfl (hb hby at_27) _ ?_
      show Steps p.tables e below (s₁.setTop (mkF m 30 #[.val (.long now), .second, .val (.long tr), .second, .val (.int vr), .val (.int fl), .val (.int (own_b ((fl &&& (3 : Int32)) = (0 : Int32)))), .unset, .unset, .unset, .unset, .unset, .unset, .unset, .unset, .unset, .unset, .unset, .unset] [(.long (9223372036854775807 : Int64)), (.long tr), (.long (1 : Int64))])) _
      refine XS.land X0.here hx rfl (hb hby at_30) rfl ?_
      show Steps p.tables e below (s₁.setTop (mkF m 31 #[.val (.long now), .second, .val (.long tr), .second, .val (.int vr), .val (.int fl), .val (.int (own_b ((fl &&& (3 : Int32)) = (0 : Int32)))), .unset, .unset, .unset, .unset, .unset, .unset, .unset, .unset, .unset, .unset, .unset, .unset] [(.long (tr &&& (9223372036854775807 : Int64))), (.long (1 : Int64))])) _
      refine X0.ldc2Long hx hown (mvT hZ (hw _ (List.mem_of_getElem? (i := 1) rfl))) (g := (mkF m 31 #[.val (.long now), .second, .val (.long tr), .second, .val (.int vr), .val (.int fl), .val (.int (own_b ((fl &&& (3 : Int32)) = (0 : Int32)))), .unset, .unset, .unset, .unset, .unset, .unset, .unset, .unset, .unset, .unset, .unset, .unset] [(.long (tr &&& (9223372036854775807 : Int64))), (.long (1 : Int64))])) rfl (hb hby at_31) _ ?_
      show Steps p.tables e below (s₁.setTop (mkF m 34 #[.val (.long now), .second, .val (.long tr), .second, .val (.int vr), .val (.int fl), .val (.int (own_b ((fl &&& (3 : Int32)) = (0 : Int32)))), .unset, .unset, .unset, .unset, .unset, .unset, .unset, .unset, .unset, .unset, .unset, .unset] [(.long (9223372036854 : Int64)), (.long (tr &&& (9223372036854775807 : Int64))), (.long (1 : Int64))])) _
      refine XS.lrem X0.here hx rfl (hb hby at_34) rfl (by decide) ?_
      show Steps p.tables e below (s₁.setTop (mkF m 35 #[.val (.long now), .second, .val (.long tr), .second, .val (.int vr), .val (.int fl), .val (.int (own_b ((fl &&& (3 : Int32)) = (0 : Int32)))), .unset, .unset, .unset, .unset, .unset, .unset, .unset, .unset, .unset, .unset, .unset, .unset] [(.long ((tr &&& (9223372036854775807 : Int64)) - (tr &&& (9223372036854775807 : Int64)) / (9223372036854 : Int64) * (9223372036854 : Int64))), (.long (1 : Int64))])) _
      refine XS.ladd X0.here hx rfl (hb hby at_35) rfl ?_
      show Steps p.tables e below (s₁.setTop (mkF m 36 #[.val (.long now), .second, .val (.long tr), .second, .val (.int vr), .val (.int fl), .val (.int (own_b ((fl &&& (3 : Int32)) = (0 : Int32)))), .unset, .unset, .unset, .unset, .unset, .unset, .unset, .unset, .unset, .unset, .unset, .unset] [(.long ((1 : Int64) + ((tr &&& (9223372036854775807 : Int64)) - (tr &&& (9223372036854775807 : Int64)) / (9223372036854 : Int64) * (9223372036854 : Int64))))])) _
      have q3 : (own_ttl fl tr) = ((1 : Int64) + ((tr &&& (9223372036854775807 : Int64)) - (tr &&& (9223372036854775807 : Int64)) / (9223372036854 : Int64) * (9223372036854 : Int64))) := by simp_all [own_ttl, own_b, hc16]
      rw [q3] at k
      exact k
    · show Steps p.tables e below (s₁.setTop (mkF m 16 #[.val (.long now), .second, .val (.long tr), .second, .val (.int vr), .val (.int fl), .val (.int (own_b ((fl &&& (3 : Int32)) = (0 : Int32)))), .unset, .unset, .unset, .unset, .unset, .unset, .unset, .unset, .unset, .unset, .unset, .unset] [(.int (own_b ((fl &&& (3 : Int32)) = (0 : Int32))))])) _
      refine XS.ifNo X0.here hx rfl (hb hby at_16) rfl ((if0 _ _).trans (feq hc16).1) ?_
      show Steps p.tables e below (s₁.setTop (mkF m 19 #[.val (.long now), .second, .val (.long tr), .second, .val (.int vr), .val (.int fl), .val (.int (own_b ((fl &&& (3 : Int32)) = (0 : Int32)))), .unset, .unset, .unset, .unset, .unset, .unset, .unset, .unset, .unset, .unset, .unset, .unset] [])) _
      refine X0.ldc2Long hx hown (mvT hZ (hw _ (List.mem_of_getElem? (i := 0) rfl))) (g := (mkF m 19 #[.val (.long now), .second, .val (.long tr), .second, .val (.int vr), .val (.int fl), .val (.int (own_b ((fl &&& (3 : Int32)) = (0 : Int32)))), .unset, .unset, .unset, .unset, .unset, .unset, .unset, .unset, .unset, .unset, .unset, .unset] [])) rfl (hb hby at_19) _ ?_
      show Steps p.tables e below (s₁.setTop (mkF m 22 #[.val (.long now), .second, .val (.long tr), .second, .val (.int vr), .val (.int fl), .val (.int (own_b ((fl &&& (3 : Int32)) = (0 : Int32)))), .unset, .unset, .unset, .unset, .unset, .unset, .unset, .unset, .unset, .unset, .unset, .unset] [(.long (9223372036854775807 : Int64))])) _
      refine XS.goto X0.here hx rfl (pc0 := 22) (pc' := 36) rfl (hb hby at_22) (by decide) (by decide) ?_
      show Steps p.tables e below (s₁.setTop (mkF m 36 #[.val (.long now), .second, .val (.long tr), .second, .val (.int vr), .val (.int fl), .val (.int (own_b ((fl &&& (3 : Int32)) = (0 : Int32)))), .unset, .unset, .unset, .unset, .unset, .unset, .unset, .unset, .unset, .unset, .unset, .unset] [(.long (9223372036854775807 : Int64))])) _
      have q4 : (own_ttl fl tr) = (9223372036854775807 : Int64) := by simp_all [own_ttl, own_b, hc16]
      rw [q4] at k
      exact k
  refine own_stepW (B := s₁.setTop (mkF m 38 #[.val (.long now), .second, .val (.long tr), .second, .val (.int vr), .val (.int fl), .val (.int (own_b ((fl &&& (3 : Int32)) = (0 : Int32)))), .val (.long (own_ttl fl tr)), .second, .unset, .unset, .unset, .unset, .unset, .unset, .unset, .unset, .unset, .unset] [])) (fun t k => ?_) ?_
  · show Steps p.tables e below (s₁.setTop (mkF m 36 #[.val (.long now), .second, .val (.long tr), .second, .val (.int vr), .val (.int fl), .val (.int (own_b ((fl &&& (3 : Int32)) = (0 : Int32)))), .unset, .unset, .unset, .unset, .unset, .unset, .unset, .unset, .unset, .unset, .unset, .unset] [(.long (own_ttl fl tr))])) _
    refine XS.lstore X0.here hx rfl (hb hby at_36) rfl (l' := #[.val (.long now), .second, .val (.long tr), .second, .val (.int vr), .val (.int fl), .val (.int (own_b ((fl &&& (3 : Int32)) = (0 : Int32)))), .val (.long (own_ttl fl tr)), .second, .unset, .unset, .unset, .unset, .unset, .unset, .unset, .unset, .unset, .unset]) rfl ?_
    exact k
  refine own_stepW (B := s₁.setTop (mkF m 44 #[.val (.long now), .second, .val (.long tr), .second, .val (.int vr), .val (.int fl), .val (.int (own_b ((fl &&& (3 : Int32)) = (0 : Int32)))), .val (.long (own_ttl fl tr)), .second, .unset, .unset, .unset, .unset, .unset, .unset, .unset, .unset, .unset, .unset] [(.int (vr &&& (2147483647 : Int32))), (.int (1 : Int32))])) (fun t k => ?_) ?_
  · show Steps p.tables e below (s₁.setTop (mkF m 38 #[.val (.long now), .second, .val (.long tr), .second, .val (.int vr), .val (.int fl), .val (.int (own_b ((fl &&& (3 : Int32)) = (0 : Int32)))), .val (.long (own_ttl fl tr)), .second, .unset, .unset, .unset, .unset, .unset, .unset, .unset, .unset, .unset, .unset] [])) _
    refine XS.iconst X0.here hx rfl (hb hby at_38) ?_
    show Steps p.tables e below (s₁.setTop (mkF m 39 #[.val (.long now), .second, .val (.long tr), .second, .val (.int vr), .val (.int fl), .val (.int (own_b ((fl &&& (3 : Int32)) = (0 : Int32)))), .val (.long (own_ttl fl tr)), .second, .unset, .unset, .unset, .unset, .unset, .unset, .unset, .unset, .unset, .unset] [(.int (1 : Int32))])) _
    refine XS.iload X0.here hx rfl (hb hby at_39) rfl ?_
    show Steps p.tables e below (s₁.setTop (mkF m 41 #[.val (.long now), .second, .val (.long tr), .second, .val (.int vr), .val (.int fl), .val (.int (own_b ((fl &&& (3 : Int32)) = (0 : Int32)))), .val (.long (own_ttl fl tr)), .second, .unset, .unset, .unset, .unset, .unset, .unset, .unset, .unset, .unset, .unset] [(.int vr), (.int (1 : Int32))])) _
    refine X0.ldcInt hx hown (mvT hZ (hw _ (List.mem_of_getElem? (i := 2) rfl))) (g := (mkF m 41 #[.val (.long now), .second, .val (.long tr), .second, .val (.int vr), .val (.int fl), .val (.int (own_b ((fl &&& (3 : Int32)) = (0 : Int32)))), .val (.long (own_ttl fl tr)), .second, .unset, .unset, .unset, .unset, .unset, .unset, .unset, .unset, .unset, .unset] [(.int vr), (.int (1 : Int32))])) rfl (hb hby at_41) _ ?_
    show Steps p.tables e below (s₁.setTop (mkF m 43 #[.val (.long now), .second, .val (.long tr), .second, .val (.int vr), .val (.int fl), .val (.int (own_b ((fl &&& (3 : Int32)) = (0 : Int32)))), .val (.long (own_ttl fl tr)), .second, .unset, .unset, .unset, .unset, .unset, .unset, .unset, .unset, .unset, .unset] [(.int (2147483647 : Int32)), (.int vr), (.int (1 : Int32))])) _
    refine XS.iand X0.here hx rfl (hb hby at_43) rfl ?_
    exact k
  obtain ⟨_, _, ⟨T5, L5, k5, n5⟩, -, X5, ⟨Lc5, hQ5, l5, y5, z5⟩, st5⟩ := Jvm.LawKit.callS X0 hx (y := (⟨"java/lang/Math", "max", "(II)I"⟩ : MethodName)) hown (mvT hZ (hw _ (List.mem_of_getElem? (i := 3) rfl))) (mvT hZ (hw _ (List.mem_of_getElem? (i := 4) rfl))) (mvT hZ (hw _ (List.mem_of_getElem? (i := 5) rfl))) (mvT hZ (hw _ (List.mem_of_getElem? (i := 6) rfl))) (by decide) (backOf (W := 0) (rm1 l Z a0 hw [] (1 : Int32) (vr &&& (2147483647 : Int32))  h0 n0 Z0 ) hZ (hw _ (List.mem_of_getElem? (i := 6) rfl)) (hw _ (List.mem_of_getElem? (i := 5) rfl)) (by decide) (by decide)) (g := (mkF m 44 #[.val (.long now), .second, .val (.long tr), .second, .val (.int vr), .val (.int fl), .val (.int (own_b ((fl &&& (3 : Int32)) = (0 : Int32)))), .val (.long (own_ttl fl tr)), .second, .unset, .unset, .unset, .unset, .unset, .unset, .unset, .unset, .unset, .unset] [(.int (vr &&& (2147483647 : Int32))), (.int (1 : Int32))])) rfl (by rw [hml]; rfl) (argsL := [(.int (1 : Int32)), (.int (vr &&& (2147483647 : Int32)))]) (rest := []) (lenOf pd_17 rfl) rfl (by show 2 * 0 + _ ≤ _; exact Nat.le_of_eq rfl) (hb hby at_44) (fun _ _ => ⟨rfl, e0, (by decide : 0 + 0 ≤ _), (by decide : 0 + 0 ≤ _)⟩)
  dsimp only [Pt.U, Pt.locs, Pt.cells, Pt.slots] at X5 l5 y5 z5 st5 hQ5
  subst l5 y5 z5
  obtain ⟨rfl, N5q, e5⟩ := hQ5
  have N5 := Fr.app N0 N5q
  refine own_stepW st5 ?_
  show own_GoW p e below s _ _ _ (T5.setTop (mkF m 47 #[.val (.long now), .second, .val (.long tr), .second, .val (.int vr), .val (.int fl), .val (.int (own_b ((fl &&& (3 : Int32)) = (0 : Int32)))), .val (.long (own_ttl fl tr)), .second, .unset, .unset, .unset, .unset, .unset, .unset, .unset, .unset, .unset, .unset] [(.int (if (1 : Int32) < (vr &&& (2147483647 : Int32)) then (vr &&& (2147483647 : Int32)) else (1 : Int32)))]))
  refine own_stepW (B := T5.setTop (mkF m 49 #[.val (.long now), .second, .val (.long tr), .second, .val (.int vr), .val (.int fl), .val (.int (own_b ((fl &&& (3 : Int32)) = (0 : Int32)))), .val (.long (own_ttl fl tr)), .second, .val (.int (if (1 : Int32) < (vr &&& (2147483647 : Int32)) then (vr &&& (2147483647 : Int32)) else (1 : Int32))), .unset, .unset, .unset, .unset, .unset, .unset, .unset, .unset, .unset] [])) (fun t k => ?_) ?_
  · show Steps p.tables e below (T5.setTop (mkF m 47 #[.val (.long now), .second, .val (.long tr), .second, .val (.int vr), .val (.int fl), .val (.int (own_b ((fl &&& (3 : Int32)) = (0 : Int32)))), .val (.long (own_ttl fl tr)), .second, .unset, .unset, .unset, .unset, .unset, .unset, .unset, .unset, .unset, .unset] [(.int (if (1 : Int32) < (vr &&& (2147483647 : Int32)) then (vr &&& (2147483647 : Int32)) else (1 : Int32)))])) _
    refine XS.istore X5.here hx rfl (hb hby at_47) rfl (l' := #[.val (.long now), .second, .val (.long tr), .second, .val (.int vr), .val (.int fl), .val (.int (own_b ((fl &&& (3 : Int32)) = (0 : Int32)))), .val (.long (own_ttl fl tr)), .second, .val (.int (if (1 : Int32) < (vr &&& (2147483647 : Int32)) then (vr &&& (2147483647 : Int32)) else (1 : Int32))), .unset, .unset, .unset, .unset, .unset, .unset, .unset, .unset, .unset]) rfl ?_
    exact k
  obtain ⟨T6, h6, X6, e6, E6, A6, D6, -, st6⟩ := newO X5 hx hZ hown (hw _ (List.mem_of_getElem? (i := 7) rfl)) (hw _ (List.mem_of_getElem? (i := 8) rfl)) (hw _ (List.mem_of_getElem? (i := 9) rfl)) e5 (g := (mkF m 49 #[.val (.long now), .second, .val (.long tr), .second, .val (.int vr), .val (.int fl), .val (.int (own_b ((fl &&& (3 : Int32)) = (0 : Int32)))), .val (.long (own_ttl fl tr)), .second, .val (.int (if (1 : Int32) < (vr &&& (2147483647 : Int32)) then (vr &&& (2147483647 : Int32)) else (1 : Int32))), .unset, .unset, .unset, .unset, .unset, .unset, .unset, .unset, .unset] [])) rfl (hb hby at_49) (by decide) (by decide)
  obtain ⟨b6, g6⟩ : ∃ z, z = h0.size := ⟨_, rfl⟩
  rw [← g6] at A6 D6 st6
  have g_b6 : n0 ≤ b6 := Nat.le_trans Z0 (Nat.le_of_eq g6.symm)
  have F_name_b6 : Fld Z h6 b6 "com/example/nests/nests/model/Family" "name" "Ljava/lang/String;" .null := D6 (Or.inr (hw _ (List.mem_of_getElem? (i := 79) rfl))) (ty := (.object "java/lang/String")) (by decide)
  have F_maxVersions_b6 : Fld Z h6 b6 "com/example/nests/nests/model/Family" "maxVersions" "I" (.int (0 : Int32)) := D6 (Or.inr (hw _ (List.mem_of_getElem? (i := 81) rfl))) (ty := .int) (by decide)
  have F_ttlSeconds_b6 : Fld Z h6 b6 "com/example/nests/nests/model/Family" "ttlSeconds" "J" (.long (0 : Int64)) := D6 (Or.inr (hw _ (List.mem_of_getElem? (i := 83) rfl))) (ty := .long) (by decide)
  refine own_stepW st6 ?_
  show own_GoW p e below s _ _ _ (T6.setTop (mkF m 52 #[.val (.long now), .second, .val (.long tr), .second, .val (.int vr), .val (.int fl), .val (.int (own_b ((fl &&& (3 : Int32)) = (0 : Int32)))), .val (.long (own_ttl fl tr)), .second, .val (.int (if (1 : Int32) < (vr &&& (2147483647 : Int32)) then (vr &&& (2147483647 : Int32)) else (1 : Int32))), .unset, .unset, .unset, .unset, .unset, .unset, .unset, .unset, .unset] [(.ref b6)]))
  refine own_stepW (B := T6.setTop (mkF m 53 #[.val (.long now), .second, .val (.long tr), .second, .val (.int vr), .val (.int fl), .val (.int (own_b ((fl &&& (3 : Int32)) = (0 : Int32)))), .val (.long (own_ttl fl tr)), .second, .val (.int (if (1 : Int32) < (vr &&& (2147483647 : Int32)) then (vr &&& (2147483647 : Int32)) else (1 : Int32))), .unset, .unset, .unset, .unset, .unset, .unset, .unset, .unset, .unset] [(.ref b6), (.ref b6)])) (fun t k => ?_) ?_
  · show Steps p.tables e below (T6.setTop (mkF m 52 #[.val (.long now), .second, .val (.long tr), .second, .val (.int vr), .val (.int fl), .val (.int (own_b ((fl &&& (3 : Int32)) = (0 : Int32)))), .val (.long (own_ttl fl tr)), .second, .val (.int (if (1 : Int32) < (vr &&& (2147483647 : Int32)) then (vr &&& (2147483647 : Int32)) else (1 : Int32))), .unset, .unset, .unset, .unset, .unset, .unset, .unset, .unset, .unset] [(.ref b6)])) _
    refine XS.dup X6.here hx rfl (hb hby at_52) rfl rfl ?_
    exact k
  obtain ⟨sa7, T7, h7, kn7, sb7, sk7, X7, e7, E7, hS7, hk7, hZ, hown, Es7, Fc7, Fv7, Vs7, la7, lb7, I7, Lt7, st7⟩ := ldcSVL X6 hx hZ hown (hw _ (List.mem_of_getElem? (i := 10) rfl)) wS e6 hS0 (Nat.le_trans hk0 E6.1) (by rw [hh, ← hn0]; exact N5) hkeep I0 (by decide) hh0 hcw (vs := [(.int (102 : Int32))]) (z := (1 : Int32)) ⟨by decide, by decide⟩ (by decide) rfl (g := (mkF m 53 #[.val (.long now), .second, .val (.long tr), .second, .val (.int vr), .val (.int fl), .val (.int (own_b ((fl &&& (3 : Int32)) = (0 : Int32)))), .val (.long (own_ttl fl tr)), .second, .val (.int (if (1 : Int32) < (vr &&& (2147483647 : Int32)) then (vr &&& (2147483647 : Int32)) else (1 : Int32))), .unset, .unset, .unset, .unset, .unset, .unset, .unset, .unset, .unset] [(.ref b6), (.ref b6)])) rfl (hb hby at_53) (n := 4) (by decide) (by decide) (by decide) (by decide)
  refine own_stepW st7 ?_
  show own_GoW p e below s _ _ _ (T7.setTop (mkF m 55 #[.val (.long now), .second, .val (.long tr), .second, .val (.int vr), .val (.int fl), .val (.int (own_b ((fl &&& (3 : Int32)) = (0 : Int32)))), .val (.long (own_ttl fl tr)), .second, .val (.int (if (1 : Int32) < (vr &&& (2147483647 : Int32)) then (vr &&& (2147483647 : Int32)) else (1 : Int32))), .unset, .unset, .unset, .unset, .unset, .unset, .unset, .unset, .unset] [(.ref sa7), (.ref b6), (.ref b6)]))
  refine own_stepW (B := T7.setTop (mkF m 59 #[.val (.long now), .second, .val (.long tr), .second, .val (.int vr), .val (.int fl), .val (.int (own_b ((fl &&& (3 : Int32)) = (0 : Int32)))), .val (.long (own_ttl fl tr)), .second, .val (.int (if (1 : Int32) < (vr &&& (2147483647 : Int32)) then (vr &&& (2147483647 : Int32)) else (1 : Int32))), .unset, .unset, .unset, .unset, .unset, .unset, .unset, .unset, .unset] [(.long (own_ttl fl tr)), (.int (if (1 : Int32) < (vr &&& (2147483647 : Int32)) then (vr &&& (2147483647 : Int32)) else (1 : Int32))), (.ref sa7), (.ref b6), (.ref b6)])) (fun t k => ?_) ?_
  · show Steps p.tables e below (T7.setTop (mkF m 55 #[.val (.long now), .second, .val (.long tr), .second, .val (.int vr), .val (.int fl), .val (.int (own_b ((fl &&& (3 : Int32)) = (0 : Int32)))), .val (.long (own_ttl fl tr)), .second, .val (.int (if (1 : Int32) < (vr &&& (2147483647 : Int32)) then (vr &&& (2147483647 : Int32)) else (1 : Int32))), .unset, .unset, .unset, .unset, .unset, .unset, .unset, .unset, .unset] [(.ref sa7), (.ref b6), (.ref b6)])) _
    refine XS.iload X7.here hx rfl (hb hby at_55) rfl ?_
    show Steps p.tables e below (T7.setTop (mkF m 57 #[.val (.long now), .second, .val (.long tr), .second, .val (.int vr), .val (.int fl), .val (.int (own_b ((fl &&& (3 : Int32)) = (0 : Int32)))), .val (.long (own_ttl fl tr)), .second, .val (.int (if (1 : Int32) < (vr &&& (2147483647 : Int32)) then (vr &&& (2147483647 : Int32)) else (1 : Int32))), .unset, .unset, .unset, .unset, .unset, .unset, .unset, .unset, .unset] [(.int (if (1 : Int32) < (vr &&& (2147483647 : Int32)) then (vr &&& (2147483647 : Int32)) else (1 : Int32))), (.ref sa7), (.ref b6), (.ref b6)])) _
    refine XS.lload X7.here hx rfl (hb hby at_57) rfl ?_
    exact k
  obtain ⟨_, _, ⟨T8, L8, k8, n8⟩, -, X8, hSx8, gx8, ⟨Lc8, hQ8, l8, y8, z8⟩, st8⟩ := X7.specialBackS hx (y := (⟨"com/example/nests/nests/model/Family", "<init>", "(Ljava/lang/String;IJ)V"⟩ : MethodName)) rfl hown (mvT hZ (hw _ (List.mem_of_getElem? (i := 18) rfl))) (mvT hZ (hw _ (List.mem_of_getElem? (i := 19) rfl))) (mvT hZ (hw _ (List.mem_of_getElem? (i := 20) rfl))) (by decide) (backOfS (W := 1) (rm2 l Z a0 hw [] b6 sa7 (if (1 : Int32) < (vr &&& (2147483647 : Int32)) then (vr &&& (2147483647 : Int32)) else (1 : Int32)) (own_ttl fl tr) _ _ _ cs vf sb7 sk7 h7 n0 (Nat.le_trans (Nat.le_trans Z0 E6.1) E7.1) (A6.ext E7) (F_name_b6.ext E7) (F_maxVersions_b6.ext E7) (F_ttlSeconds_b6.ext E7) g_b6 Es7 Fc7 Fv7 Vs7 ((S_C.ext E6).ext E7) hcs ((S_F.ext E6).ext E7) hvf (own_vers _) (own_ttl_ok fl tr)) hZ (hw _ (List.mem_of_getElem? (i := 20) rfl)) (hw _ (List.mem_of_getElem? (i := 9) rfl)) (by decide) (by decide)) (g := (mkF m 59 #[.val (.long now), .second, .val (.long tr), .second, .val (.int vr), .val (.int fl), .val (.int (own_b ((fl &&& (3 : Int32)) = (0 : Int32)))), .val (.long (own_ttl fl tr)), .second, .val (.int (if (1 : Int32) < (vr &&& (2147483647 : Int32)) then (vr &&& (2147483647 : Int32)) else (1 : Int32))), .unset, .unset, .unset, .unset, .unset, .unset, .unset, .unset, .unset] [(.long (own_ttl fl tr)), (.int (if (1 : Int32) < (vr &&& (2147483647 : Int32)) then (vr &&& (2147483647 : Int32)) else (1 : Int32))), (.ref sa7), (.ref b6), (.ref b6)])) rfl (by rw [hml]; rfl) (Steps.refl _) (a := b6) (argsL := [(.ref sa7), (.int (if (1 : Int32) < (vr &&& (2147483647 : Int32)) then (vr &&& (2147483647 : Int32)) else (1 : Int32))), (.long (own_ttl fl tr))]) (rest := [(.ref b6)]) (lenOf pd_18 rfl) rfl (by show 2 * 0 + _ ≤ _; exact Nat.le_of_eq rfl) (hb hby at_59) (fun _ _ => ⟨rfl, e7, (by decide : 3 + 2 ≤ _), (by decide : 11 + 28 ≤ _)⟩)
  dsimp only [Pt.U, Pt.locs, Pt.cells, Pt.slots] at X8 l8 y8 z8 st8 hQ8 hSx8 gx8
  subst l8 y8 z8
  obtain ⟨rfl, N8q, K8, Ex8, Ft8⟩ := hQ8
  have N8 := Fr.app N5 N8q
  refine own_viaW st8 ?_
  obtain ⟨X8, hS8, hZ, hown⟩ := rebS hS7 (by rw [e7]; exact hk7) X8 hSx8 gx8 hZ hown
  show own_GoW p e below s _ _ _ (T8.setTop (mkF m 62 #[.val (.long now), .second, .val (.long tr), .second, .val (.int vr), .val (.int fl), .val (.int (own_b ((fl &&& (3 : Int32)) = (0 : Int32)))), .val (.long (own_ttl fl tr)), .second, .val (.int (if (1 : Int32) < (vr &&& (2147483647 : Int32)) then (vr &&& (2147483647 : Int32)) else (1 : Int32))), .unset, .unset, .unset, .unset, .unset, .unset, .unset, .unset, .unset] [(.ref b6)]))
  refine own_stepW (B := T8.setTop (mkF m 67 #[.val (.long now), .second, .val (.long tr), .second, .val (.int vr), .val (.int fl), .val (.int (own_b ((fl &&& (3 : Int32)) = (0 : Int32)))), .val (.long (own_ttl fl tr)), .second, .val (.int (if (1 : Int32) < (vr &&& (2147483647 : Int32)) then (vr &&& (2147483647 : Int32)) else (1 : Int32))), .val (.ref b6), .unset, .unset, .unset, .unset, .unset, .unset, .unset, .unset] [(.long now), (.ref b6)])) (fun t k => ?_) ?_
  · show Steps p.tables e below (T8.setTop (mkF m 62 #[.val (.long now), .second, .val (.long tr), .second, .val (.int vr), .val (.int fl), .val (.int (own_b ((fl &&& (3 : Int32)) = (0 : Int32)))), .val (.long (own_ttl fl tr)), .second, .val (.int (if (1 : Int32) < (vr &&& (2147483647 : Int32)) then (vr &&& (2147483647 : Int32)) else (1 : Int32))), .unset, .unset, .unset, .unset, .unset, .unset, .unset, .unset, .unset] [(.ref b6)])) _
    refine XS.astore X8.here hx rfl (hb hby at_62) rfl rfl (l' := #[.val (.long now), .second, .val (.long tr), .second, .val (.int vr), .val (.int fl), .val (.int (own_b ((fl &&& (3 : Int32)) = (0 : Int32)))), .val (.long (own_ttl fl tr)), .second, .val (.int (if (1 : Int32) < (vr &&& (2147483647 : Int32)) then (vr &&& (2147483647 : Int32)) else (1 : Int32))), .val (.ref b6), .unset, .unset, .unset, .unset, .unset, .unset, .unset, .unset]) rfl ?_
    show Steps p.tables e below (T8.setTop (mkF m 64 #[.val (.long now), .second, .val (.long tr), .second, .val (.int vr), .val (.int fl), .val (.int (own_b ((fl &&& (3 : Int32)) = (0 : Int32)))), .val (.long (own_ttl fl tr)), .second, .val (.int (if (1 : Int32) < (vr &&& (2147483647 : Int32)) then (vr &&& (2147483647 : Int32)) else (1 : Int32))), .val (.ref b6), .unset, .unset, .unset, .unset, .unset, .unset, .unset, .unset] [])) _
    refine XS.aload X8.here hx rfl (hb hby at_64) rfl rfl ?_
    show Steps p.tables e below (T8.setTop (mkF m 66 #[.val (.long now), .second, .val (.long tr), .second, .val (.int vr), .val (.int fl), .val (.int (own_b ((fl &&& (3 : Int32)) = (0 : Int32)))), .val (.long (own_ttl fl tr)), .second, .val (.int (if (1 : Int32) < (vr &&& (2147483647 : Int32)) then (vr &&& (2147483647 : Int32)) else (1 : Int32))), .val (.ref b6), .unset, .unset, .unset, .unset, .unset, .unset, .unset, .unset] [(.ref b6)])) _
    refine XS.lloadN X8.here hx rfl (hb hby at_66) rfl ?_
    exact k
  obtain ⟨cq9, kq9, q9a, q9b, q9c⟩ := isOf hZ rfl Ex8
  obtain ⟨_, _, ⟨T9, L9, k9, n9⟩, -, X9, ⟨Lc9, hQ9, l9, y9, z9⟩, st9⟩ := X8.virtualBack hx (y := (⟨"com/example/nests/nests/model/Family", "oldestKept", "(J)J"⟩ : MethodName)) (z := (⟨"com/example/nests/nests/model/Family", "oldestKept", "(J)J"⟩ : MethodName)) hown (mvT hZ (hw _ (List.mem_of_getElem? (i := 84) rfl))) (mvT hZ (hw _ (List.mem_of_getElem? (i := 85) rfl))) (notFace_of_selects (args := #[]) (mvT hZ (hw _ (List.mem_of_getElem? (i := 87) rfl)))) (mvT hZ (hw _ (List.mem_of_getElem? (i := 87) rfl))) (mvT hZ (hw _ (List.mem_of_getElem? (i := 86) rfl))) (by decide) (backOf (W := 0) (rm15 l Z a0 hw [] b6 now (own_ttl fl tr) T8.heap n0 (Nat.le_trans (Nat.le_trans (Nat.le_trans Z0 E6.1) E7.1) K8.1) Ft8) hZ (hw _ (List.mem_of_getElem? (i := 88) rfl)) (hw _ (List.mem_of_getElem? (i := 9) rfl)) (by decide) (by decide)) q9a q9c (g := (mkF m 67 #[.val (.long now), .second, .val (.long tr), .second, .val (.int vr), .val (.int fl), .val (.int (own_b ((fl &&& (3 : Int32)) = (0 : Int32)))), .val (.long (own_ttl fl tr)), .second, .val (.int (if (1 : Int32) < (vr &&& (2147483647 : Int32)) then (vr &&& (2147483647 : Int32)) else (1 : Int32))), .val (.ref b6), .unset, .unset, .unset, .unset, .unset, .unset, .unset, .unset] [(.long now), (.ref b6)])) rfl (by rw [hml]; rfl) (Steps.refl _) (argsL := [(.long now)]) (rest := []) (lenOf pd_19 rfl) rfl (by show 2 * 0 + _ ≤ _; exact Nat.le_of_eq rfl) (hb hby at_67) (fun _ _ => ⟨rfl, rfl, (by decide : 5 + 0 ≤ _), (by decide : 39 + 0 ≤ _)⟩)
  dsimp only [Pt.U, Pt.locs, Pt.cells, Pt.slots] at X9 l9 y9 z9 st9 hQ9
  subst l9 y9 z9
  obtain ⟨rfl, N9q, e9⟩ := hQ9
  have N9 := Fr.app N8 N9q
  refine own_viaW st9 ?_
  show own_GoW p e below s _ _ _ (T9.setTop (mkF m 70 #[.val (.long now), .second, .val (.long tr), .second, .val (.int vr), .val (.int fl), .val (.int (own_b ((fl &&& (3 : Int32)) = (0 : Int32)))), .val (.long (own_ttl fl tr)), .second, .val (.int (if (1 : Int32) < (vr &&& (2147483647 : Int32)) then (vr &&& (2147483647 : Int32)) else (1 : Int32))), .val (.ref b6), .unset, .unset, .unset, .unset, .unset, .unset, .unset, .unset] [(.long (own_ok (own_ttl fl tr) now))]))
  refine own_stepW (B := T9.setTop (mkF m 72 #[.val (.long now), .second, .val (.long tr), .second, .val (.int vr), .val (.int fl), .val (.int (own_b ((fl &&& (3 : Int32)) = (0 : Int32)))), .val (.long (own_ttl fl tr)), .second, .val (.int (if (1 : Int32) < (vr &&& (2147483647 : Int32)) then (vr &&& (2147483647 : Int32)) else (1 : Int32))), .val (.ref b6), .val (.long (own_ok (own_ttl fl tr) now)), .second, .unset, .unset, .unset, .unset, .unset, .unset] [])) (fun t k => ?_) ?_
  · show Steps p.tables e below (T9.setTop (mkF m 70 #[.val (.long now), .second, .val (.long tr), .second, .val (.int vr), .val (.int fl), .val (.int (own_b ((fl &&& (3 : Int32)) = (0 : Int32)))), .val (.long (own_ttl fl tr)), .second, .val (.int (if (1 : Int32) < (vr &&& (2147483647 : Int32)) then (vr &&& (2147483647 : Int32)) else (1 : Int32))), .val (.ref b6), .unset, .unset, .unset, .unset, .unset, .unset, .unset, .unset] [(.long (own_ok (own_ttl fl tr) now))])) _
    refine XS.lstore X9.here hx rfl (hb hby at_70) rfl (l' := #[.val (.long now), .second, .val (.long tr), .second, .val (.int vr), .val (.int fl), .val (.int (own_b ((fl &&& (3 : Int32)) = (0 : Int32)))), .val (.long (own_ttl fl tr)), .second, .val (.int (if (1 : Int32) < (vr &&& (2147483647 : Int32)) then (vr &&& (2147483647 : Int32)) else (1 : Int32))), .val (.ref b6), .val (.long (own_ok (own_ttl fl tr) now)), .second, .unset, .unset, .unset, .unset, .unset, .unset]) rfl ?_
    exact k
  by_cases hP : (fl &&& (3 : Int32)) = (0 : Int32)
  · refine own_stepW (B := T9.setTop (mkF m 122 #[.val (.long now), .second, .val (.long tr), .second, .val (.int vr), .val (.int fl), .val (.int (own_b ((fl &&& (3 : Int32)) = (0 : Int32)))), .val (.long (own_ttl fl tr)), .second, .val (.int (if (1 : Int32) < (vr &&& (2147483647 : Int32)) then (vr &&& (2147483647 : Int32)) else (1 : Int32))), .val (.ref b6), .val (.long (own_ok (own_ttl fl tr) now)), .second, .val (.long (-9223372036854775808 : Int64)), .second, .unset, .unset, .unset, .unset] [(.long (-9223372036854775808 : Int64)), (.long (own_ok (own_ttl fl tr) now))])) (fun t k => ?_) ?_
    · show Steps p.tables e below (T9.setTop (mkF m 72 #[.val (.long now), .second, .val (.long tr), .second, .val (.int vr), .val (.int fl), .val (.int (own_b ((fl &&& (3 : Int32)) = (0 : Int32)))), .val (.long (own_ttl fl tr)), .second, .val (.int (if (1 : Int32) < (vr &&& (2147483647 : Int32)) then (vr &&& (2147483647 : Int32)) else (1 : Int32))), .val (.ref b6), .val (.long (own_ok (own_ttl fl tr) now)), .second, .unset, .unset, .unset, .unset, .unset, .unset] [])) _
      refine XS.iload X9.here hx rfl (hb hby at_72) rfl ?_
      show Steps p.tables e below (T9.setTop (mkF m 74 #[.val (.long now), .second, .val (.long tr), .second, .val (.int vr), .val (.int fl), .val (.int (own_b ((fl &&& (3 : Int32)) = (0 : Int32)))), .val (.long (own_ttl fl tr)), .second, .val (.int (if (1 : Int32) < (vr &&& (2147483647 : Int32)) then (vr &&& (2147483647 : Int32)) else (1 : Int32))), .val (.ref b6), .val (.long (own_ok (own_ttl fl tr) now)), .second, .unset, .unset, .unset, .unset, .unset, .unset] [(.int (own_b ((fl &&& (3 : Int32)) = (0 : Int32))))])) _
      refine XS.ifNo X9.here hx rfl (hb hby at_74) rfl ((if0 _ _).trans (feq (by rw [own_bt hP]; decide)).1) ?_
      show Steps p.tables e below (T9.setTop (mkF m 77 #[.val (.long now), .second, .val (.long tr), .second, .val (.int vr), .val (.int fl), .val (.int (own_b ((fl &&& (3 : Int32)) = (0 : Int32)))), .val (.long (own_ttl fl tr)), .second, .val (.int (if (1 : Int32) < (vr &&& (2147483647 : Int32)) then (vr &&& (2147483647 : Int32)) else (1 : Int32))), .val (.ref b6), .val (.long (own_ok (own_ttl fl tr) now)), .second, .unset, .unset, .unset, .unset, .unset, .unset] [])) _
      refine X9.ldc2Long hx hown (mvT hZ (hw _ (List.mem_of_getElem? (i := 92) rfl))) (g := (mkF m 77 #[.val (.long now), .second, .val (.long tr), .second, .val (.int vr), .val (.int fl), .val (.int (own_b ((fl &&& (3 : Int32)) = (0 : Int32)))), .val (.long (own_ttl fl tr)), .second, .val (.int (if (1 : Int32) < (vr &&& (2147483647 : Int32)) then (vr &&& (2147483647 : Int32)) else (1 : Int32))), .val (.ref b6), .val (.long (own_ok (own_ttl fl tr) now)), .second, .unset, .unset, .unset, .unset, .unset, .unset] [])) rfl (hb hby at_77) _ ?_
      show Steps p.tables e below (T9.setTop (mkF m 80 #[.val (.long now), .second, .val (.long tr), .second, .val (.int vr), .val (.int fl), .val (.int (own_b ((fl &&& (3 : Int32)) = (0 : Int32)))), .val (.long (own_ttl fl tr)), .second, .val (.int (if (1 : Int32) < (vr &&& (2147483647 : Int32)) then (vr &&& (2147483647 : Int32)) else (1 : Int32))), .val (.ref b6), .val (.long (own_ok (own_ttl fl tr) now)), .second, .unset, .unset, .unset, .unset, .unset, .unset] [(.long (-9223372036854775808 : Int64))])) _
      refine XS.lstore X9.here hx rfl (hb hby at_80) rfl (l' := #[.val (.long now), .second, .val (.long tr), .second, .val (.int vr), .val (.int fl), .val (.int (own_b ((fl &&& (3 : Int32)) = (0 : Int32)))), .val (.long (own_ttl fl tr)), .second, .val (.int (if (1 : Int32) < (vr &&& (2147483647 : Int32)) then (vr &&& (2147483647 : Int32)) else (1 : Int32))), .val (.ref b6), .val (.long (own_ok (own_ttl fl tr) now)), .second, .val (.long (-9223372036854775808 : Int64)), .second, .unset, .unset, .unset, .unset]) rfl ?_
      show Steps p.tables e below (T9.setTop (mkF m 82 #[.val (.long now), .second, .val (.long tr), .second, .val (.int vr), .val (.int fl), .val (.int (own_b ((fl &&& (3 : Int32)) = (0 : Int32)))), .val (.long (own_ttl fl tr)), .second, .val (.int (if (1 : Int32) < (vr &&& (2147483647 : Int32)) then (vr &&& (2147483647 : Int32)) else (1 : Int32))), .val (.ref b6), .val (.long (own_ok (own_ttl fl tr) now)), .second, .val (.long (-9223372036854775808 : Int64)), .second, .unset, .unset, .unset, .unset] [])) _
      refine XS.goto X9.here hx rfl (pc0 := 82) (pc' := 118) rfl (hb hby at_82) (by decide) (by decide) ?_
      show Steps p.tables e below (T9.setTop (mkF m 118 #[.val (.long now), .second, .val (.long tr), .second, .val (.int vr), .val (.int fl), .val (.int (own_b ((fl &&& (3 : Int32)) = (0 : Int32)))), .val (.long (own_ttl fl tr)), .second, .val (.int (if (1 : Int32) < (vr &&& (2147483647 : Int32)) then (vr &&& (2147483647 : Int32)) else (1 : Int32))), .val (.ref b6), .val (.long (own_ok (own_ttl fl tr) now)), .second, .val (.long (-9223372036854775808 : Int64)), .second, .unset, .unset, .unset, .unset] [])) _
      refine XS.lload X9.here hx rfl (hb hby at_118) rfl ?_
      show Steps p.tables e below (T9.setTop (mkF m 120 #[.val (.long now), .second, .val (.long tr), .second, .val (.int vr), .val (.int fl), .val (.int (own_b ((fl &&& (3 : Int32)) = (0 : Int32)))), .val (.long (own_ttl fl tr)), .second, .val (.int (if (1 : Int32) < (vr &&& (2147483647 : Int32)) then (vr &&& (2147483647 : Int32)) else (1 : Int32))), .val (.ref b6), .val (.long (own_ok (own_ttl fl tr) now)), .second, .val (.long (-9223372036854775808 : Int64)), .second, .unset, .unset, .unset, .unset] [(.long (own_ok (own_ttl fl tr) now))])) _
      refine XS.lload X9.here hx rfl (hb hby at_120) rfl ?_
      exact k
    have hfin : (own_ok (own_ttl fl tr) now) = (-9223372036854775808 : Int64) := by rw [own_same _ _ (own_ttl_ok fl tr), own_ex, if_pos ((own_ttl_f fl tr).mp hP)]
    refine own_stepW (B := T9.setTop (mkF m 131 #[.val (.long now), .second, .val (.long tr), .second, .val (.int vr), .val (.int fl), .val (.int (own_b ((fl &&& (3 : Int32)) = (0 : Int32)))), .val (.long (own_ttl fl tr)), .second, .val (.int (if (1 : Int32) < (vr &&& (2147483647 : Int32)) then (vr &&& (2147483647 : Int32)) else (1 : Int32))), .val (.ref b6), .val (.long (own_ok (own_ttl fl tr) now)), .second, .val (.long (-9223372036854775808 : Int64)), .second, .unset, .unset, .unset, .unset] [(.int (1 : Int32))])) (fun t k => ?_) ?_
    · show Steps p.tables e below (T9.setTop (mkF m 122 #[.val (.long now), .second, .val (.long tr), .second, .val (.int vr), .val (.int fl), .val (.int (own_b ((fl &&& (3 : Int32)) = (0 : Int32)))), .val (.long (own_ttl fl tr)), .second, .val (.int (if (1 : Int32) < (vr &&& (2147483647 : Int32)) then (vr &&& (2147483647 : Int32)) else (1 : Int32))), .val (.ref b6), .val (.long (own_ok (own_ttl fl tr) now)), .second, .val (.long (-9223372036854775808 : Int64)), .second, .unset, .unset, .unset, .unset] [(.long (-9223372036854775808 : Int64)), (.long (own_ok (own_ttl fl tr) now))])) _
      refine XS.lcmp X9.here hx rfl (hb hby at_122) rfl ?_
      show Steps p.tables e below (T9.setTop (mkF m 123 #[.val (.long now), .second, .val (.long tr), .second, .val (.int vr), .val (.int fl), .val (.int (own_b ((fl &&& (3 : Int32)) = (0 : Int32)))), .val (.long (own_ttl fl tr)), .second, .val (.int (if (1 : Int32) < (vr &&& (2147483647 : Int32)) then (vr &&& (2147483647 : Int32)) else (1 : Int32))), .val (.ref b6), .val (.long (own_ok (own_ttl fl tr) now)), .second, .val (.long (-9223372036854775808 : Int64)), .second, .unset, .unset, .unset, .unset] [(.int (lcmpW (own_ok (own_ttl fl tr) now) (-9223372036854775808 : Int64)))])) _
      refine XS.ifNo X9.here hx rfl (hb hby at_123) rfl ((if0 _ _).trans (teq ((lw_eq _ _).mpr hfin)).2) ?_
      show Steps p.tables e below (T9.setTop (mkF m 126 #[.val (.long now), .second, .val (.long tr), .second, .val (.int vr), .val (.int fl), .val (.int (own_b ((fl &&& (3 : Int32)) = (0 : Int32)))), .val (.long (own_ttl fl tr)), .second, .val (.int (if (1 : Int32) < (vr &&& (2147483647 : Int32)) then (vr &&& (2147483647 : Int32)) else (1 : Int32))), .val (.ref b6), .val (.long (own_ok (own_ttl fl tr) now)), .second, .val (.long (-9223372036854775808 : Int64)), .second, .unset, .unset, .unset, .unset] [])) _
      refine XS.iconst X9.here hx rfl (hb hby at_126) ?_
      show Steps p.tables e below (T9.setTop (mkF m 127 #[.val (.long now), .second, .val (.long tr), .second, .val (.int vr), .val (.int fl), .val (.int (own_b ((fl &&& (3 : Int32)) = (0 : Int32)))), .val (.long (own_ttl fl tr)), .second, .val (.int (if (1 : Int32) < (vr &&& (2147483647 : Int32)) then (vr &&& (2147483647 : Int32)) else (1 : Int32))), .val (.ref b6), .val (.long (own_ok (own_ttl fl tr) now)), .second, .val (.long (-9223372036854775808 : Int64)), .second, .unset, .unset, .unset, .unset] [(.int (1 : Int32))])) _
      refine XS.goto X9.here hx rfl (pc0 := 127) (pc' := 131) rfl (hb hby at_127) (by decide) (by decide) ?_
      exact k
    exact own_retNW X9 hS8 (by rw [e9]; exact (Nat.le_refl T8.heap.size)) hx Bd.notSynchronized (t := .boolean) Bd.returns (by simp) (hb hby at_131) ⟨rfl, N9⟩ (by decide) (by decide)
  · refine own_stepW (B := T9.setTop (mkF m 103 #[.val (.long now), .second, .val (.long tr), .second, .val (.int vr), .val (.int fl), .val (.int (own_b ((fl &&& (3 : Int32)) = (0 : Int32)))), .val (.long (own_ttl fl tr)), .second, .val (.int (if (1 : Int32) < (vr &&& (2147483647 : Int32)) then (vr &&& (2147483647 : Int32)) else (1 : Int32))), .val (.ref b6), .val (.long (own_ok (own_ttl fl tr) now)), .second, .unset, .unset, .val (.long ((own_ttl fl tr) * (1000000 : Int64))), .second, .val (.long (now - ((own_ttl fl tr) * (1000000 : Int64)))), .second] [(.int (lcmpW (now - ((own_ttl fl tr) * (1000000 : Int64))) now))])) (fun t k => ?_) ?_
    · show Steps p.tables e below (T9.setTop (mkF m 72 #[.val (.long now), .second, .val (.long tr), .second, .val (.int vr), .val (.int fl), .val (.int (own_b ((fl &&& (3 : Int32)) = (0 : Int32)))), .val (.long (own_ttl fl tr)), .second, .val (.int (if (1 : Int32) < (vr &&& (2147483647 : Int32)) then (vr &&& (2147483647 : Int32)) else (1 : Int32))), .val (.ref b6), .val (.long (own_ok (own_ttl fl tr) now)), .second, .unset, .unset, .unset, .unset, .unset, .unset] [])) _
      refine XS.iload X9.here hx rfl (hb hby at_72) rfl ?_
      show Steps p.tables e below (T9.setTop (mkF m 74 #[.val (.long now), .second, .val (.long tr), .second, .val (.int vr), .val (.int fl), .val (.int (own_b ((fl &&& (3 : Int32)) = (0 : Int32)))), .val (.long (own_ttl fl tr)), .second, .val (.int (if (1 : Int32) < (vr &&& (2147483647 : Int32)) then (vr &&& (2147483647 : Int32)) else (1 : Int32))), .val (.ref b6), .val (.long (own_ok (own_ttl fl tr) now)), .second, .unset, .unset, .unset, .unset, .unset, .unset] [(.int (own_b ((fl &&& (3 : Int32)) = (0 : Int32))))])) _
      refine XS.ifYes X9.here hx rfl (pc0 := 74) (pc' := 85) rfl (hb hby at_74) rfl ((if0 _ _).trans (teq (own_bf hP)).1) (by decide) (by decide) ?_
      show Steps p.tables e below (T9.setTop (mkF m 85 #[.val (.long now), .second, .val (.long tr), .second, .val (.int vr), .val (.int fl), .val (.int (own_b ((fl &&& (3 : Int32)) = (0 : Int32)))), .val (.long (own_ttl fl tr)), .second, .val (.int (if (1 : Int32) < (vr &&& (2147483647 : Int32)) then (vr &&& (2147483647 : Int32)) else (1 : Int32))), .val (.ref b6), .val (.long (own_ok (own_ttl fl tr) now)), .second, .unset, .unset, .unset, .unset, .unset, .unset] [])) _
      refine XS.lload X9.here hx rfl (hb hby at_85) rfl ?_
      show Steps p.tables e below (T9.setTop (mkF m 87 #[.val (.long now), .second, .val (.long tr), .second, .val (.int vr), .val (.int fl), .val (.int (own_b ((fl &&& (3 : Int32)) = (0 : Int32)))), .val (.long (own_ttl fl tr)), .second, .val (.int (if (1 : Int32) < (vr &&& (2147483647 : Int32)) then (vr &&& (2147483647 : Int32)) else (1 : Int32))), .val (.ref b6), .val (.long (own_ok (own_ttl fl tr) now)), .second, .unset, .unset, .unset, .unset, .unset, .unset] [(.long (own_ttl fl tr))])) _
      refine X9.ldc2Long hx hown (mvT hZ (hw _ (List.mem_of_getElem? (i := 91) rfl))) (g := (mkF m 87 #[.val (.long now), .second, .val (.long tr), .second, .val (.int vr), .val (.int fl), .val (.int (own_b ((fl &&& (3 : Int32)) = (0 : Int32)))), .val (.long (own_ttl fl tr)), .second, .val (.int (if (1 : Int32) < (vr &&& (2147483647 : Int32)) then (vr &&& (2147483647 : Int32)) else (1 : Int32))), .val (.ref b6), .val (.long (own_ok (own_ttl fl tr) now)), .second, .unset, .unset, .unset, .unset, .unset, .unset] [(.long (own_ttl fl tr))])) rfl (hb hby at_87) _ ?_
      show Steps p.tables e below (T9.setTop (mkF m 90 #[.val (.long now), .second, .val (.long tr), .second, .val (.int vr), .val (.int fl), .val (.int (own_b ((fl &&& (3 : Int32)) = (0 : Int32)))), .val (.long (own_ttl fl tr)), .second, .val (.int (if (1 : Int32) < (vr &&& (2147483647 : Int32)) then (vr &&& (2147483647 : Int32)) else (1 : Int32))), .val (.ref b6), .val (.long (own_ok (own_ttl fl tr) now)), .second, .unset, .unset, .unset, .unset, .unset, .unset] [(.long (1000000 : Int64)), (.long (own_ttl fl tr))])) _
      refine XS.lmul X9.here hx rfl (hb hby at_90) rfl ?_
      show Steps p.tables e below (T9.setTop (mkF m 91 #[.val (.long now), .second, .val (.long tr), .second, .val (.int vr), .val (.int fl), .val (.int (own_b ((fl &&& (3 : Int32)) = (0 : Int32)))), .val (.long (own_ttl fl tr)), .second, .val (.int (if (1 : Int32) < (vr &&& (2147483647 : Int32)) then (vr &&& (2147483647 : Int32)) else (1 : Int32))), .val (.ref b6), .val (.long (own_ok (own_ttl fl tr) now)), .second, .unset, .unset, .unset, .unset, .unset, .unset] [(.long ((own_ttl fl tr) * (1000000 : Int64)))])) _
      refine XS.lstore X9.here hx rfl (hb hby at_91) rfl (l' := #[.val (.long now), .second, .val (.long tr), .second, .val (.int vr), .val (.int fl), .val (.int (own_b ((fl &&& (3 : Int32)) = (0 : Int32)))), .val (.long (own_ttl fl tr)), .second, .val (.int (if (1 : Int32) < (vr &&& (2147483647 : Int32)) then (vr &&& (2147483647 : Int32)) else (1 : Int32))), .val (.ref b6), .val (.long (own_ok (own_ttl fl tr) now)), .second, .unset, .unset, .val (.long ((own_ttl fl tr) * (1000000 : Int64))), .second, .unset, .unset]) rfl ?_
      show Steps p.tables e below (T9.setTop (mkF m 93 #[.val (.long now), .second, .val (.long tr), .second, .val (.int vr), .val (.int fl), .val (.int (own_b ((fl &&& (3 : Int32)) = (0 : Int32)))), .val (.long (own_ttl fl tr)), .second, .val (.int (if (1 : Int32) < (vr &&& (2147483647 : Int32)) then (vr &&& (2147483647 : Int32)) else (1 : Int32))), .val (.ref b6), .val (.long (own_ok (own_ttl fl tr) now)), .second, .unset, .unset, .val (.long ((own_ttl fl tr) * (1000000 : Int64))), .second, .unset, .unset] [])) _
      refine XS.lloadN X9.here hx rfl (hb hby at_93) rfl ?_
      show Steps p.tables e below (T9.setTop (mkF m 94 #[.val (.long now), .second, .val (.long tr), .second, .val (.int vr), .val (.int fl), .val (.int (own_b ((fl &&& (3 : Int32)) = (0 : Int32)))), .val (.long (own_ttl fl tr)), .second, .val (.int (if (1 : Int32) < (vr &&& (2147483647 : Int32)) then (vr &&& (2147483647 : Int32)) else (1 : Int32))), .val (.ref b6), .val (.long (own_ok (own_ttl fl tr) now)), .second, .unset, .unset, .val (.long ((own_ttl fl tr) * (1000000 : Int64))), .second, .unset, .unset] [(.long now)])) _
      refine XS.lload X9.here hx rfl (hb hby at_94) rfl ?_
      show Steps p.tables e below (T9.setTop (mkF m 96 #[.val (.long now), .second, .val (.long tr), .second, .val (.int vr), .val (.int fl), .val (.int (own_b ((fl &&& (3 : Int32)) = (0 : Int32)))), .val (.long (own_ttl fl tr)), .second, .val (.int (if (1 : Int32) < (vr &&& (2147483647 : Int32)) then (vr &&& (2147483647 : Int32)) else (1 : Int32))), .val (.ref b6), .val (.long (own_ok (own_ttl fl tr) now)), .second, .unset, .unset, .val (.long ((own_ttl fl tr) * (1000000 : Int64))), .second, .unset, .unset] [(.long ((own_ttl fl tr) * (1000000 : Int64))), (.long now)])) _
      refine XS.lsub X9.here hx rfl (hb hby at_96) rfl ?_
      show Steps p.tables e below (T9.setTop (mkF m 97 #[.val (.long now), .second, .val (.long tr), .second, .val (.int vr), .val (.int fl), .val (.int (own_b ((fl &&& (3 : Int32)) = (0 : Int32)))), .val (.long (own_ttl fl tr)), .second, .val (.int (if (1 : Int32) < (vr &&& (2147483647 : Int32)) then (vr &&& (2147483647 : Int32)) else (1 : Int32))), .val (.ref b6), .val (.long (own_ok (own_ttl fl tr) now)), .second, .unset, .unset, .val (.long ((own_ttl fl tr) * (1000000 : Int64))), .second, .unset, .unset] [(.long (now - ((own_ttl fl tr) * (1000000 : Int64))))])) _
      refine XS.lstore X9.here hx rfl (hb hby at_97) rfl (l' := #[.val (.long now), .second, .val (.long tr), .second, .val (.int vr), .val (.int fl), .val (.int (own_b ((fl &&& (3 : Int32)) = (0 : Int32)))), .val (.long (own_ttl fl tr)), .second, .val (.int (if (1 : Int32) < (vr &&& (2147483647 : Int32)) then (vr &&& (2147483647 : Int32)) else (1 : Int32))), .val (.ref b6), .val (.long (own_ok (own_ttl fl tr) now)), .second, .unset, .unset, .val (.long ((own_ttl fl tr) * (1000000 : Int64))), .second, .val (.long (now - ((own_ttl fl tr) * (1000000 : Int64)))), .second]) rfl ?_
      show Steps p.tables e below (T9.setTop (mkF m 99 #[.val (.long now), .second, .val (.long tr), .second, .val (.int vr), .val (.int fl), .val (.int (own_b ((fl &&& (3 : Int32)) = (0 : Int32)))), .val (.long (own_ttl fl tr)), .second, .val (.int (if (1 : Int32) < (vr &&& (2147483647 : Int32)) then (vr &&& (2147483647 : Int32)) else (1 : Int32))), .val (.ref b6), .val (.long (own_ok (own_ttl fl tr) now)), .second, .unset, .unset, .val (.long ((own_ttl fl tr) * (1000000 : Int64))), .second, .val (.long (now - ((own_ttl fl tr) * (1000000 : Int64)))), .second] [])) _
      refine XS.lload X9.here hx rfl (hb hby at_99) rfl ?_
      show Steps p.tables e below (T9.setTop (mkF m 101 #[.val (.long now), .second, .val (.long tr), .second, .val (.int vr), .val (.int fl), .val (.int (own_b ((fl &&& (3 : Int32)) = (0 : Int32)))), .val (.long (own_ttl fl tr)), .second, .val (.int (if (1 : Int32) < (vr &&& (2147483647 : Int32)) then (vr &&& (2147483647 : Int32)) else (1 : Int32))), .val (.ref b6), .val (.long (own_ok (own_ttl fl tr) now)), .second, .unset, .unset, .val (.long ((own_ttl fl tr) * (1000000 : Int64))), .second, .val (.long (now - ((own_ttl fl tr) * (1000000 : Int64)))), .second] [(.long (now - ((own_ttl fl tr) * (1000000 : Int64))))])) _
      refine XS.lloadN X9.here hx rfl (hb hby at_101) rfl ?_
      show Steps p.tables e below (T9.setTop (mkF m 102 #[.val (.long now), .second, .val (.long tr), .second, .val (.int vr), .val (.int fl), .val (.int (own_b ((fl &&& (3 : Int32)) = (0 : Int32)))), .val (.long (own_ttl fl tr)), .second, .val (.int (if (1 : Int32) < (vr &&& (2147483647 : Int32)) then (vr &&& (2147483647 : Int32)) else (1 : Int32))), .val (.ref b6), .val (.long (own_ok (own_ttl fl tr) now)), .second, .unset, .unset, .val (.long ((own_ttl fl tr) * (1000000 : Int64))), .second, .val (.long (now - ((own_ttl fl tr) * (1000000 : Int64)))), .second] [(.long now), (.long (now - ((own_ttl fl tr) * (1000000 : Int64))))])) _
      refine XS.lcmp X9.here hx rfl (hb hby at_102) rfl ?_
      exact k
    by_cases hc103 : now < (now - ((own_ttl fl tr) * (1000000 : Int64)))
    · refine own_stepW (B := T9.setTop (mkF m 122 #[.val (.long now), .second, .val (.long tr), .second, .val (.int vr), .val (.int fl), .val (.int (own_b ((fl &&& (3 : Int32)) = (0 : Int32)))), .val (.long (own_ttl fl tr)), .second, .val (.int (if (1 : Int32) < (vr &&& (2147483647 : Int32)) then (vr &&& (2147483647 : Int32)) else (1 : Int32))), .val (.ref b6), .val (.long (own_ok (own_ttl fl tr) now)), .second, .val (.long (-9223372036854775808 : Int64)), .second, .val (.long ((own_ttl fl tr) * (1000000 : Int64))), .second, .val (.long (now - ((own_ttl fl tr) * (1000000 : Int64)))), .second] [(.long (-9223372036854775808 : Int64)), (.long (own_ok (own_ttl fl tr) now))])) (fun t k => ?_) ?_
      · show Steps p.tables e below (T9.setTop (mkF m 103 #[.val (.long now), .second, .val (.long tr), .second, .val (.int vr), .val (.int fl), .val (.int (own_b ((fl &&& (3 : Int32)) = (0 : Int32)))), .val (.long (own_ttl fl tr)), .second, .val (.int (if (1 : Int32) < (vr &&& (2147483647 : Int32)) then (vr &&& (2147483647 : Int32)) else (1 : Int32))), .val (.ref b6), .val (.long (own_ok (own_ttl fl tr) now)), .second, .unset, .unset, .val (.long ((own_ttl fl tr) * (1000000 : Int64))), .second, .val (.long (now - ((own_ttl fl tr) * (1000000 : Int64)))), .second] [(.int (lcmpW (now - ((own_ttl fl tr) * (1000000 : Int64))) now))])) _
        refine XS.ifNo X9.here hx rfl (hb hby at_103) rfl ((if0 _ _).trans (tlt ((lw_gt _ _).mpr hc103)).2.2.2) ?_
        show Steps p.tables e below (T9.setTop (mkF m 106 #[.val (.long now), .second, .val (.long tr), .second, .val (.int vr), .val (.int fl), .val (.int (own_b ((fl &&& (3 : Int32)) = (0 : Int32)))), .val (.long (own_ttl fl tr)), .second, .val (.int (if (1 : Int32) < (vr &&& (2147483647 : Int32)) then (vr &&& (2147483647 : Int32)) else (1 : Int32))), .val (.ref b6), .val (.long (own_ok (own_ttl fl tr) now)), .second, .unset, .unset, .val (.long ((own_ttl fl tr) * (1000000 : Int64))), .second, .val (.long (now - ((own_ttl fl tr) * (1000000 : Int64)))), .second] [])) _
        refine X9.ldc2Long hx hown (mvT hZ (hw _ (List.mem_of_getElem? (i := 92) rfl))) (g := (mkF m 106 #[.val (.long now), .second, .val (.long tr), .second, .val (.int vr), .val (.int fl), .val (.int (own_b ((fl &&& (3 : Int32)) = (0 : Int32)))), .val (.long (own_ttl fl tr)), .second, .val (.int (if (1 : Int32) < (vr &&& (2147483647 : Int32)) then (vr &&& (2147483647 : Int32)) else (1 : Int32))), .val (.ref b6), .val (.long (own_ok (own_ttl fl tr) now)), .second, .unset, .unset, .val (.long ((own_ttl fl tr) * (1000000 : Int64))), .second, .val (.long (now - ((own_ttl fl tr) * (1000000 : Int64)))), .second] [])) rfl (hb hby at_106) _ ?_
        show Steps p.tables e below (T9.setTop (mkF m 109 #[.val (.long now), .second, .val (.long tr), .second, .val (.int vr), .val (.int fl), .val (.int (own_b ((fl &&& (3 : Int32)) = (0 : Int32)))), .val (.long (own_ttl fl tr)), .second, .val (.int (if (1 : Int32) < (vr &&& (2147483647 : Int32)) then (vr &&& (2147483647 : Int32)) else (1 : Int32))), .val (.ref b6), .val (.long (own_ok (own_ttl fl tr) now)), .second, .unset, .unset, .val (.long ((own_ttl fl tr) * (1000000 : Int64))), .second, .val (.long (now - ((own_ttl fl tr) * (1000000 : Int64)))), .second] [(.long (-9223372036854775808 : Int64))])) _
        refine XS.lstore X9.here hx rfl (hb hby at_109) rfl (l' := #[.val (.long now), .second, .val (.long tr), .second, .val (.int vr), .val (.int fl), .val (.int (own_b ((fl &&& (3 : Int32)) = (0 : Int32)))), .val (.long (own_ttl fl tr)), .second, .val (.int (if (1 : Int32) < (vr &&& (2147483647 : Int32)) then (vr &&& (2147483647 : Int32)) else (1 : Int32))), .val (.ref b6), .val (.long (own_ok (own_ttl fl tr) now)), .second, .val (.long (-9223372036854775808 : Int64)), .second, .val (.long ((own_ttl fl tr) * (1000000 : Int64))), .second, .val (.long (now - ((own_ttl fl tr) * (1000000 : Int64)))), .second]) rfl ?_
        show Steps p.tables e below (T9.setTop (mkF m 111 #[.val (.long now), .second, .val (.long tr), .second, .val (.int vr), .val (.int fl), .val (.int (own_b ((fl &&& (3 : Int32)) = (0 : Int32)))), .val (.long (own_ttl fl tr)), .second, .val (.int (if (1 : Int32) < (vr &&& (2147483647 : Int32)) then (vr &&& (2147483647 : Int32)) else (1 : Int32))), .val (.ref b6), .val (.long (own_ok (own_ttl fl tr) now)), .second, .val (.long (-9223372036854775808 : Int64)), .second, .val (.long ((own_ttl fl tr) * (1000000 : Int64))), .second, .val (.long (now - ((own_ttl fl tr) * (1000000 : Int64)))), .second] [])) _
        refine XS.goto X9.here hx rfl (pc0 := 111) (pc' := 118) rfl (hb hby at_111) (by decide) (by decide) ?_
        show Steps p.tables e below (T9.setTop (mkF m 118 #[.val (.long now), .second, .val (.long tr), .second, .val (.int vr), .val (.int fl), .val (.int (own_b ((fl &&& (3 : Int32)) = (0 : Int32)))), .val (.long (own_ttl fl tr)), .second, .val (.int (if (1 : Int32) < (vr &&& (2147483647 : Int32)) then (vr &&& (2147483647 : Int32)) else (1 : Int32))), .val (.ref b6), .val (.long (own_ok (own_ttl fl tr) now)), .second, .val (.long (-9223372036854775808 : Int64)), .second, .val (.long ((own_ttl fl tr) * (1000000 : Int64))), .second, .val (.long (now - ((own_ttl fl tr) * (1000000 : Int64)))), .second] [])) _
        refine XS.lload X9.here hx rfl (hb hby at_118) rfl ?_
        show Steps p.tables e below (T9.setTop (mkF m 120 #[.val (.long now), .second, .val (.long tr), .second, .val (.int vr), .val (.int fl), .val (.int (own_b ((fl &&& (3 : Int32)) = (0 : Int32)))), .val (.long (own_ttl fl tr)), .second, .val (.int (if (1 : Int32) < (vr &&& (2147483647 : Int32)) then (vr &&& (2147483647 : Int32)) else (1 : Int32))), .val (.ref b6), .val (.long (own_ok (own_ttl fl tr) now)), .second, .val (.long (-9223372036854775808 : Int64)), .second, .val (.long ((own_ttl fl tr) * (1000000 : Int64))), .second, .val (.long (now - ((own_ttl fl tr) * (1000000 : Int64)))), .second] [(.long (own_ok (own_ttl fl tr) now))])) _
        refine XS.lload X9.here hx rfl (hb hby at_120) rfl ?_
        exact k
      have hfin : (own_ok (own_ttl fl tr) now) = (-9223372036854775808 : Int64) := by rw [own_same _ _ (own_ttl_ok fl tr), own_ex, if_neg (fun q => hP ((own_ttl_f fl tr).mpr q)), if_pos hc103]
      refine own_stepW (B := T9.setTop (mkF m 131 #[.val (.long now), .second, .val (.long tr), .second, .val (.int vr), .val (.int fl), .val (.int (own_b ((fl &&& (3 : Int32)) = (0 : Int32)))), .val (.long (own_ttl fl tr)), .second, .val (.int (if (1 : Int32) < (vr &&& (2147483647 : Int32)) then (vr &&& (2147483647 : Int32)) else (1 : Int32))), .val (.ref b6), .val (.long (own_ok (own_ttl fl tr) now)), .second, .val (.long (-9223372036854775808 : Int64)), .second, .val (.long ((own_ttl fl tr) * (1000000 : Int64))), .second, .val (.long (now - ((own_ttl fl tr) * (1000000 : Int64)))), .second] [(.int (1 : Int32))])) (fun t k => ?_) ?_
      · show Steps p.tables e below (T9.setTop (mkF m 122 #[.val (.long now), .second, .val (.long tr), .second, .val (.int vr), .val (.int fl), .val (.int (own_b ((fl &&& (3 : Int32)) = (0 : Int32)))), .val (.long (own_ttl fl tr)), .second, .val (.int (if (1 : Int32) < (vr &&& (2147483647 : Int32)) then (vr &&& (2147483647 : Int32)) else (1 : Int32))), .val (.ref b6), .val (.long (own_ok (own_ttl fl tr) now)), .second, .val (.long (-9223372036854775808 : Int64)), .second, .val (.long ((own_ttl fl tr) * (1000000 : Int64))), .second, .val (.long (now - ((own_ttl fl tr) * (1000000 : Int64)))), .second] [(.long (-9223372036854775808 : Int64)), (.long (own_ok (own_ttl fl tr) now))])) _
        refine XS.lcmp X9.here hx rfl (hb hby at_122) rfl ?_
        show Steps p.tables e below (T9.setTop (mkF m 123 #[.val (.long now), .second, .val (.long tr), .second, .val (.int vr), .val (.int fl), .val (.int (own_b ((fl &&& (3 : Int32)) = (0 : Int32)))), .val (.long (own_ttl fl tr)), .second, .val (.int (if (1 : Int32) < (vr &&& (2147483647 : Int32)) then (vr &&& (2147483647 : Int32)) else (1 : Int32))), .val (.ref b6), .val (.long (own_ok (own_ttl fl tr) now)), .second, .val (.long (-9223372036854775808 : Int64)), .second, .val (.long ((own_ttl fl tr) * (1000000 : Int64))), .second, .val (.long (now - ((own_ttl fl tr) * (1000000 : Int64)))), .second] [(.int (lcmpW (own_ok (own_ttl fl tr) now) (-9223372036854775808 : Int64)))])) _
        refine XS.ifNo X9.here hx rfl (hb hby at_123) rfl ((if0 _ _).trans (teq ((lw_eq _ _).mpr hfin)).2) ?_
        show Steps p.tables e below (T9.setTop (mkF m 126 #[.val (.long now), .second, .val (.long tr), .second, .val (.int vr), .val (.int fl), .val (.int (own_b ((fl &&& (3 : Int32)) = (0 : Int32)))), .val (.long (own_ttl fl tr)), .second, .val (.int (if (1 : Int32) < (vr &&& (2147483647 : Int32)) then (vr &&& (2147483647 : Int32)) else (1 : Int32))), .val (.ref b6), .val (.long (own_ok (own_ttl fl tr) now)), .second, .val (.long (-9223372036854775808 : Int64)), .second, .val (.long ((own_ttl fl tr) * (1000000 : Int64))), .second, .val (.long (now - ((own_ttl fl tr) * (1000000 : Int64)))), .second] [])) _
        refine XS.iconst X9.here hx rfl (hb hby at_126) ?_
        show Steps p.tables e below (T9.setTop (mkF m 127 #[.val (.long now), .second, .val (.long tr), .second, .val (.int vr), .val (.int fl), .val (.int (own_b ((fl &&& (3 : Int32)) = (0 : Int32)))), .val (.long (own_ttl fl tr)), .second, .val (.int (if (1 : Int32) < (vr &&& (2147483647 : Int32)) then (vr &&& (2147483647 : Int32)) else (1 : Int32))), .val (.ref b6), .val (.long (own_ok (own_ttl fl tr) now)), .second, .val (.long (-9223372036854775808 : Int64)), .second, .val (.long ((own_ttl fl tr) * (1000000 : Int64))), .second, .val (.long (now - ((own_ttl fl tr) * (1000000 : Int64)))), .second] [(.int (1 : Int32))])) _
        refine XS.goto X9.here hx rfl (pc0 := 127) (pc' := 131) rfl (hb hby at_127) (by decide) (by decide) ?_
        exact k
      exact own_retNW X9 hS8 (by rw [e9]; exact (Nat.le_refl T8.heap.size)) hx Bd.notSynchronized (t := .boolean) Bd.returns (by simp) (hb hby at_131) ⟨rfl, N9⟩ (by decide) (by decide)
    · refine own_stepW (B := T9.setTop (mkF m 122 #[.val (.long now), .second, .val (.long tr), .second, .val (.int vr), .val (.int fl), .val (.int (own_b ((fl &&& (3 : Int32)) = (0 : Int32)))), .val (.long (own_ttl fl tr)), .second, .val (.int (if (1 : Int32) < (vr &&& (2147483647 : Int32)) then (vr &&& (2147483647 : Int32)) else (1 : Int32))), .val (.ref b6), .val (.long (own_ok (own_ttl fl tr) now)), .second, .val (.long (now - ((own_ttl fl tr) * (1000000 : Int64)))), .second, .val (.long ((own_ttl fl tr) * (1000000 : Int64))), .second, .val (.long (now - ((own_ttl fl tr) * (1000000 : Int64)))), .second] [(.long (now - ((own_ttl fl tr) * (1000000 : Int64)))), (.long (own_ok (own_ttl fl tr) now))])) (fun t k => ?_) ?_
      · show Steps p.tables e below (T9.setTop (mkF m 103 #[.val (.long now), .second, .val (.long tr), .second, .val (.int vr), .val (.int fl), .val (.int (own_b ((fl &&& (3 : Int32)) = (0 : Int32)))), .val (.long (own_ttl fl tr)), .second, .val (.int (if (1 : Int32) < (vr &&& (2147483647 : Int32)) then (vr &&& (2147483647 : Int32)) else (1 : Int32))), .val (.ref b6), .val (.long (own_ok (own_ttl fl tr) now)), .second, .unset, .unset, .val (.long ((own_ttl fl tr) * (1000000 : Int64))), .second, .val (.long (now - ((own_ttl fl tr) * (1000000 : Int64)))), .second] [(.int (lcmpW (now - ((own_ttl fl tr) * (1000000 : Int64))) now))])) _
        refine XS.ifYes X9.here hx rfl (pc0 := 103) (pc' := 114) rfl (hb hby at_103) rfl ((if0 _ _).trans (flt (fun q => hc103 ((lw_gt _ _).mp q))).2.2.2) (by decide) (by decide) ?_
        show Steps p.tables e below (T9.setTop (mkF m 114 #[.val (.long now), .second, .val (.long tr), .second, .val (.int vr), .val (.int fl), .val (.int (own_b ((fl &&& (3 : Int32)) = (0 : Int32)))), .val (.long (own_ttl fl tr)), .second, .val (.int (if (1 : Int32) < (vr &&& (2147483647 : Int32)) then (vr &&& (2147483647 : Int32)) else (1 : Int32))), .val (.ref b6), .val (.long (own_ok (own_ttl fl tr) now)), .second, .unset, .unset, .val (.long ((own_ttl fl tr) * (1000000 : Int64))), .second, .val (.long (now - ((own_ttl fl tr) * (1000000 : Int64)))), .second] [])) _
        refine XS.lload X9.here hx rfl (hb hby at_114) rfl ?_
        show Steps p.tables e below (T9.setTop (mkF m 116 #[.val (.long now), .second, .val (.long tr), .second, .val (.int vr), .val (.int fl), .val (.int (own_b ((fl &&& (3 : Int32)) = (0 : Int32)))), .val (.long (own_ttl fl tr)), .second, .val (.int (if (1 : Int32) < (vr &&& (2147483647 : Int32)) then (vr &&& (2147483647 : Int32)) else (1 : Int32))), .val (.ref b6), .val (.long (own_ok (own_ttl fl tr) now)), .second, .unset, .unset, .val (.long ((own_ttl fl tr) * (1000000 : Int64))), .second, .val (.long (now - ((own_ttl fl tr) * (1000000 : Int64)))), .second] [(.long (now - ((own_ttl fl tr) * (1000000 : Int64))))])) _
        refine XS.lstore X9.here hx rfl (hb hby at_116) rfl (l' := #[.val (.long now), .second, .val (.long tr), .second, .val (.int vr), .val (.int fl), .val (.int (own_b ((fl &&& (3 : Int32)) = (0 : Int32)))), .val (.long (own_ttl fl tr)), .second, .val (.int (if (1 : Int32) < (vr &&& (2147483647 : Int32)) then (vr &&& (2147483647 : Int32)) else (1 : Int32))), .val (.ref b6), .val (.long (own_ok (own_ttl fl tr) now)), .second, .val (.long (now - ((own_ttl fl tr) * (1000000 : Int64)))), .second, .val (.long ((own_ttl fl tr) * (1000000 : Int64))), .second, .val (.long (now - ((own_ttl fl tr) * (1000000 : Int64)))), .second]) rfl ?_
        show Steps p.tables e below (T9.setTop (mkF m 118 #[.val (.long now), .second, .val (.long tr), .second, .val (.int vr), .val (.int fl), .val (.int (own_b ((fl &&& (3 : Int32)) = (0 : Int32)))), .val (.long (own_ttl fl tr)), .second, .val (.int (if (1 : Int32) < (vr &&& (2147483647 : Int32)) then (vr &&& (2147483647 : Int32)) else (1 : Int32))), .val (.ref b6), .val (.long (own_ok (own_ttl fl tr) now)), .second, .val (.long (now - ((own_ttl fl tr) * (1000000 : Int64)))), .second, .val (.long ((own_ttl fl tr) * (1000000 : Int64))), .second, .val (.long (now - ((own_ttl fl tr) * (1000000 : Int64)))), .second] [])) _
        refine XS.lload X9.here hx rfl (hb hby at_118) rfl ?_
        show Steps p.tables e below (T9.setTop (mkF m 120 #[.val (.long now), .second, .val (.long tr), .second, .val (.int vr), .val (.int fl), .val (.int (own_b ((fl &&& (3 : Int32)) = (0 : Int32)))), .val (.long (own_ttl fl tr)), .second, .val (.int (if (1 : Int32) < (vr &&& (2147483647 : Int32)) then (vr &&& (2147483647 : Int32)) else (1 : Int32))), .val (.ref b6), .val (.long (own_ok (own_ttl fl tr) now)), .second, .val (.long (now - ((own_ttl fl tr) * (1000000 : Int64)))), .second, .val (.long ((own_ttl fl tr) * (1000000 : Int64))), .second, .val (.long (now - ((own_ttl fl tr) * (1000000 : Int64)))), .second] [(.long (own_ok (own_ttl fl tr) now))])) _
        refine XS.lload X9.here hx rfl (hb hby at_120) rfl ?_
        exact k
      have hfin : (own_ok (own_ttl fl tr) now) = (now - ((own_ttl fl tr) * (1000000 : Int64))) := by rw [own_same _ _ (own_ttl_ok fl tr), own_ex, if_neg (fun q => hP ((own_ttl_f fl tr).mpr q)), if_neg hc103]
      refine own_stepW (B := T9.setTop (mkF m 131 #[.val (.long now), .second, .val (.long tr), .second, .val (.int vr), .val (.int fl), .val (.int (own_b ((fl &&& (3 : Int32)) = (0 : Int32)))), .val (.long (own_ttl fl tr)), .second, .val (.int (if (1 : Int32) < (vr &&& (2147483647 : Int32)) then (vr &&& (2147483647 : Int32)) else (1 : Int32))), .val (.ref b6), .val (.long (own_ok (own_ttl fl tr) now)), .second, .val (.long (now - ((own_ttl fl tr) * (1000000 : Int64)))), .second, .val (.long ((own_ttl fl tr) * (1000000 : Int64))), .second, .val (.long (now - ((own_ttl fl tr) * (1000000 : Int64)))), .second] [(.int (1 : Int32))])) (fun t k => ?_) ?_
      · show Steps p.tables e below (T9.setTop (mkF m 122 #[.val (.long now), .second, .val (.long tr), .second, .val (.int vr), .val (.int fl), .val (.int (own_b ((fl &&& (3 : Int32)) = (0 : Int32)))), .val (.long (own_ttl fl tr)), .second, .val (.int (if (1 : Int32) < (vr &&& (2147483647 : Int32)) then (vr &&& (2147483647 : Int32)) else (1 : Int32))), .val (.ref b6), .val (.long (own_ok (own_ttl fl tr) now)), .second, .val (.long (now - ((own_ttl fl tr) * (1000000 : Int64)))), .second, .val (.long ((own_ttl fl tr) * (1000000 : Int64))), .second, .val (.long (now - ((own_ttl fl tr) * (1000000 : Int64)))), .second] [(.long (now - ((own_ttl fl tr) * (1000000 : Int64)))), (.long (own_ok (own_ttl fl tr) now))])) _
        refine XS.lcmp X9.here hx rfl (hb hby at_122) rfl ?_
        show Steps p.tables e below (T9.setTop (mkF m 123 #[.val (.long now), .second, .val (.long tr), .second, .val (.int vr), .val (.int fl), .val (.int (own_b ((fl &&& (3 : Int32)) = (0 : Int32)))), .val (.long (own_ttl fl tr)), .second, .val (.int (if (1 : Int32) < (vr &&& (2147483647 : Int32)) then (vr &&& (2147483647 : Int32)) else (1 : Int32))), .val (.ref b6), .val (.long (own_ok (own_ttl fl tr) now)), .second, .val (.long (now - ((own_ttl fl tr) * (1000000 : Int64)))), .second, .val (.long ((own_ttl fl tr) * (1000000 : Int64))), .second, .val (.long (now - ((own_ttl fl tr) * (1000000 : Int64)))), .second] [(.int (lcmpW (own_ok (own_ttl fl tr) now) (now - ((own_ttl fl tr) * (1000000 : Int64)))))])) _
        refine XS.ifNo X9.here hx rfl (hb hby at_123) rfl ((if0 _ _).trans (teq ((lw_eq _ _).mpr hfin)).2) ?_
        show Steps p.tables e below (T9.setTop (mkF m 126 #[.val (.long now), .second, .val (.long tr), .second, .val (.int vr), .val (.int fl), .val (.int (own_b ((fl &&& (3 : Int32)) = (0 : Int32)))), .val (.long (own_ttl fl tr)), .second, .val (.int (if (1 : Int32) < (vr &&& (2147483647 : Int32)) then (vr &&& (2147483647 : Int32)) else (1 : Int32))), .val (.ref b6), .val (.long (own_ok (own_ttl fl tr) now)), .second, .val (.long (now - ((own_ttl fl tr) * (1000000 : Int64)))), .second, .val (.long ((own_ttl fl tr) * (1000000 : Int64))), .second, .val (.long (now - ((own_ttl fl tr) * (1000000 : Int64)))), .second] [])) _
        refine XS.iconst X9.here hx rfl (hb hby at_126) ?_
        show Steps p.tables e below (T9.setTop (mkF m 127 #[.val (.long now), .second, .val (.long tr), .second, .val (.int vr), .val (.int fl), .val (.int (own_b ((fl &&& (3 : Int32)) = (0 : Int32)))), .val (.long (own_ttl fl tr)), .second, .val (.int (if (1 : Int32) < (vr &&& (2147483647 : Int32)) then (vr &&& (2147483647 : Int32)) else (1 : Int32))), .val (.ref b6), .val (.long (own_ok (own_ttl fl tr) now)), .second, .val (.long (now - ((own_ttl fl tr) * (1000000 : Int64)))), .second, .val (.long ((own_ttl fl tr) * (1000000 : Int64))), .second, .val (.long (now - ((own_ttl fl tr) * (1000000 : Int64)))), .second] [(.int (1 : Int32))])) _
        refine XS.goto X9.here hx rfl (pc0 := 127) (pc' := 131) rfl (hb hby at_127) (by decide) (by decide) ?_
        exact k
      exact own_retNW X9 hS8 (by rw [e9]; exact (Nat.le_refl T8.heap.size)) hx Bd.notSynchronized (t := .boolean) Bd.returns (by simp) (hb hby at_131) ⟨rfl, N9⟩ (by decide) (by decide)
set_option maxRecDepth 65536 in
set_option maxHeartbeats 40000000 in
theorem comes_1 {Post : Tables → Env → Array Value → State → Outcome → State → Prop} (hpost : ∀ tb e args s v u, (limb_1_1.after args s (.returned v) u = true ∧ limb_1_2.after args s (.returned v) u = true ∧ True) → ReturnedEndW s (.returned v) u (Jvm.fieldLocs frame_1_writes args s ++ Jvm.arrayLocs frame_1_arrays args s ++ Jvm.staticLocs frame_1_statics s) 16 2176 → Post tb e args s (.returned v) u) :
    ArmFor flags0 classFile x code maxLocals ret World_1 tables_1 room_1 Calls_1 rest_1 Pre_1 Post := by
  intro l hfl _ _ p e ha hc hk s m args below hf hA hF happ hP
  obtain ⟨hcalls, hrest, hpre⟩ := hP
  obtain ⟨-, -, -, hnamed, -, -, -, hat⟩ := (Spec.applies_iff hf).mp happ
  obtain ⟨hg, hn⟩ := and_e (Cond.before_iff.mp (show (Jvm.Cond.and given_1 narrow_1).before args s = true from hpre))
  obtain ⟨g1, g2⟩ := and_e hg
  obtain ⟨g3, g4⟩ := and_e g2
  obtain ⟨g5, g6⟩ := and_e g4
  obtain ⟨g7, g8⟩ := and_e g6
  obtain ⟨w0, w1, w2, w3, rfl⟩ : ∃ w0 w1 w2 w3 : Value, args = #[w0, w1, w2, w3] := by
    have hs : args.size = 4 := by simpa [Cond.value, given_1] using g1
    obtain ⟨L⟩ := args
    match L, hs with
    | [w0, w1, w2, w3], _ => exact ⟨w0, w1, w2, w3, rfl⟩
  have hw := fun d (hd : d ∈ tables_1) => atoms_spec (ws := Jvm.Cond.code x code maxLocals ret :: tables_1) hat d (List.mem_cons_of_mem _ hd)
  have hfit : Fit s := fun {y c} hc i hi => by
    obtain ⟨ha, rfl⟩ := Array.getElem?_eq_some_iff.mp hc
    have q := List.all_eq_true.mp ((Array.all_eq_true_iff_forall_mem.mp hF) _ (Array.getElem_mem ha)) i (List.mem_range.mpr hi)
    simpa [Array.getElem?_eq_getElem hi] using q
  obtain ⟨hsets, hown0⟩ := atoms_of _ (rest_1_c_eq ▸ (show rest_1_c.before _ s = true from hrest))
  have hr0 := Cond.before_iff.mp hown0
  obtain ⟨i0, ei0⟩ := isL_v g3
  obtain rfl : w0 = (.long i0) := Option.some.inj ei0
  obtain ⟨i1, ei1⟩ := isL_v g5
  obtain rfl : w1 = (.long i1) := Option.some.inj ei1
  obtain ⟨i2, ei2⟩ := is_v g7
  obtain rfl : w2 = (.int i2) := Option.some.inj ei2
  obtain ⟨i3, ei3⟩ := is_v g8
  obtain rfl : w3 = (.int i3) := Option.some.inj ei3
  have hcw : Jvm.Lit.compactW.before _ s = true := (hsets _ (List.mem_of_getElem? (i := 2) rfl))
  obtain ⟨cs, evC⟩ := is_v (Cond.before_iff.mp (hsets _ (List.mem_of_getElem? (i := 1) rfl)))
  have S_C := Sta.start evC (Or.inl (hsets _ (List.mem_of_getElem? (i := 0) rfl)))
  have hcs : ¬ (cs = (0 : Int32)) := by rintro rfl; have q := not_v (Cond.before_iff.mp (hsets _ (List.mem_of_getElem? (i := 2) rfl))); rw [eq_i evC rfl rfl] at q; cases q
  obtain ⟨vf, evF, hvf⟩ := isR_v (Cond.before_iff.mp (hsets _ (List.mem_of_getElem? (i := 8) rfl)))
  have S_F := Sta.start evF (Or.inl (hsets _ (List.mem_of_getElem? (i := 7) rfl)))
  obtain ⟨n, o, h1, h2, h3, _, L, rfl, ⟨rfl, N⟩, hq⟩ := rm0 l s _ hw tables_1 i0 i1 i2 i3 cs vf s.heap s.heap.size (Nat.le_refl _) (Old.start s) rfl hcw (hcalls.1 ("com/example/nests/nests/model/FamilyOldestKeptPinLaw", 22) (by simp [consts_1])) S_C hcs S_F hvf p e ha hc hk s m _ below hf ((Spec.applies_iff_loose hf).mp happ).1 ⟨rfl, State.Warmed39.refl s, rfl, IB.start⟩ trivial
  refine ⟨n, _, h1, h2, h3, hpost _ _ _ _ _ _ ⟨Cond.after_iff.mpr rfl, Cond.after_iff.mpr (eq_i res_at (Term.int_eval (1)) rfl), trivial⟩ ⟨hq.1, hq.2.1, hq.2.2.1, (hq.2.2.2.sift fun y hy => Or.inr (N y hy)).mono (by decide) (by decide)⟩⟩
theorem main_1_1 : Claimed_1_1 := comes_1 fun _ _ _ _ _ _ h hF => ⟨h.1, hF⟩
theorem main_1_2 : Claimed_1_2 := comes_1 fun _ _ _ _ _ _ h hF => ⟨h.2.1, hF⟩
end Jvm.Pilot.@@N@@
namespace Jvm.Pilot.@@N@@
open Jvm Jvm.ClassFile Sem Op Lib Jvm.Free Jvm.Stand Jvm.Pilot.@@N@@.Jvm.D
/-! MADE BY PROGRAM (witnessworld.py) out of the Statement's table words and the real class files: 20 classes; the members and pool entries that the words name. The judged class is class 1, her method 1. -/
namespace start1
open Jvm.ClassFile
def u (s : String) : CpInfo := .utf8 (stringToUtf16 s)
/-- a pool by its gaps: so many unusable entries, then the entry; so many at the end -/
def gap : Nat → List CpInfo → List CpInfo
  | 0, r => r
  | n + 1, r => .unusable :: gap n r
def poolList (es : List (Nat × CpInfo)) (last : Nat) : List CpInfo := es.foldr (fun e r => gap e.1 (e.2 :: r)) (gap last [])
def pool (es : List (Nat × CpInfo)) (last : Nat) : Array CpInfo := ⟨poolList es last⟩
def fileOf (pool : Array CpInfo) (this : Nat) (attrs : Array Attribute := #[]) (ms : Array MethodInfo := #[]) (fl : Nat := 33) (sup : Nat := 0) (ifs : Array Nat := #[]) (fds : Array FieldInfo := #[]) : ClassFile where
  minorVersion := 0
  majorVersion := 65
  constantPool := pool
  accessFlags := fl
  thisClass := this
  superClass := sup
  interfaces := ifs
  fields := fds
  methods := ms
  attributes := attrs
def plain (name : String) (sup : Option ClassId) : Class where
  name := name
  kind := .ordinary
  loader := none
  accessFlags := 33
  super := sup
  interfaces := #[]
  cf := none
  fields := #[]
  methods := #[]
  instanceTypes := #[]
  staticTypes := #[]
  resolved := #[]
  callSites := []
  init := .initialized
  statics := none
  mirror := none

def pool0 : Array CpInfo := pool [(5, u "<init>"), (0, u "()V"), (1, .class_ 10), (1, u "java/lang/Object")] 113

def k0c0 : Code := { maxStack := 0, maxLocals := 1, code := object_method_1_code, exceptionTable := #[], attributes := #[] }
def k0m0 : Method := { name := "<init>", desc := "()V", sig := { parameters := [], returnType := none }, accessFlags := 1, code := some k0c0 }
/-- java/lang/Object -/
def k0 : Class := { plain "java/lang/Object" none with
  accessFlags := 33
  interfaces := #[]
  cf := some (fileOf pool0 8 #[] #[{ accessFlags := 1, nameIndex := 5, descriptorIndex := 6, attributes := #[] }] 33 0 #[] #[])
  fields := #[]
  methods := #[k0m0]
  instanceTypes := #[]
  staticTypes := #[]
  resolved := Array.replicate 124 none
  statics := none }

def pool1 : Array CpInfo := pool [(2, .class_ 4), (1, u "java/lang/Object"), (0, u "<init>"), (0, u "()V"), (0, .class_ 8), (0, u "com/example/nests/nests/model/Family"), (0, .long 9223372036854775807), (3, .long 9223372036854), (1, .integer 2147483647), (0, .methodref 17 18), (0, .class_ 19), (0, .nameAndType 20 21), (0, u "java/lang/Math"), (0, u "max"), (0, u "(II)I"), (0, .string 23), (0, u "f"), (0, .methodref 7 25), (0, .nameAndType 5 26), (0, u "(Ljava/lang/String;IJ)V"), (0, .methodref 7 28), (0, .nameAndType 29 30), (0, u "oldestKept"), (0, u "(J)J"), (0, .long 9223372036854775808), (1, .long 1000000), (1, .class_ 36), (0, u "com/example/nests/nests/model/FamilyOldestKeptPinLaw"), (2, u "law"), (0, u "(JJII)Z")] 3

def k1m0 : Method := { name := "<init>", desc := "()V", sig := { parameters := [], returnType := none }, accessFlags := 1, code := none }
def k1c1 : Code := { maxStack := 6, maxLocals := 19, code := code, exceptionTable := #[], attributes := #[] }
def k1m1 : Method := { name := "law", desc := "(JJII)Z", sig := { parameters := [.long, .long, .int, .int], returnType := some .boolean }, accessFlags := 9, code := some k1c1 }
/-- com/example/nests/nests/model/FamilyOldestKeptPinLaw -/
def k1 : Class := { plain "com/example/nests/nests/model/FamilyOldestKeptPinLaw" (some 0) with
  accessFlags := 49
  interfaces := #[]
  cf := some (fileOf pool1 35 #[] #[{ accessFlags := 1, nameIndex := 5, descriptorIndex := 6, attributes := #[] }, { accessFlags := 9, nameIndex := 39, descriptorIndex := 40, attributes := #[] }] 49 2 #[] #[])
  fields := #[]
  methods := #[k1m0, k1m1]
  instanceTypes := #[]
  staticTypes := #[]
  resolved := Array.replicate 44 none
  statics := none }

def pool2 : Array CpInfo := pool [(1, .class_ 2), (0, u "java/lang/Math"), (1, .class_ 6), (1, u "java/lang/Object"), (0, u "<init>"), (0, u "()V"), (89, .class_ 100), (1, u "java/lang/Math$RandomNumberGeneratorHolder"), (71, u "negativeZeroFloatBits"), (0, u "J"), (2, u "negativeZeroDoubleBits"), (21, u "max"), (46, u "$assertionsDisabled"), (0, u "Z"), (88, u "(II)I"), (2, u "twoToTheDoubleScaleDown"), (0, u "D"), (4, u "twoToTheDoubleScaleUp"), (9, u "E"), (3, u "PI"), (2, u "TAU"), (2, u "DEGREES_TO_RADIANS"), (0, u "RADIANS_TO_DEGREES")] 94

def k2m0 : Method := { name := "<init>", desc := "()V", sig := { parameters := [], returnType := none }, accessFlags := 2, code := none }
def k2c1 : Code := { maxStack := 2, maxLocals := 2, code := jdk_29_method_65_code, exceptionTable := #[], attributes := #[] }
def k2m1 : Method := { name := "max", desc := "(II)I", sig := { parameters := [.int, .int], returnType := some .int }, accessFlags := 9, code := some k2c1 }
/-- java/lang/Math -/
def k2 : Class := { plain "java/lang/Math" (some 0) with
  accessFlags := 49
  interfaces := #[]
  cf := some (fileOf pool2 1 #[.nestMembers #[98]] #[{ accessFlags := 2, nameIndex := 7, descriptorIndex := 8, attributes := #[] }, { accessFlags := 9, nameIndex := 198, descriptorIndex := 335, attributes := #[] }] 49 4 #[] #[{ accessFlags := 25, nameIndex := 354, descriptorIndex := 339, attributes := #[] }, { accessFlags := 25, nameIndex := 358, descriptorIndex := 339, attributes := #[] }, { accessFlags := 25, nameIndex := 361, descriptorIndex := 339, attributes := #[] }, { accessFlags := 26, nameIndex := 364, descriptorIndex := 339, attributes := #[] }, { accessFlags := 26, nameIndex := 365, descriptorIndex := 339, attributes := #[] }, { accessFlags := 26, nameIndex := 172, descriptorIndex := 173, attributes := #[] }, { accessFlags := 26, nameIndex := 176, descriptorIndex := 173, attributes := #[] }, { accessFlags := 8, nameIndex := 344, descriptorIndex := 339, attributes := #[] }, { accessFlags := 8, nameIndex := 338, descriptorIndex := 339, attributes := #[] }, { accessFlags := 4120, nameIndex := 245, descriptorIndex := 246, attributes := #[] }])
  fields := #[{ name := "E", type := .double, accessFlags := 25, slot := 0, constantValue := 0 }, { name := "PI", type := .double, accessFlags := 25, slot := 1, constantValue := 0 }, { name := "TAU", type := .double, accessFlags := 25, slot := 2, constantValue := 0 }, { name := "DEGREES_TO_RADIANS", type := .double, accessFlags := 26, slot := 3, constantValue := 0 }, { name := "RADIANS_TO_DEGREES", type := .double, accessFlags := 26, slot := 4, constantValue := 0 }, { name := "negativeZeroFloatBits", type := .long, accessFlags := 26, slot := 5, constantValue := 0 }, { name := "negativeZeroDoubleBits", type := .long, accessFlags := 26, slot := 6, constantValue := 0 }, { name := "twoToTheDoubleScaleUp", type := .double, accessFlags := 8, slot := 7, constantValue := 0 }, { name := "twoToTheDoubleScaleDown", type := .double, accessFlags := 8, slot := 8, constantValue := 0 }, { name := "$assertionsDisabled", type := .boolean, accessFlags := 4120, slot := 9, constantValue := 0 }]
  methods := #[k2m0, k2m1]
  instanceTypes := #[]
  staticTypes := #[.double, .double, .double, .double, .double, .long, .long, .double, .double, .boolean]
  resolved := Array.replicate 460 none
  statics := none }

def pool3 : Array CpInfo := pool [(5, .class_ 6), (0, u "com/example/nests/nests/model/Family"), (1, .long 9223372036854775807), (3, u "<init>"), (0, u "(Ljava/lang/String;IJ)V"), (0, .methodref 15 16), (0, .class_ 17), (0, .nameAndType 12 18), (0, u "java/lang/Object"), (0, u "()V"), (0, .methodref 20 21), (0, .class_ 22), (0, .nameAndType 23 24), (0, u "com/example/nests/nests/model/Cell"), (0, u "checkFamily"), (0, u "(Ljava/lang/String;)V"), (8, .long 9223372036854), (4, .fieldref 5 39), (0, .nameAndType 40 41), (0, u "name"), (0, u "Ljava/lang/String;"), (0, .fieldref 5 43), (0, .nameAndType 44 45), (0, u "maxVersions"), (0, u "I"), (0, .fieldref 5 47), (0, .nameAndType 48 49), (0, u "ttlSeconds"), (0, u "J"), (0, .long 9223372036854775808), (1, .long 1000000), (28, u "ALL_VERSIONS"), (1, u "FOREVER"), (0, u "MAX_TTL_SECONDS"), (10, u "oldestKept"), (0, u "(J)J")] 21

def k3c0 : Code := { maxStack := 5, maxLocals := 5, code := prog_71_method_2_code, exceptionTable := #[], attributes := #[] }
def k3m0 : Method := { name := "<init>", desc := "(Ljava/lang/String;IJ)V", sig := { parameters := [(.object "java/lang/String"), .int, .long], returnType := none }, accessFlags := 1, code := some k3c0 }
def k3c1 : Code := { maxStack := 6, maxLocals := 7, code := prog_71_method_7_code, exceptionTable := #[], attributes := #[] }
def k3m1 : Method := { name := "oldestKept", desc := "(J)J", sig := { parameters := [.long], returnType := some .long }, accessFlags := 1, code := some k3c1 }
/-- com/example/nests/nests/model/Family -/
def k3 : Class := { plain "com/example/nests/nests/model/Family" (some 0) with
  accessFlags := 33
  interfaces := #[]
  cf := some (fileOf pool3 5 #[] #[{ accessFlags := 1, nameIndex := 12, descriptorIndex := 13, attributes := #[] }, { accessFlags := 1, nameIndex := 95, descriptorIndex := 96, attributes := #[] }] 33 15 #[] #[{ accessFlags := 25, nameIndex := 81, descriptorIndex := 45, attributes := #[] }, { accessFlags := 25, nameIndex := 83, descriptorIndex := 49, attributes := #[] }, { accessFlags := 25, nameIndex := 84, descriptorIndex := 49, attributes := #[] }, { accessFlags := 18, nameIndex := 40, descriptorIndex := 41, attributes := #[] }, { accessFlags := 18, nameIndex := 44, descriptorIndex := 45, attributes := #[] }, { accessFlags := 18, nameIndex := 48, descriptorIndex := 49, attributes := #[] }])
  fields := #[{ name := "ALL_VERSIONS", type := .int, accessFlags := 25, slot := 0, constantValue := 0 }, { name := "FOREVER", type := .long, accessFlags := 25, slot := 1, constantValue := 0 }, { name := "MAX_TTL_SECONDS", type := .long, accessFlags := 25, slot := 2, constantValue := 0 }, { name := "name", type := (.object "java/lang/String"), accessFlags := 18, slot := 0, constantValue := 0 }, { name := "maxVersions", type := .int, accessFlags := 18, slot := 1, constantValue := 0 }, { name := "ttlSeconds", type := .long, accessFlags := 18, slot := 2, constantValue := 0 }]
  methods := #[k3m0, k3m1]
  instanceTypes := #[(.object "java/lang/String"), .int, .long]
  staticTypes := #[.int, .long, .long]
  resolved := Array.replicate 118 none
  statics := none }

def pool4 : Array CpInfo := pool [(1, .class_ 2), (0, u "java/io/Serializable"), (0, .class_ 4), (0, u "java/lang/Object")] 2

/-- java/io/Serializable -/
def k4 : Class := { plain "java/io/Serializable" (some 0) with
  accessFlags := 1537
  interfaces := #[]
  cf := some (fileOf pool4 1 #[] #[] 1537 3 #[] #[])
  fields := #[]
  methods := #[]
  instanceTypes := #[]
  staticTypes := #[]
  resolved := Array.replicate 7 none
  statics := none }

def pool5 : Array CpInfo := pool [(1, .class_ 2), (0, u "java/lang/Comparable"), (0, .class_ 4), (0, u "java/lang/Object")] 7

/-- java/lang/Comparable -/
def k5 : Class := { plain "java/lang/Comparable" (some 0) with
  accessFlags := 1537
  interfaces := #[]
  cf := some (fileOf pool5 1 #[] #[] 1537 3 #[] #[])
  fields := #[]
  methods := #[]
  instanceTypes := #[]
  staticTypes := #[]
  resolved := Array.replicate 12 none
  statics := none }

def pool6 : Array CpInfo := pool [(2, .class_ 4), (1, u "java/lang/CharSequence"), (42, .class_ 48), (0, u "java/lang/CharSequence$1CodePointIterator"), (10, .class_ 60), (0, u "java/lang/CharSequence$1CharIterator"), (5, .class_ 67), (0, u "java/lang/Object")] 63

/-- java/lang/CharSequence -/
def k6 : Class := { plain "java/lang/CharSequence" (some 0) with
  accessFlags := 1537
  interfaces := #[]
  cf := some (fileOf pool6 2 #[.nestMembers #[47, 59]] #[] 1537 66 #[] #[])
  fields := #[]
  methods := #[]
  instanceTypes := #[]
  staticTypes := #[]
  resolved := Array.replicate 131 none
  statics := none }

def pool7 : Array CpInfo := pool [(1, .class_ 2), (0, u "java/lang/constant/Constable"), (0, .class_ 4), (0, u "java/lang/Object")] 6

/-- java/lang/constant/Constable -/
def k7 : Class := { plain "java/lang/constant/Constable" (some 0) with
  accessFlags := 1537
  interfaces := #[]
  cf := some (fileOf pool7 1 #[] #[] 1537 3 #[] #[])
  fields := #[]
  methods := #[]
  instanceTypes := #[]
  staticTypes := #[]
  resolved := Array.replicate 11 none
  statics := none }

def pool8 : Array CpInfo := pool [(1, .class_ 2), (0, u "java/lang/constant/ConstantDesc"), (0, .class_ 4), (0, u "java/lang/Object")] 32

/-- java/lang/constant/ConstantDesc -/
def k8 : Class := { plain "java/lang/constant/ConstantDesc" (some 0) with
  accessFlags := 1537
  interfaces := #[]
  cf := some (fileOf pool8 1 #[] #[] 1537 3 #[] #[])
  fields := #[]
  methods := #[]
  instanceTypes := #[]
  staticTypes := #[]
  resolved := Array.replicate 37 none
  statics := none }

def pool9 : Array CpInfo := pool [(2, .class_ 4), (1, u "java/lang/Object"), (0, u "<init>"), (0, u "()V"), (2, .fieldref 10 11), (0, .class_ 12), (0, .nameAndType 13 14), (0, u "java/lang/String"), (0, u "value"), (0, u "[B"), (0, .fieldref 10 16), (0, .nameAndType 17 18), (0, u "coder"), (0, u "B"), (2, u "hash"), (0, u "I"), (2, u "hashIsZero"), (0, u "Z"), (11, .fieldref 10 39), (0, .nameAndType 40 26), (0, u "COMPACT_STRINGS"), (66, .class_ 109), (1, u "java/lang/StringLatin1"), (32, u "()Z"), (191, u "()I"), (0, .methodref 10 336), (0, .nameAndType 17 337), (0, u "()B"), (25, u "([BI)C"), (27, u "(II)V"), (35, u "(I)C"), (64, .methodref 10 493), (0, .nameAndType 494 142), (0, u "isLatin1"), (0, .methodref 107 496), (0, .nameAndType 497 363), (0, u "charAt"), (3, u "checkIndex"), (5, u "length"), (67, .class_ 576), (0, u "java/lang/CharSequence"), (22, u "CASE_INSENSITIVE_ORDER"), (0, u "Ljava/util/Comparator;"), (91, u "isEmpty"), (360, .fieldref 1054 1055), (0, .class_ 1056), (0, .nameAndType 1057 1058), (0, u "jdk/internal/util/Preconditions"), (0, u "SIOOBE_FORMATTER"), (0, u "Ljava/util/function/BiFunction;"), (0, .methodref 1054 1060), (0, .nameAndType 501 1061), (0, u "(IILjava/util/function/BiFunction;)I"), (39, u "serialPersistentFields"), (0, u "[Ljava/io/ObjectStreamField;"), (0, .class_ 1104), (0, u "java/lang/String$CaseInsensitiveComparator"), (1, .class_ 1107), (0, u "java/io/Serializable"), (0, .class_ 1109), (0, u "java/lang/Comparable"), (0, .class_ 1111), (0, u "java/lang/constant/Constable"), (0, .class_ 1113), (0, u "java/lang/constant/ConstantDesc"), (2, u "serialVersionUID"), (0, u "J"), (3, u "REPL"), (0, u "C"), (2, u "LATIN1"), (1, u "UTF16")] 323

def k9m0 : Method := { name := "<init>", desc := "()V", sig := { parameters := [], returnType := none }, accessFlags := 1, code := none }
def k9c1 : Code := { maxStack := 2, maxLocals := 1, code := jdk_42_method_54_code, exceptionTable := #[], attributes := #[] }
def k9m1 : Method := { name := "length", desc := "()I", sig := { parameters := [], returnType := some .int }, accessFlags := 1, code := some k9c1 }
def k9c2 : Code := { maxStack := 1, maxLocals := 1, code := jdk_42_method_55_code, exceptionTable := #[], attributes := #[] }
def k9m2 : Method := { name := "isEmpty", desc := "()Z", sig := { parameters := [], returnType := some .boolean }, accessFlags := 1, code := some k9c2 }
def k9c3 : Code := { maxStack := 2, maxLocals := 2, code := jdk_42_method_56_code, exceptionTable := #[], attributes := #[] }
def k9m3 : Method := { name := "charAt", desc := "(I)C", sig := { parameters := [.int], returnType := some .char }, accessFlags := 1, code := some k9c3 }
def k9c4 : Code := { maxStack := 1, maxLocals := 1, code := jdk_42_method_152_code, exceptionTable := #[], attributes := #[] }
def k9m4 : Method := { name := "coder", desc := "()B", sig := { parameters := [], returnType := some .byte }, accessFlags := 0, code := some k9c4 }
def k9c5 : Code := { maxStack := 1, maxLocals := 1, code := jdk_42_method_154_code, exceptionTable := #[], attributes := #[] }
def k9m5 : Method := { name := "isLatin1", desc := "()Z", sig := { parameters := [], returnType := some .boolean }, accessFlags := 0, code := some k9c5 }
def k9c6 : Code := { maxStack := 3, maxLocals := 2, code := jdk_42_method_155_code, exceptionTable := #[], attributes := #[] }
def k9m6 : Method := { name := "checkIndex", desc := "(II)V", sig := { parameters := [.int, .int], returnType := none }, accessFlags := 8, code := some k9c6 }
/-- java/lang/String -/
def k9 : Class := { plain "java/lang/String" (some 0) with
  accessFlags := 49
  interfaces := #[4, 5, 6, 7, 8]
  cf := some (fileOf pool9 10 #[.nestMembers #[1103]] #[{ accessFlags := 1, nameIndex := 5, descriptorIndex := 6, attributes := #[] }, { accessFlags := 1, nameIndex := 507, descriptorIndex := 334, attributes := #[] }, { accessFlags := 1, nameIndex := 692, descriptorIndex := 142, attributes := #[] }, { accessFlags := 1, nameIndex := 497, descriptorIndex := 427, attributes := #[] }, { accessFlags := 0, nameIndex := 17, descriptorIndex := 337, attributes := #[] }, { accessFlags := 0, nameIndex := 494, descriptorIndex := 142, attributes := #[] }, { accessFlags := 8, nameIndex := 501, descriptorIndex := 391, attributes := #[] }] 49 2 #[1106, 1108, 575, 1110, 1112] #[{ accessFlags := 18, nameIndex := 13, descriptorIndex := 14, attributes := #[] }, { accessFlags := 18, nameIndex := 17, descriptorIndex := 18, attributes := #[] }, { accessFlags := 2, nameIndex := 21, descriptorIndex := 22, attributes := #[] }, { accessFlags := 2, nameIndex := 25, descriptorIndex := 26, attributes := #[] }, { accessFlags := 26, nameIndex := 1116, descriptorIndex := 1117, attributes := #[] }, { accessFlags := 24, nameIndex := 40, descriptorIndex := 26, attributes := #[] }, { accessFlags := 26, nameIndex := 1101, descriptorIndex := 1102, attributes := #[] }, { accessFlags := 26, nameIndex := 1121, descriptorIndex := 1122, attributes := #[] }, { accessFlags := 25, nameIndex := 599, descriptorIndex := 600, attributes := #[] }, { accessFlags := 24, nameIndex := 1125, descriptorIndex := 18, attributes := #[] }, { accessFlags := 24, nameIndex := 1127, descriptorIndex := 18, attributes := #[] }])
  fields := #[{ name := "value", type := (.array .byte), accessFlags := 18, slot := 0, constantValue := 0 }, { name := "coder", type := .byte, accessFlags := 18, slot := 1, constantValue := 0 }, { name := "hash", type := .int, accessFlags := 2, slot := 2, constantValue := 0 }, { name := "hashIsZero", type := .boolean, accessFlags := 2, slot := 3, constantValue := 0 }, { name := "serialVersionUID", type := .long, accessFlags := 26, slot := 0, constantValue := 0 }, { name := "COMPACT_STRINGS", type := .boolean, accessFlags := 24, slot := 1, constantValue := 0 }, { name := "serialPersistentFields", type := (.array (.object "java/io/ObjectStreamField")), accessFlags := 26, slot := 2, constantValue := 0 }, { name := "REPL", type := .char, accessFlags := 26, slot := 3, constantValue := 0 }, { name := "CASE_INSENSITIVE_ORDER", type := (.object "java/util/Comparator"), accessFlags := 25, slot := 4, constantValue := 0 }, { name := "LATIN1", type := .byte, accessFlags := 24, slot := 5, constantValue := 0 }, { name := "UTF16", type := .byte, accessFlags := 24, slot := 6, constantValue := 0 }]
  methods := #[k9m0, k9m1, k9m2, k9m3, k9m4, k9m5, k9m6]
  instanceTypes := #[(.array .byte), .byte, .int, .boolean]
  staticTypes := #[.long, .boolean, (.array (.object "java/io/ObjectStreamField")), .char, (.object "java/util/Comparator"), .byte, .byte]
  resolved := Array.replicate 1451 none
  statics := some 0 }

def pool10 : Array CpInfo := pool [(1, .class_ 2), (0, u "com/example/nests/nests/model/Names"), (1, .class_ 6), (1, u "java/lang/Object"), (3, .class_ 12), (1, u "com/example/nests/nests/model/Cell"), (4, u "checkFamily"), (0, u "(Ljava/lang/String;)V"), (3, u "[B"), (4, u "row"), (2, u "family"), (0, u "Ljava/lang/String;"), (2, u "qualifier"), (2, u "timestamp"), (0, u "J"), (2, u "value"), (9, .string 30), (0, .methodref 1 53), (0, .nameAndType 54 55), (0, u "check"), (0, u "(Ljava/lang/String;Ljava/lang/String;)V"), (59, u "MAX_ROW_LENGTH"), (0, u "I"), (1, u "MAX_FAMILY_LENGTH")] 32

def k10c0 : Code := { maxStack := 2, maxLocals := 1, code := prog_68_method_3_code, exceptionTable := #[], attributes := #[] }
def k10m0 : Method := { name := "checkFamily", desc := "(Ljava/lang/String;)V", sig := { parameters := [(.object "java/lang/String")], returnType := none }, accessFlags := 9, code := some k10c0 }
/-- com/example/nests/nests/model/Cell -/
def k10 : Class := { plain "com/example/nests/nests/model/Cell" (some 0) with
  accessFlags := 33
  interfaces := #[]
  cf := some (fileOf pool10 10 #[] #[{ accessFlags := 9, nameIndex := 17, descriptorIndex := 18, attributes := #[] }] 33 4 #[] #[{ accessFlags := 25, nameIndex := 115, descriptorIndex := 116, attributes := #[] }, { accessFlags := 25, nameIndex := 118, descriptorIndex := 116, attributes := #[] }, { accessFlags := 18, nameIndex := 27, descriptorIndex := 22, attributes := #[] }, { accessFlags := 18, nameIndex := 30, descriptorIndex := 31, attributes := #[] }, { accessFlags := 18, nameIndex := 34, descriptorIndex := 22, attributes := #[] }, { accessFlags := 18, nameIndex := 37, descriptorIndex := 38, attributes := #[] }, { accessFlags := 18, nameIndex := 41, descriptorIndex := 22, attributes := #[] }])
  fields := #[{ name := "MAX_ROW_LENGTH", type := .int, accessFlags := 25, slot := 0, constantValue := 0 }, { name := "MAX_FAMILY_LENGTH", type := .int, accessFlags := 25, slot := 1, constantValue := 0 }, { name := "row", type := (.array .byte), accessFlags := 18, slot := 0, constantValue := 0 }, { name := "family", type := (.object "java/lang/String"), accessFlags := 18, slot := 1, constantValue := 0 }, { name := "qualifier", type := (.array .byte), accessFlags := 18, slot := 2, constantValue := 0 }, { name := "timestamp", type := .long, accessFlags := 18, slot := 3, constantValue := 0 }, { name := "value", type := (.array .byte), accessFlags := 18, slot := 4, constantValue := 0 }]
  methods := #[k10m0]
  instanceTypes := #[(.array .byte), (.object "java/lang/String"), (.array .byte), .long, (.array .byte)]
  staticTypes := #[.int, .int]
  resolved := Array.replicate 151 none
  statics := none }

def pool11 : Array CpInfo := pool [(2, .class_ 4), (1, u "java/lang/Object"), (0, u "<init>"), (0, u "()V"), (0, .methodref 8 9), (0, .class_ 10), (0, .nameAndType 11 12), (0, u "java/lang/String"), (0, u "isEmpty"), (0, u "()Z"), (0, .methodref 8 14), (0, .nameAndType 15 16), (0, u "length"), (0, u "()I"), (0, .class_ 18), (0, u "com/example/nests/nests/model/Names"), (9, .methodref 8 29), (0, .nameAndType 30 31), (0, u "charAt"), (0, u "(I)C"), (0, .methodref 17 33), (0, .nameAndType 34 35), (0, u "isNameChar"), (0, u "(C)Z"), (12, u "MAX_LENGTH"), (0, u "I"), (4, u "check"), (0, u "(Ljava/lang/String;Ljava/lang/String;)V")] 18

def k11m0 : Method := { name := "<init>", desc := "()V", sig := { parameters := [], returnType := none }, accessFlags := 2, code := none }
def k11c1 : Code := { maxStack := 7, maxLocals := 4, code := prog_76_method_2_code, exceptionTable := #[], attributes := #[] }
def k11m1 : Method := { name := "check", desc := "(Ljava/lang/String;Ljava/lang/String;)V", sig := { parameters := [(.object "java/lang/String"), (.object "java/lang/String")], returnType := none }, accessFlags := 9, code := some k11c1 }
def k11c2 : Code := { maxStack := 2, maxLocals := 1, code := prog_76_method_3_code, exceptionTable := #[], attributes := #[] }
def k11m2 : Method := { name := "isNameChar", desc := "(C)Z", sig := { parameters := [.char], returnType := some .boolean }, accessFlags := 10, code := some k11c2 }
/-- com/example/nests/nests/model/Names -/
def k11 : Class := { plain "com/example/nests/nests/model/Names" (some 0) with
  accessFlags := 33
  interfaces := #[]
  cf := some (fileOf pool11 17 #[] #[{ accessFlags := 2, nameIndex := 5, descriptorIndex := 6, attributes := #[] }, { accessFlags := 9, nameIndex := 54, descriptorIndex := 55, attributes := #[] }, { accessFlags := 10, nameIndex := 34, descriptorIndex := 35, attributes := #[] }] 33 2 #[] #[{ accessFlags := 25, nameIndex := 48, descriptorIndex := 49, attributes := #[] }])
  fields := #[{ name := "MAX_LENGTH", type := .int, accessFlags := 25, slot := 0, constantValue := 0 }]
  methods := #[k11m0, k11m1, k11m2]
  instanceTypes := #[]
  staticTypes := #[.int]
  resolved := Array.replicate 74 none
  statics := none }

def pool12 : Array CpInfo := pool [(1, .class_ 2), (0, u "java/lang/String"), (1, .class_ 6), (1, u "java/lang/Object"), (0, u "<init>"), (0, u "()V"), (0, .methodref 1 10), (0, .nameAndType 11 12), (0, u "checkIndex"), (0, u "(II)V"), (1, .class_ 16), (1, u "java/lang/StringLatin1"), (36, u "([BI)C"), (67, u "$assertionsDisabled"), (0, u "Z"), (98, .class_ 223), (1, u "java/lang/StringLatin1$LinesSpliterator"), (28, u "charAt"), (137, .class_ 391), (0, u "java/lang/StringLatin1$CharsSpliterator")] 3

def k12m0 : Method := { name := "<init>", desc := "()V", sig := { parameters := [], returnType := none }, accessFlags := 0, code := none }
def k12c1 : Code := { maxStack := 2, maxLocals := 2, code := jdk_43_method_2_code, exceptionTable := #[], attributes := #[] }
def k12m1 : Method := { name := "charAt", desc := "([BI)C", sig := { parameters := [(.array .byte), .int], returnType := some .char }, accessFlags := 9, code := some k12c1 }
/-- java/lang/StringLatin1 -/
def k12 : Class := { plain "java/lang/StringLatin1" (some 0) with
  accessFlags := 48
  interfaces := #[]
  cf := some (fileOf pool12 14 #[.nestMembers #[390, 221]] #[{ accessFlags := 0, nameIndex := 7, descriptorIndex := 8, attributes := #[] }, { accessFlags := 9, nameIndex := 252, descriptorIndex := 53, attributes := #[] }] 48 4 #[] #[{ accessFlags := 4120, nameIndex := 121, descriptorIndex := 122, attributes := #[] }])
  fields := #[{ name := "$assertionsDisabled", type := .boolean, accessFlags := 4120, slot := 0, constantValue := 0 }]
  methods := #[k12m0, k12m1]
  instanceTypes := #[]
  staticTypes := #[.boolean]
  resolved := Array.replicate 395 none
  statics := none }

def pool13 : Array CpInfo := pool [(2, .class_ 4), (1, u "java/lang/Object"), (0, u "<init>"), (0, u "()V"), (17, .class_ 26), (1, u "jdk/internal/util/Preconditions"), (6, u "checkIndex"), (21, .class_ 56), (0, u "jdk/internal/util/Preconditions$4"), (57, .class_ 115), (0, u "jdk/internal/util/Preconditions$1"), (7, u "SIOOBE_FORMATTER"), (0, u "Ljava/util/function/BiFunction;"), (0, .class_ 126), (0, u "jdk/internal/util/Preconditions$2"), (3, u "AIOOBE_FORMATTER"), (0, .class_ 132), (0, u "jdk/internal/util/Preconditions$3"), (3, u "IOOBE_FORMATTER"), (41, u "(IILjava/util/function/BiFunction;)I")] 15

def k13m0 : Method := { name := "<init>", desc := "()V", sig := { parameters := [], returnType := none }, accessFlags := 1, code := none }
def k13c1 : Code := { maxStack := 3, maxLocals := 3, code := jdk_41_method_11_code, exceptionTable := #[], attributes := #[] }
def k13m1 : Method := { name := "checkIndex", desc := "(IILjava/util/function/BiFunction;)I", sig := { parameters := [.int, .int, (.object "java/util/function/BiFunction")], returnType := some .int }, accessFlags := 9, code := some k13c1 }
/-- jdk/internal/util/Preconditions -/
def k13 : Class := { plain "jdk/internal/util/Preconditions" (some 0) with
  accessFlags := 33
  interfaces := #[]
  cf := some (fileOf pool13 24 #[.nestMembers #[55, 131, 125, 114]] #[{ accessFlags := 1, nameIndex := 5, descriptorIndex := 6, attributes := #[] }, { accessFlags := 9, nameIndex := 33, descriptorIndex := 178, attributes := #[] }] 33 2 #[] #[{ accessFlags := 25, nameIndex := 123, descriptorIndex := 124, attributes := #[] }, { accessFlags := 25, nameIndex := 130, descriptorIndex := 124, attributes := #[] }, { accessFlags := 25, nameIndex := 136, descriptorIndex := 124, attributes := #[] }])
  fields := #[{ name := "SIOOBE_FORMATTER", type := (.object "java/util/function/BiFunction"), accessFlags := 25, slot := 0, constantValue := 0 }, { name := "AIOOBE_FORMATTER", type := (.object "java/util/function/BiFunction"), accessFlags := 25, slot := 1, constantValue := 0 }, { name := "IOOBE_FORMATTER", type := (.object "java/util/function/BiFunction"), accessFlags := 25, slot := 2, constantValue := 0 }]
  methods := #[k13m0, k13m1]
  instanceTypes := #[]
  staticTypes := #[(.object "java/util/function/BiFunction"), (.object "java/util/function/BiFunction"), (.object "java/util/function/BiFunction")]
  resolved := Array.replicate 194 none
  statics := some 1 }

def pool14 : Array CpInfo := pool [(9, u "<init>"), (6, .class_ 18), (1, u "java/lang/Object"), (0, u "()V"), (1, .class_ 23), (1, u "jdk/internal/util/ArraysSupport"), (0, u "LOG2_ARRAY_LONG_INDEX_SCALE"), (0, u "I"), (2, u "U"), (0, u "Ljdk/internal/misc/Unsafe;"), (8, u "BIG_ENDIAN"), (0, u "Z"), (8, u "LOG2_BYTE_BIT_SIZE"), (4, u "LOG2_ARRAY_INT_INDEX_SCALE"), (54, u "JLA"), (0, u "Ljdk/internal/access/JavaLangAccess;"), (11, u "LOG2_ARRAY_BOOLEAN_INDEX_SCALE"), (9, u "LOG2_ARRAY_BYTE_INDEX_SCALE"), (5, u "LOG2_ARRAY_CHAR_INDEX_SCALE"), (5, u "LOG2_ARRAY_SHORT_INDEX_SCALE"), (18, u "LOG2_ARRAY_FLOAT_INDEX_SCALE"), (24, u "LOG2_ARRAY_DOUBLE_INDEX_SCALE"), (89, u "T_BOOLEAN"), (2, u "T_CHAR"), (1, u "T_FLOAT"), (1, u "T_DOUBLE"), (1, u "T_BYTE"), (1, u "T_SHORT"), (1, u "T_INT"), (1, u "T_LONG"), (1, u "SOFT_MAX_ARRAY_LENGTH")] 83

def k14m0 : Method := { name := "<init>", desc := "()V", sig := { parameters := [], returnType := none }, accessFlags := 2, code := none }
/-- jdk/internal/util/ArraysSupport -/
def k14 : Class := { plain "jdk/internal/util/ArraysSupport" (some 0) with
  accessFlags := 33
  interfaces := #[]
  cf := some (fileOf pool14 21 #[] #[{ accessFlags := 2, nameIndex := 9, descriptorIndex := 19, attributes := #[] }] 33 16 #[] #[{ accessFlags := 24, nameIndex := 28, descriptorIndex := 29, attributes := #[] }, { accessFlags := 26, nameIndex := 38, descriptorIndex := 39, attributes := #[] }, { accessFlags := 25, nameIndex := 121, descriptorIndex := 25, attributes := #[] }, { accessFlags := 25, nameIndex := 131, descriptorIndex := 25, attributes := #[] }, { accessFlags := 25, nameIndex := 137, descriptorIndex := 25, attributes := #[] }, { accessFlags := 25, nameIndex := 143, descriptorIndex := 25, attributes := #[] }, { accessFlags := 25, nameIndex := 53, descriptorIndex := 25, attributes := #[] }, { accessFlags := 25, nameIndex := 24, descriptorIndex := 25, attributes := #[] }, { accessFlags := 25, nameIndex := 162, descriptorIndex := 25, attributes := #[] }, { accessFlags := 25, nameIndex := 187, descriptorIndex := 25, attributes := #[] }, { accessFlags := 26, nameIndex := 48, descriptorIndex := 25, attributes := #[] }, { accessFlags := 25, nameIndex := 277, descriptorIndex := 25, attributes := #[] }, { accessFlags := 25, nameIndex := 280, descriptorIndex := 25, attributes := #[] }, { accessFlags := 25, nameIndex := 282, descriptorIndex := 25, attributes := #[] }, { accessFlags := 25, nameIndex := 284, descriptorIndex := 25, attributes := #[] }, { accessFlags := 25, nameIndex := 286, descriptorIndex := 25, attributes := #[] }, { accessFlags := 25, nameIndex := 288, descriptorIndex := 25, attributes := #[] }, { accessFlags := 25, nameIndex := 290, descriptorIndex := 25, attributes := #[] }, { accessFlags := 25, nameIndex := 292, descriptorIndex := 25, attributes := #[] }, { accessFlags := 26, nameIndex := 108, descriptorIndex := 109, attributes := #[] }, { accessFlags := 25, nameIndex := 294, descriptorIndex := 25, attributes := #[] }])
  fields := #[{ name := "U", type := (.object "jdk/internal/misc/Unsafe"), accessFlags := 24, slot := 0, constantValue := 0 }, { name := "BIG_ENDIAN", type := .boolean, accessFlags := 26, slot := 1, constantValue := 0 }, { name := "LOG2_ARRAY_BOOLEAN_INDEX_SCALE", type := .int, accessFlags := 25, slot := 2, constantValue := 0 }, { name := "LOG2_ARRAY_BYTE_INDEX_SCALE", type := .int, accessFlags := 25, slot := 3, constantValue := 0 }, { name := "LOG2_ARRAY_CHAR_INDEX_SCALE", type := .int, accessFlags := 25, slot := 4, constantValue := 0 }, { name := "LOG2_ARRAY_SHORT_INDEX_SCALE", type := .int, accessFlags := 25, slot := 5, constantValue := 0 }, { name := "LOG2_ARRAY_INT_INDEX_SCALE", type := .int, accessFlags := 25, slot := 6, constantValue := 0 }, { name := "LOG2_ARRAY_LONG_INDEX_SCALE", type := .int, accessFlags := 25, slot := 7, constantValue := 0 }, { name := "LOG2_ARRAY_FLOAT_INDEX_SCALE", type := .int, accessFlags := 25, slot := 8, constantValue := 0 }, { name := "LOG2_ARRAY_DOUBLE_INDEX_SCALE", type := .int, accessFlags := 25, slot := 9, constantValue := 0 }, { name := "LOG2_BYTE_BIT_SIZE", type := .int, accessFlags := 26, slot := 10, constantValue := 0 }, { name := "T_BOOLEAN", type := .int, accessFlags := 25, slot := 11, constantValue := 0 }, { name := "T_CHAR", type := .int, accessFlags := 25, slot := 12, constantValue := 0 }, { name := "T_FLOAT", type := .int, accessFlags := 25, slot := 13, constantValue := 0 }, { name := "T_DOUBLE", type := .int, accessFlags := 25, slot := 14, constantValue := 0 }, { name := "T_BYTE", type := .int, accessFlags := 25, slot := 15, constantValue := 0 }, { name := "T_SHORT", type := .int, accessFlags := 25, slot := 16, constantValue := 0 }, { name := "T_INT", type := .int, accessFlags := 25, slot := 17, constantValue := 0 }, { name := "T_LONG", type := .int, accessFlags := 25, slot := 18, constantValue := 0 }, { name := "JLA", type := (.object "jdk/internal/access/JavaLangAccess"), accessFlags := 26, slot := 19, constantValue := 0 }, { name := "SOFT_MAX_ARRAY_LENGTH", type := .int, accessFlags := 25, slot := 20, constantValue := 0 }]
  methods := #[k14m0]
  instanceTypes := #[]
  staticTypes := #[(.object "jdk/internal/misc/Unsafe"), .boolean, .int, .int, .int, .int, .int, .int, .int, .int, .int, .int, .int, .int, .int, .int, .int, .int, .int, (.object "jdk/internal/access/JavaLangAccess"), .int]
  resolved := Array.replicate 378 none
  statics := none }

def pool15 : Array CpInfo := pool [(1, u "java/lang/Cloneable"), (0, .class_ 1), (0, u "java/lang/Object"), (0, .class_ 3)] 3

/-- java/lang/Cloneable -/
def k15 : Class := { plain "java/lang/Cloneable" (some 0) with
  accessFlags := 1537
  interfaces := #[]
  cf := some (fileOf pool15 2 #[] #[] 1537 4 #[] #[])
  fields := #[]
  methods := #[]
  instanceTypes := #[]
  staticTypes := #[]
  resolved := Array.replicate 8 none
  statics := none }

/-- the primitive byte -/
def k16 : Class := { plain "byte" none with kind := .primitive 'B', accessFlags := 0x411 }
/-- [B -/
def k17 : Class := { plain "[B" (some 0) with kind := .array 16 .byte, interfaces := #[15, 4], accessFlags := 1041 }

/-- the primitive int -/
def k18 : Class := { plain "int" none with kind := .primitive 'I', accessFlags := 0x411 }
/-- [I -/
def k19 : Class := { plain "[I" (some 0) with kind := .array 18 .int, interfaces := #[15, 4], accessFlags := 1041 }

def heap : Heap := #[{ cls := 9, slots := #[.long 0, .int 1, .null, .int 0, .null, .int 0, .int 0], vm := .statics 9 },
  { cls := 13, slots := #[.null, .null, .null], vm := .statics 13 }]
def classes : Array Class := #[k0, k1, k2, k3, k4, k5, k6, k7, k8, k9, k10, k11, k12, k13, k14, k15, k16, k17, k18, k19]
def interned : List (Array UInt16 × Addr) := []
def slotsUsed : Nat := 10
def theMethod : MethodId := ⟨1, 1⟩
def args0 : Array Value := #[.long 5, .long 5, .int 5, .int 5]
def aboutOver (below : List Frame) : State where
  vm := { classes := classes, interned := interned.toArray }
  heap := heap
  slotsUsed := slotsUsed
  threads := #[{ frames := .invoking theMethod args0 :: below }]
def below0 : List Frame := [.native { method := ⟨0, 0⟩, args := #[] }]
def about1 : State := aboutOver below0
def p0 : Program := .bare "" "" ""
def e0 : Env := launch0.env 0 0 0
theorem w_frames : about1.frames = Frame.invoking theMethod args0 :: below0 := rfl
set_option maxRecDepth 65536 in
theorem w_args : argsFit about1.vm theMethod args0 = true := by decide +kernel
set_option maxRecDepth 65536 in
theorem w_heap : heapFits about1 = true := by decide +kernel
set_option maxRecDepth 65536 in
theorem w_runnable : about1.curStatus? = some .runnable := by decide +kernel
set_option maxRecDepth 65536 in
theorem w_alone : about1.alone = true := by decide +kernel
set_option maxRecDepth 65536 in
theorem w_named : about1.methodNamed? x = some theMethod := by decide +kernel
set_option maxRecDepth 65536 in
theorem w_hears : about1.hears theMethod below0 = true := by decide +kernel
set_option maxRecDepth 65536 in
theorem w_ripe : about1.ripe theMethod args0 below0 = true := by decide +kernel
theorem w_running : about1.status = .running := rfl
set_option maxRecDepth 65536 in
theorem w_room : about1.hasRoom e0.platform room_1 = true :=
  launch0.hasRoom_least _ room_1 (by decide +kernel) (by decide +kernel) (by decide +kernel) (by decide +kernel) (by decide +kernel) (by decide +kernel)
theorem allAtoms_all (ts : List Jvm.Cond) (a : Array Jvm.Value) (st : Jvm.State) : (allAtoms ts).before a st = ts.all (fun c => c.before a st) := by
  induction ts with
  | nil => rfl
  | cons c t ih =>
    show (Jvm.Cond.and c (allAtoms t)).before a st = _
    rw [Jvm.Cond.before_and, ih, List.all_cons]
def words1 : List Jvm.Cond := Jvm.Cond.code x code maxLocals ret :: tables_1
/-- a 'code' word, met by the world's own term for the bytes: nothing is compared byte by byte -/
theorem code_word {y : MethodName} {bytes : ByteArray} {mx : Nat} {rt : Option FieldType} {a : Array Value} {s : State} {m : MethodId} {meth : Method} {c : Code} (h1 : s.methodNamed? y = some m) (h2 : s.vm.method? m = some meth) (h3 : meth.code = some c) (h4 : c.code = bytes)
    (h5 : (c.maxLocals == mx && c.exceptionTable.isEmpty && decide (c.maxStack ≤ mostOperands) && decide (meth.sig.returnType = rt) && !meth.locks && decide (parseMethodDescriptor y.desc = some meth.sig)) = true) : (Jvm.Cond.code y bytes mx rt).before a s = true := by
  simp only [Bool.and_eq_true, beq_iff_eq, Bool.not_eq_true', decide_eq_true_eq] at h5
  obtain ⟨⟨⟨⟨⟨g1, g2⟩, g3⟩, g4⟩, g5⟩, g6⟩ := h5
  simp [Cond.before, Cond.holds, Cond.value, h1, h2, h3, h4, g1, g2, g3, g4, g5, g6]
def isCode : Jvm.Cond → Bool
  | .code _ _ _ _ => true
  | _ => false
theorem all_split {L : List Jvm.Cond} {P : Jvm.Cond → Bool} (h1 : L.all (fun c => isCode c || P c) = true) (h2 : ∀ c ∈ L.filter isCode, P c = true) : L.all P = true := by
  refine List.all_eq_true.mpr fun c hc => ?_
  have h := List.all_eq_true.mp h1 c hc
  rcases Bool.eq_false_or_eq_true (isCode c) with hi | hi
  · exact h2 c (List.mem_filter.mpr ⟨hc, hi⟩)
  · simpa [hi] using h
set_option maxRecDepth 65536 in
theorem w_c0 : (Jvm.Cond.code x code maxLocals ret).before args0 about1 = true := code_word (m := ⟨1, 1⟩) (meth := k1m1) (c := k1c1) (by decide +kernel) rfl rfl rfl (by decide +kernel)
set_option maxRecDepth 65536 in
theorem w_c1 : (Jvm.Cond.code ({ cls := "java/lang/Math", name := "max", desc := "(II)I" } : Jvm.MethodName) jdk_29_method_65_code (2 : Nat) (Option.some Jvm.ClassFile.FieldType.int)).before args0 about1 = true := code_word (m := ⟨2, 1⟩) (meth := k2m1) (c := k2c1) (by decide +kernel) rfl rfl rfl (by decide +kernel)
set_option maxRecDepth 65536 in
theorem w_c2 : (Jvm.Cond.code ({ cls := "com/example/nests/nests/model/Family", name := "<init>", desc := "(Ljava/lang/String;IJ)V" } : Jvm.MethodName) prog_71_method_2_code (5 : Nat) (Option.none : Option Jvm.ClassFile.FieldType)).before args0 about1 = true := code_word (m := ⟨3, 0⟩) (meth := k3m0) (c := k3c0) (by decide +kernel) rfl rfl rfl (by decide +kernel)
set_option maxRecDepth 65536 in
theorem w_c3 : (Jvm.Cond.code ({ cls := "java/lang/Object", name := "<init>", desc := "()V" } : Jvm.MethodName) object_method_1_code (1 : Nat) (Option.none : Option Jvm.ClassFile.FieldType)).before args0 about1 = true := code_word (m := ⟨0, 0⟩) (meth := k0m0) (c := k0c0) (by decide +kernel) rfl rfl rfl (by decide +kernel)
set_option maxRecDepth 65536 in
theorem w_c4 : (Jvm.Cond.code ({ cls := "com/example/nests/nests/model/Cell", name := "checkFamily", desc := "(Ljava/lang/String;)V" } : Jvm.MethodName) prog_68_method_3_code (1 : Nat) (Option.none : Option Jvm.ClassFile.FieldType)).before args0 about1 = true := code_word (m := ⟨10, 0⟩) (meth := k10m0) (c := k10c0) (by decide +kernel) rfl rfl rfl (by decide +kernel)
set_option maxRecDepth 65536 in
theorem w_c5 : (Jvm.Cond.code ({ cls := "com/example/nests/nests/model/Names", name := "check", desc := "(Ljava/lang/String;Ljava/lang/String;)V" } : Jvm.MethodName) prog_76_method_2_code (4 : Nat) (Option.none : Option Jvm.ClassFile.FieldType)).before args0 about1 = true := code_word (m := ⟨11, 1⟩) (meth := k11m1) (c := k11c1) (by decide +kernel) rfl rfl rfl (by decide +kernel)
set_option maxRecDepth 65536 in
theorem w_c6 : (Jvm.Cond.code ({ cls := "java/lang/String", name := "isEmpty", desc := "()Z" } : Jvm.MethodName) jdk_42_method_55_code (1 : Nat) (Option.some Jvm.ClassFile.FieldType.boolean)).before args0 about1 = true := code_word (m := ⟨9, 2⟩) (meth := k9m2) (c := k9c2) (by decide +kernel) rfl rfl rfl (by decide +kernel)
set_option maxRecDepth 65536 in
theorem w_c7 : (Jvm.Cond.code ({ cls := "java/lang/String", name := "length", desc := "()I" } : Jvm.MethodName) jdk_42_method_54_code (1 : Nat) (Option.some Jvm.ClassFile.FieldType.int)).before args0 about1 = true := code_word (m := ⟨9, 1⟩) (meth := k9m1) (c := k9c1) (by decide +kernel) rfl rfl rfl (by decide +kernel)
set_option maxRecDepth 65536 in
theorem w_c8 : (Jvm.Cond.code ({ cls := "java/lang/String", name := "coder", desc := "()B" } : Jvm.MethodName) jdk_42_method_152_code (1 : Nat) (Option.some Jvm.ClassFile.FieldType.byte)).before args0 about1 = true := code_word (m := ⟨9, 4⟩) (meth := k9m4) (c := k9c4) (by decide +kernel) rfl rfl rfl (by decide +kernel)
set_option maxRecDepth 65536 in
theorem w_c9 : (Jvm.Cond.code ({ cls := "java/lang/String", name := "charAt", desc := "(I)C" } : Jvm.MethodName) jdk_42_method_56_code (2 : Nat) (Option.some Jvm.ClassFile.FieldType.char)).before args0 about1 = true := code_word (m := ⟨9, 3⟩) (meth := k9m3) (c := k9c3) (by decide +kernel) rfl rfl rfl (by decide +kernel)
set_option maxRecDepth 65536 in
theorem w_c10 : (Jvm.Cond.code ({ cls := "java/lang/String", name := "isLatin1", desc := "()Z" } : Jvm.MethodName) jdk_42_method_154_code (1 : Nat) (Option.some Jvm.ClassFile.FieldType.boolean)).before args0 about1 = true := code_word (m := ⟨9, 5⟩) (meth := k9m5) (c := k9c5) (by decide +kernel) rfl rfl rfl (by decide +kernel)
set_option maxRecDepth 65536 in
theorem w_c11 : (Jvm.Cond.code ({ cls := "java/lang/StringLatin1", name := "charAt", desc := "([BI)C" } : Jvm.MethodName) jdk_43_method_2_code (2 : Nat) (Option.some Jvm.ClassFile.FieldType.char)).before args0 about1 = true := code_word (m := ⟨12, 1⟩) (meth := k12m1) (c := k12c1) (by decide +kernel) rfl rfl rfl (by decide +kernel)
set_option maxRecDepth 65536 in
theorem w_c12 : (Jvm.Cond.code ({ cls := "java/lang/String", name := "checkIndex", desc := "(II)V" } : Jvm.MethodName) jdk_42_method_155_code (2 : Nat) (Option.none : Option Jvm.ClassFile.FieldType)).before args0 about1 = true := code_word (m := ⟨9, 6⟩) (meth := k9m6) (c := k9c6) (by decide +kernel) rfl rfl rfl (by decide +kernel)
set_option maxRecDepth 65536 in
theorem w_c13 : (Jvm.Cond.code ({ cls := "jdk/internal/util/Preconditions", name := "checkIndex", desc := "(IILjava/util/function/BiFunction;)I" } : Jvm.MethodName) jdk_41_method_11_code (3 : Nat) (Option.some Jvm.ClassFile.FieldType.int)).before args0 about1 = true := code_word (m := ⟨13, 1⟩) (meth := k13m1) (c := k13c1) (by decide +kernel) rfl rfl rfl (by decide +kernel)
set_option maxRecDepth 65536 in
theorem w_c14 : (Jvm.Cond.code ({ cls := "com/example/nests/nests/model/Names", name := "isNameChar", desc := "(C)Z" } : Jvm.MethodName) prog_76_method_3_code (1 : Nat) (Option.some Jvm.ClassFile.FieldType.boolean)).before args0 about1 = true := code_word (m := ⟨11, 2⟩) (meth := k11m2) (c := k11c2) (by decide +kernel) rfl rfl rfl (by decide +kernel)
set_option maxRecDepth 65536 in
theorem w_c15 : (Jvm.Cond.code ({ cls := "com/example/nests/nests/model/Family", name := "oldestKept", desc := "(J)J" } : Jvm.MethodName) prog_71_method_7_code (7 : Nat) (Option.some Jvm.ClassFile.FieldType.long)).before args0 about1 = true := code_word (m := ⟨3, 1⟩) (meth := k3m1) (c := k3c1) (by decide +kernel) rfl rfl rfl (by decide +kernel)
def codes1 : List Jvm.Cond := [Jvm.Cond.code x code maxLocals ret, Jvm.Cond.code ({ cls := "java/lang/Math", name := "max", desc := "(II)I" } : Jvm.MethodName) jdk_29_method_65_code (2 : Nat) (Option.some Jvm.ClassFile.FieldType.int), Jvm.Cond.code ({ cls := "com/example/nests/nests/model/Family", name := "<init>", desc := "(Ljava/lang/String;IJ)V" } : Jvm.MethodName) prog_71_method_2_code (5 : Nat) (Option.none : Option Jvm.ClassFile.FieldType), Jvm.Cond.code ({ cls := "java/lang/Object", name := "<init>", desc := "()V" } : Jvm.MethodName) object_method_1_code (1 : Nat) (Option.none : Option Jvm.ClassFile.FieldType), Jvm.Cond.code ({ cls := "com/example/nests/nests/model/Cell", name := "checkFamily", desc := "(Ljava/lang/String;)V" } : Jvm.MethodName) prog_68_method_3_code (1 : Nat) (Option.none : Option Jvm.ClassFile.FieldType), Jvm.Cond.code ({ cls := "com/example/nests/nests/model/Names", name := "check", desc := "(Ljava/lang/String;Ljava/lang/String;)V" } : Jvm.MethodName) prog_76_method_2_code (4 : Nat) (Option.none : Option Jvm.ClassFile.FieldType), Jvm.Cond.code ({ cls := "java/lang/String", name := "isEmpty", desc := "()Z" } : Jvm.MethodName) jdk_42_method_55_code (1 : Nat) (Option.some Jvm.ClassFile.FieldType.boolean), Jvm.Cond.code ({ cls := "java/lang/String", name := "length", desc := "()I" } : Jvm.MethodName) jdk_42_method_54_code (1 : Nat) (Option.some Jvm.ClassFile.FieldType.int), Jvm.Cond.code ({ cls := "java/lang/String", name := "coder", desc := "()B" } : Jvm.MethodName) jdk_42_method_152_code (1 : Nat) (Option.some Jvm.ClassFile.FieldType.byte), Jvm.Cond.code ({ cls := "java/lang/String", name := "charAt", desc := "(I)C" } : Jvm.MethodName) jdk_42_method_56_code (2 : Nat) (Option.some Jvm.ClassFile.FieldType.char), Jvm.Cond.code ({ cls := "java/lang/String", name := "isLatin1", desc := "()Z" } : Jvm.MethodName) jdk_42_method_154_code (1 : Nat) (Option.some Jvm.ClassFile.FieldType.boolean), Jvm.Cond.code ({ cls := "java/lang/StringLatin1", name := "charAt", desc := "([BI)C" } : Jvm.MethodName) jdk_43_method_2_code (2 : Nat) (Option.some Jvm.ClassFile.FieldType.char), Jvm.Cond.code ({ cls := "java/lang/String", name := "checkIndex", desc := "(II)V" } : Jvm.MethodName) jdk_42_method_155_code (2 : Nat) (Option.none : Option Jvm.ClassFile.FieldType), Jvm.Cond.code ({ cls := "jdk/internal/util/Preconditions", name := "checkIndex", desc := "(IILjava/util/function/BiFunction;)I" } : Jvm.MethodName) jdk_41_method_11_code (3 : Nat) (Option.some Jvm.ClassFile.FieldType.int), Jvm.Cond.code ({ cls := "com/example/nests/nests/model/Names", name := "isNameChar", desc := "(C)Z" } : Jvm.MethodName) prog_76_method_3_code (1 : Nat) (Option.some Jvm.ClassFile.FieldType.boolean), Jvm.Cond.code ({ cls := "com/example/nests/nests/model/Family", name := "oldestKept", desc := "(J)J" } : Jvm.MethodName) prog_71_method_7_code (7 : Nat) (Option.some Jvm.ClassFile.FieldType.long)]
set_option maxRecDepth 65536 in
theorem codes_eq : words1.filter isCode = codes1 := rfl
theorem w_codes : ∀ c ∈ words1.filter isCode, c.before args0 about1 = true := by
  rw [codes_eq]
  intro c hc
  simp only [codes1, List.mem_cons, List.not_mem_nil, or_false] at hc
  rcases hc with rfl | rfl | rfl | rfl | rfl | rfl | rfl | rfl | rfl | rfl | rfl | rfl | rfl | rfl | rfl | rfl
  · exact w_c0
  · exact w_c1
  · exact w_c2
  · exact w_c3
  · exact w_c4
  · exact w_c5
  · exact w_c6
  · exact w_c7
  · exact w_c8
  · exact w_c9
  · exact w_c10
  · exact w_c11
  · exact w_c12
  · exact w_c13
  · exact w_c14
  · exact w_c15
set_option maxRecDepth 65536 in
theorem w_t1 : (words1.take 24).all (fun c => isCode c || c.before args0 about1) = true := by decide +kernel
set_option maxRecDepth 65536 in
theorem w_t2 : ((words1.drop 24).take 24).all (fun c => isCode c || c.before args0 about1) = true := by decide +kernel
set_option maxRecDepth 65536 in
theorem w_t3 : (((words1.drop 24).drop 24).take 24).all (fun c => isCode c || c.before args0 about1) = true := by decide +kernel
set_option maxRecDepth 65536 in
theorem w_t4 : (((words1.drop 24).drop 24).drop 24).all (fun c => isCode c || c.before args0 about1) = true := by decide +kernel
theorem w_tables : (allAtoms (Jvm.Cond.code x code maxLocals ret :: tables_1)).before args0 about1 = true := by
  rw [allAtoms_all]
  show words1.all (fun c => c.before args0 about1) = true
  refine all_split ?_ w_codes
  rw [← List.take_append_drop 24 words1, List.all_append, w_t1, ← List.take_append_drop 24 (words1.drop 24), List.all_append, w_t2, ← List.take_append_drop 24 ((words1.drop 24).drop 24), List.all_append, w_t3, w_t4]
  rfl
set_option maxRecDepth 65536 in
theorem w_rest : rest_1_c.before args0 about1 = true := by decide +kernel
set_option maxRecDepth 65536 in
theorem w_case : (Jvm.Cond.and given_1 narrow_1).before args0 about1 = true := by decide +kernel
set_option maxRecDepth 65536 in
theorem w_consts : constsHeld consts_1 about1 := Jvm.Lit.constsHeldB_iff.mp (by decide +kernel)
theorem w_applies : (headSpec (Jvm.Cond.code x code maxLocals ret :: tables_1) room_1).applies x e0.platform about1 = true :=
  (Spec.applies_iff w_frames).mpr ⟨w_running, w_runnable, w_alone, w_named, w_hears, w_ripe, w_room, w_tables⟩
theorem atStart : AtStart classFile x code maxLocals ret World_1 tables_1 room_1 Calls_1 rest_1 Pre_1 launch0 p0 e0 about1 theMethod args0 below0 :=
  ⟨lists_1, trivial, launch0.admits_env _ _ _, launch0.least_env, fairChoices_fair.cas, fairChoices_fair.clock, w_frames, w_args, w_heap, w_applies, ⟨w_consts, trivial⟩, w_rest, w_case⟩
end start1
theorem witness_1 : WitnessClaimed_1 := ⟨start1.p0, start1.e0, start1.about1, start1.theMethod, start1.args0, start1.below0, start1.atStart⟩
end Jvm.Pilot.@@N@@
