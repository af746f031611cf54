import JvmDerived
import JvmDerived.Pilot.@@N@@Statement
import JvmDerived.Pilot.@@N@@Code
set_option linter.unusedVariables false
set_option linter.unusedSimpArgs false
namespace Jvm.RoadKit
open Sem ClassFile Op Lib Jvm.Stand Jvm.Free Jvm.LawKit
section New
variable {p : Program} {l : Launch} {e : Env} {R : Room} {s : State} {m : MethodId} {args : Array Value} {below : List Frame} {meth : Method} {c : Code} {T : State} {locs : List Loc} {cells slots : Nat}
theorem retI (X : Stand p l e R s m args below meth c T locs cells slots) (hx : p.tables.exec = Jvm.exec) {pc : Nat} {Ls : Array Slot} {z : Int32} {rest : List Value} (hret : meth.sig.returnType = some .int) (hd : decode c.code pc = .ok (.ireturn, 1)) {fs : List Frame}
    (hl : ∀ (f : JFrame) (acts : List Action), f.method = m → f.locked = none → f.entered = [] → (doReturn e (T.setTop f) acts (some (.int z))).1 = T.setFrames fs) : Steps p.tables e below (T.setTop (mkF m pc Ls (.int z :: rest))) (T.setFrames fs) := by
  have hm' : T.vm.method? m = some meth := X.method'
  have hn : narrow .int (.int z) = .int z := rfl
  show Steps p.tables e below (T.setTop { method := m, pc := pc, locals := Ls, stack := _ :: rest, locked := none }) _
  jvm_step X.here [X.here.top, hx, hd, hm', hret, hn]
  first | (intro acts; rw [hl _ acts rfl rfl rfl]) | rw [hl _ _ rfl rfl rfl]
  exact Steps.refl _
end New
end Jvm.RoadKit
namespace Jvm.Pilot.@@N@@
open Jvm Jvm.ClassFile Sem Op Lib Jvm.Free Jvm.Stand Jvm.LawKit Jvm.RoadKit Bundle Jvm.Pilot.@@N@@.Jvm.D
section OwnGo
variable {p : Program} {l : Launch} {e : Env} {R : Room} {s : State} {m : MethodId} {args : Array Value} {below : List Frame} {meth : Method} {c : Code} {T : State} {locs : List Loc} {cells slots : Nat}
/-- what a body owes from the state A on: the run comes to an end of the invocation with Q, within C cells and S slots -/
def own_Go (p : Program) (e : Env) (below : List Frame) (s : State) (Q : Option Value → Heap → List Loc → Prop) (C S : Nat) (A : State) : Prop :=
  ∃ s₂ o, Steps p.tables e below A s₂ ∧ s₂.status = .running ∧ Ended s₂ below o ∧ ∃ v L, o = .returned v ∧ Q v s₂.heap L ∧ FrameEnd s o s₂ L C S
variable {Q : Option Value → Heap → List Loc → Prop} {C S : Nat} {A B : State}
theorem own_step (h : ∀ t, Steps p.tables e below B t → Steps p.tables e below A t) (k : own_Go p e below s Q C S B) : own_Go p e below s Q C S A := by
  obtain ⟨s₂, o, h1, h2⟩ := k; exact ⟨s₂, o, h _ h1, h2⟩
theorem own_via (h : Steps p.tables e below A B) (k : own_Go p e below s Q C S B) : own_Go p e below s Q C S A := own_step (fun _ q => h.trans q) k
theorem own_retN (X : Stand p l e R s m args below meth c T locs cells slots) (hx : p.tables.exec = Jvm.exec) (hlocks : meth.locks = false) {pc : Nat} {Ls : Array Slot} {z : Int32} {t : FieldType} {rest : List Value} (hret : meth.sig.returnType = some t) (ht : t = .boolean ∨ t = .byte ∨ t = .char ∨ t = .short)
    (hd : decode c.code pc = .ok (.ireturn, 1)) (hq : Q (some (.int (nar t z))) T.heap locs) (hC : cells ≤ C) (hS : slots ≤ S) : own_Go p e below s Q C S (T.setTop (mkF m pc Ls (.int z :: rest))) := by
  obtain ⟨fs, hr, hrun, hended, hW, hsame⟩ := X.leave (v := some (.int (nar t z))) (fun h => by rw [hret] at h; cases h) hlocks
  exact ⟨_, _, retN X hx hret ht hd hr, hrun, hended, _, _, rfl, hq, ⟨_, rfl⟩, hW, hsame.mono hC hS⟩
theorem own_retI (X : Stand p l e R s m args below meth c T locs cells slots) (hx : p.tables.exec = Jvm.exec) (hlocks : meth.locks = false) {pc : Nat} {Ls : Array Slot} {z : Int32} {rest : List Value} (hret : meth.sig.returnType = some .int)
    (hd : decode c.code pc = .ok (.ireturn, 1)) (hq : Q (some (.int z)) T.heap locs) (hC : cells ≤ C) (hS : slots ≤ S) : own_Go p e below s Q C S (T.setTop (mkF m pc Ls (.int z :: rest))) := by
  obtain ⟨fs, hr, hrun, hended, hW, hsame⟩ := X.leave (v := some (.int z)) (fun h => by rw [hret] at h; cases h) hlocks
  exact ⟨_, _, retI X hx hret hd hr, hrun, hended, _, _, rfl, hq, ⟨_, rfl⟩, hW, hsame.mono hC hS⟩
theorem own_retJ (X : Stand p l e R s m args below meth c T locs cells slots) (hx : p.tables.exec = Jvm.exec) (hlocks : meth.locks = false) {pc : Nat} {Ls : Array Slot} {z : Int64} {rest : List Value} (hret : meth.sig.returnType = some .long)
    (hd : decode c.code pc = .ok (.lreturn, 1)) (hq : Q (some (.long z)) T.heap locs) (hC : cells ≤ C) (hS : slots ≤ S) : own_Go p e below s Q C S (T.setTop (mkF m pc Ls (.long z :: rest))) := by
  obtain ⟨fs, hr, hrun, hended, hW, hsame⟩ := X.leave (v := some (.long z)) (fun h => by rw [hret] at h; cases h) hlocks
  refine ⟨_, _, ?_, hrun, hended, _, _, rfl, hq, ⟨_, rfl⟩, hW, hsame.mono hC hS⟩
  have hm' : T.vm.method? m = some meth := X.method'
  show Steps p.tables e below (T.setTop { method := m, pc := pc, locals := Ls, stack := _ :: rest, locked := none }) _
  jvm_step X.here [X.here.top, hx, hd, hm', hret, narrow]
  first | (intro acts; rw [hr _ acts rfl rfl rfl]) | rw [hr _ _ rfl rfl rfl]
  exact Steps.refl _
theorem own_retV (X : Stand p l e R s m args below meth c T locs cells slots) (hx : p.tables.exec = Jvm.exec) (hlocks : meth.locks = false) {pc : Nat} {Ls : Array Slot} (hret : meth.sig.returnType = none)
    (hd : decode c.code pc = .ok (.return_, 1)) (hq : Q none T.heap locs) (hC : cells ≤ C) (hS : slots ≤ S) : own_Go p e below s Q C S (T.setTop (mkF m pc Ls [])) := by
  obtain ⟨fs, hr, hrun, hended, hW, hsame⟩ := X.leave (v := none) (fun _ => rfl) hlocks
  exact ⟨_, _, X.returnOut hx hret hd hr, hrun, hended, _, _, rfl, hq, ⟨_, rfl⟩, hW, hsame.mono hC hS⟩
theorem own_retR (X : Stand p l e R s m args below meth c T locs cells slots) (hx : p.tables.exec = Jvm.exec) (hlocks : meth.locks = false) {pc : Nat} {Ls : Array Slot} {v : Value} {t : FieldType} {rest : List Value} (hret : meth.sig.returnType = some t) (hv : v.isRef = true) (ht : t.isReference = true)
    (hd : decode c.code pc = .ok (.areturn, 1)) (hq : Q (some v) T.heap locs) (hC : cells ≤ C) (hS : slots ≤ S) : own_Go p e below s Q C S (T.setTop (mkF m pc Ls (v :: rest))) := by
  obtain ⟨fs, hr, hrun, hended, hW, hsame⟩ := X.leave (v := some v) (fun h => by rw [hret] at h; cases h) hlocks
  refine ⟨_, _, ?_, hrun, hended, _, _, rfl, hq, ⟨_, rfl⟩, hW, hsame.mono hC hS⟩
  have hm' : T.vm.method? m = some meth := X.method'
  show Steps p.tables e below (T.setTop { method := m, pc := pc, locals := Ls, stack := _ :: rest, locked := none }) _
  jvm_step X.here [X.here.top, hx, hd, hm', hret, hv, ht]
  first | (intro acts; rw [hr _ acts rfl rfl rfl]) | rw [hr _ _ rfl rfl rfl]
  exact Steps.refl _
theorem own_staKeep {Z : State} {h h' : Heap} {ws : List Addr} {C n d : String} {v : Value} (F : Sta Z h C n d v) (K : Keep h h' ws) (q : ∀ x ∈ ws, ∀ cell : Cell, h[x]? = some cell → cell.vm.isStatics = false) : Sta Z h' C n d v := by
  obtain ⟨cf, i, k, f, st, cell, h1, h2, h3, h4, h5, h6, h7⟩ := F
  exact ⟨cf, i, k, f, st, cell, h1, h2, h3, h4, K.2.1 st cell h5 (fun m => by have := q st m cell h5; rw [h6] at this; cases this), h6, h7⟩
/-- the same under the wide frame (a String constant may have been loaded) -/
def own_GoW (p : Program) (e : Env) (below : List Frame) (s : State) (Q : Option Value → Heap → List Loc → Prop) (C S : Nat) (A : State) : Prop :=
  ∃ s₂ o, Steps p.tables e below A s₂ ∧ s₂.status = .running ∧ Ended s₂ below o ∧ ∃ v L, o = .returned v ∧ Q v s₂.heap L ∧ ReturnedEndW s o s₂ L C S
theorem own_stepW (h : ∀ t, Steps p.tables e below B t → Steps p.tables e below A t) (k : own_GoW p e below s Q C S B) : own_GoW p e below s Q C S A := by
  obtain ⟨s₂, o, h1, h2⟩ := k; exact ⟨s₂, o, h _ h1, h2⟩
theorem own_viaW (h : Steps p.tables e below A B) (k : own_GoW p e below s Q C S B) : own_GoW p e below s Q C S A := own_stepW (fun _ q => h.trans q) k
theorem own_retNW {vm1 : Vm} {n : Nat} (X : Stand p l e R (s.setVm vm1) m args below meth c T locs cells slots) (hS : s.Since vm1 n) (hn : n ≤ T.heap.size) (hx : p.tables.exec = Jvm.exec) (hlocks : meth.locks = false) {pc : Nat} {Ls : Array Slot} {z : Int32} {t : FieldType} {rest : List Value} (hret : meth.sig.returnType = some t) (ht : t = .boolean ∨ t = .byte ∨ t = .char ∨ t = .short)
    (hd : decode c.code pc = .ok (.ireturn, 1)) (hq : Q (some (.int (nar t z))) T.heap locs) (hC : cells ≤ C) (hS' : slots ≤ S) : own_GoW p e below s Q C S (T.setTop (mkF m pc Ls (.int z :: rest))) := by
  obtain ⟨fs, hr, hrun, hended, h1, h2, h3, h4⟩ := X.leaveW hS hn (v := some (.int (nar t z))) (fun h => by rw [hret] at h; cases h) hlocks
  exact ⟨_, _, retN X hx hret ht hd hr, hrun, hended, _, _, rfl, hq, h1, h2, h3, h4.mono hC hS'⟩
theorem own_retVW {vm1 : Vm} {n : Nat} (X : Stand p l e R (s.setVm vm1) m args below meth c T locs cells slots) (hS : s.Since vm1 n) (hn : n ≤ T.heap.size) (hx : p.tables.exec = Jvm.exec) (hlocks : meth.locks = false) {pc : Nat} {Ls : Array Slot} (hret : meth.sig.returnType = none)
    (hd : decode c.code pc = .ok (.return_, 1)) (hq : Q none T.heap locs) (hC : cells ≤ C) (hS' : slots ≤ S) : own_GoW p e below s Q C S (T.setTop (mkF m pc Ls [])) := by
  obtain ⟨fs, hr, hrun, hended, h1, h2, h3, h4⟩ := X.leaveW hS hn (v := none) (fun _ => rfl) hlocks
  exact ⟨_, _, X.returnOut hx hret hd hr, hrun, hended, _, _, rfl, hq, h1, h2, h3, h4.mono hC hS'⟩
end OwnGo

def own_b (p : Prop) [Decidable p] : Int32 := if p then 1 else 0
theorem own_bt {p : Prop} [Decidable p] (h : p) : own_b p = 1 := if_pos h
theorem own_bf {p : Prop} [Decidable p] (h : ¬ p) : own_b p = 0 := if_neg h
theorem own_bn (p : Prop) [Decidable p] : narrow .boolean (.int (own_b p)) = .int (own_b p) := by unfold own_b; split <;> rfl
theorem own_bfit (p : Prop) [Decidable p] : fits .boolean (.int (own_b p)) = true := by unfold own_b; split <;> rfl
theorem own_iff {p q : Prop} [Decidable p] [Decidable q] (h : p ↔ q) : own_b p = own_b q := by unfold own_b; simp only [h]
theorem d1_0 : decode prog_19_method_1_code 0 = .ok (.aload_n 0, 1) := by decide +kernel
theorem d1_1 : decode prog_19_method_1_code 1 = .ok (.invokespecial 1, 3) := by decide +kernel
theorem d1_4 : decode prog_19_method_1_code 4 = .ok (.aload_n 0, 1) := by decide +kernel
theorem d1_5 : decode prog_19_method_1_code 5 = .ok (.lload_n 1, 1) := by decide +kernel
theorem d1_6 : decode prog_19_method_1_code 6 = .ok (.putfield 7, 3) := by decide +kernel
theorem d1_9 : decode prog_19_method_1_code 9 = .ok (.aload_n 0, 1) := by decide +kernel
theorem d1_10 : decode prog_19_method_1_code 10 = .ok (.iload_n 3, 1) := by decide +kernel
theorem d1_11 : decode prog_19_method_1_code 11 = .ok (.putfield 13, 3) := by decide +kernel
theorem d1_14 : decode prog_19_method_1_code 14 = .ok (.aload_n 0, 1) := by decide +kernel
theorem d1_15 : decode prog_19_method_1_code 15 = .ok (.iload 4, 2) := by decide +kernel
theorem d1_17 : decode prog_19_method_1_code 17 = .ok (.putfield 17, 3) := by decide +kernel
theorem d1_20 : decode prog_19_method_1_code 20 = .ok (.return_, 1) := by decide +kernel
theorem pd_0 : parseMethodDescriptor "()V" = some ⟨[], none⟩ := by decide +kernel
theorem pn_1 : plainName "com/example/lichen/lichen/continuous/Settlement$Outcome" = true := by first | (simp [plainName, overriddenIn]; done) | decide +kernel
theorem ef_1 (m : MethodId) (a1 : Addr) (q2 : Int64) (p3 : Int32) (p4 : Int32) : entryFrame m #[(.ref a1), (.long q2), (.int p3), (.int p4)] 5 = mkF m 0 #[.val (.ref a1), .val (.long q2), .second, .val (.int p3), .val (.int p4)] [] := by first | (simp [entryFrame, mkF, argsToLocals, Value.category]; done) | rfl
def Q1 (Z : State) (a1 : Addr) (q2 : Int64) (p3 : Int32) (p4 : Int32) (u1 : Value) (u2 : Value) (u3 : Value) (h0 : Heap) (n0 : Nat) (v : Option Value) (h : Heap) (L : List Loc) : Prop := v = none ∧ Fr n0 L ∧ Keep h0 h [a1] ∧ Exa Z h a1 "com/example/lichen/lichen/continuous/Settlement$Outcome" ∧ Fld Z h a1 "com/example/lichen/lichen/continuous/Settlement$Outcome" "retryAt" "J" (.long q2) ∧ Fld Z h a1 "com/example/lichen/lichen/continuous/Settlement$Outcome" "refusals" "I" (.int p3) ∧ Fld Z h a1 "com/example/lichen/lichen/continuous/Settlement$Outcome" "sent" "Z" (.int p4)
set_option maxRecDepth 65536 in
set_option maxHeartbeats 40000000 in
theorem rm1 (l : Launch) (Z : State) (a0 : Array Value) (hw : ∀ d ∈ tables_1, d.before a0 Z = true) (ws : List Jvm.Cond) (a1 : Addr) (q2 : Int64) (p3 : Int32) (p4 : Int32) (u1 : Value) (u2 : Value) (u3 : Value) (h0 : Heap) (n0 : Nat) (Z0 : n0 ≤ h0.size) (E_a1 : Exa Z h0 a1 "com/example/lichen/lichen/continuous/Settlement$Outcome") (F1 : Fld Z h0 a1 "com/example/lichen/lichen/continuous/Settlement$Outcome" "retryAt" "J" u1) (F2 : Fld Z h0 a1 "com/example/lichen/lichen/continuous/Settlement$Outcome" "refusals" "I" u2) (F3 : Fld Z h0 a1 "com/example/lichen/lichen/continuous/Settlement$Outcome" "sent" "Z" u3) (g_a1 : n0 ≤ a1) (hn4 : narrow .boolean (.int p4) = .int p4) (hf4 : fits .boolean (.int p4) = true) :
    MetFree l (⟨"com/example/lichen/lichen/continuous/Settlement$Outcome", "<init>", "(JIZ)V"⟩ : MethodName) (head1 (Jvm.Cond.code (⟨"com/example/lichen/lichen/continuous/Settlement$Outcome", "<init>", "(JIZ)V"⟩ : MethodName) prog_19_method_1_code 5 none :: ws) ({ frames := 1, cells := 0, slots := 0, locals := 12 } : Room)) (fun a U => a = #[(.ref a1), (.long q2), (.int p3), (.int p4)] ∧ Z.Warmed39 U.vm ∧ U.heap = h0) (fun _ _ _ _ _ => True) (fun _ U o U' => ∃ v L, o = .returned v ∧ Q1 Z a1 q2 p3 p4 u1 u2 u3 h0 n0 v U'.heap L ∧ FrameEnd U o U' L ({ frames := 1, cells := 0, slots := 0, locals := 12 } : Room).cells ({ frames := 1, cells := 0, slots := 0, locals := 12 } : Room).slots) := by
  refine MetFree.of_bodySF (plainFor_of_name pn_1) hisR ?_
  intro p e s m args below meth c s₁ Bd hml0 hP hK
  obtain ⟨rfl, hZ, hh⟩ := hP
  have hx := Bd.exec
  have hby := Bd.bytes
  have hml : c.maxLocals = 5 := hml0
  have hown : s.vm.findClass "com/example/lichen/lichen/continuous/Settlement$Outcome" = some m.cls := findClass_of_methodNamed Bd.named
  have hnm := (name_of_methodNamed Bd.named Bd.method).1
  have X0 : Stand p l e ({ frames := 1, cells := 0, slots := 0, locals := 12 } : Room) s m #[(.ref a1), (.long q2), (.int p3), (.int p4)] below meth c s₁ [] 0 0 := Stand.of_body Bd
  have e0 : s₁.heap = h0 := by rw [← hh, Bd.state]; rfl
  have N0 := Fr.nil n0
  skip
  show own_Go p e below s (Q1 Z a1 q2 p3 p4 u1 u2 u3 h0 n0) ({ frames := 1, cells := 0, slots := 0, locals := 12 } : Room).cells ({ frames := 1, cells := 0, slots := 0, locals := 12 } : Room).slots _
  refine own_step (B := s₁.setTop (mkF m 0 #[.val (.ref a1), .val (.long q2), .second, .val (.int p3), .val (.int p4)] [])) (fun t k => castTop (ef_1 m a1 q2 p3 p4) k) ?_
  have KK0 : Keep h0 h0 [a1] := Keep.refl h0 _
  refine own_step (B := s₁.setTop (mkF m 1 #[.val (.ref a1), .val (.long q2), .second, .val (.int p3), .val (.int p4)] [(.ref a1)])) (fun t k => ?_) ?_
  · show Steps p.tables e below (s₁.setTop (mkF m 0 #[.val (.ref a1), .val (.long q2), .second, .val (.int p3), .val (.int p4)] [])) _
    refine XS.aloadN X0.here hx rfl (hb hby d1_0) rfl rfl ?_
    exact k
  obtain ⟨T1, X1, e1, st1⟩ := initO X0 hx hZ hown (hw _ (List.mem_of_getElem? (i := 6) rfl)) (hw _ (List.mem_of_getElem? (i := 7) rfl)) (hw _ (List.mem_of_getElem? (i := 8) rfl)) e0 (g := (mkF m 1 #[.val (.ref a1), .val (.long q2), .second, .val (.int p3), .val (.int p4)] [(.ref a1)])) rfl (by rw [hml]; rfl) rfl (hb hby d1_1) (by decide) (W := 0) (by show 2 * 0 + _ ≤ _; exact Nat.le_of_eq rfl) (by decide)
  refine own_step st1 ?_
  show own_Go p e below s _ _ _ (T1.setTop (mkF m 4 #[.val (.ref a1), .val (.long q2), .second, .val (.int p3), .val (.int p4)] []))
  refine own_step (B := T1.setTop (mkF m 6 #[.val (.ref a1), .val (.long q2), .second, .val (.int p3), .val (.int p4)] [(.long q2), (.ref a1)])) (fun t k => ?_) ?_
  · show Steps p.tables e below (T1.setTop (mkF m 4 #[.val (.ref a1), .val (.long q2), .second, .val (.int p3), .val (.int p4)] [])) _
    refine XS.aloadN X1.here hx rfl (hb hby d1_4) rfl rfl ?_
    show Steps p.tables e below (T1.setTop (mkF m 5 #[.val (.ref a1), .val (.long q2), .second, .val (.int p3), .val (.int p4)] [(.ref a1)])) _
    refine XS.lloadN X1.here hx rfl (hb hby d1_5) rfl ?_
    exact k
  obtain ⟨T2, h2, X2, e2, W2, st2⟩ := putF X1 hx hZ hown (host := "") (Or.inl (hw _ (List.mem_of_getElem? (i := 9) rfl))) Via.refl e1 F1 E_a1 (Or.inr ⟨(hw _ (List.mem_of_getElem? (i := 10) rfl)), rfl, hnm⟩) (hw _ (List.mem_of_getElem? (i := 1) rfl)) (ty := .long) (by decide) rfl rfl (g := (mkF m 6 #[.val (.ref a1), .val (.long q2), .second, .val (.int p3), .val (.int p4)] [(.long q2), (.ref a1)])) rfl rfl (hb hby d1_6)
  have Fw2 := F1.same W2
  have K2 : Keep h0 h2 [a1] := KK0.wr W2 (Or.inl (by simp))
  have N2 := Fr.snoc X2 N0 g_a1
  refine own_step st2 ?_
  show own_Go p e below s _ _ _ (T2.setTop (mkF m 9 #[.val (.ref a1), .val (.long q2), .second, .val (.int p3), .val (.int p4)] []))
  refine own_step (B := T2.setTop (mkF m 11 #[.val (.ref a1), .val (.long q2), .second, .val (.int p3), .val (.int p4)] [(.int p3), (.ref a1)])) (fun t k => ?_) ?_
  · show Steps p.tables e below (T2.setTop (mkF m 9 #[.val (.ref a1), .val (.long q2), .second, .val (.int p3), .val (.int p4)] [])) _
    refine XS.aloadN X2.here hx rfl (hb hby d1_9) rfl rfl ?_
    show Steps p.tables e below (T2.setTop (mkF m 10 #[.val (.ref a1), .val (.long q2), .second, .val (.int p3), .val (.int p4)] [(.ref a1)])) _
    refine XS.iloadN X2.here hx rfl (hb hby d1_10) rfl ?_
    exact k
  obtain ⟨T3, h3, X3, e3, W3, st3⟩ := putF X2 hx hZ hown (host := "") (Or.inl (hw _ (List.mem_of_getElem? (i := 11) rfl))) Via.refl e2 (F2.other W2 (Or.inr (slot_ne (Or.inr (hw _ (List.mem_of_getElem? (i := 12) rfl))) (Or.inr (hw _ (List.mem_of_getElem? (i := 10) rfl))) (by decide) (t := .int) (t' := .long) (by decide) (by decide)))) (E_a1.wr W2) (Or.inr ⟨(hw _ (List.mem_of_getElem? (i := 12) rfl)), rfl, hnm⟩) (hw _ (List.mem_of_getElem? (i := 1) rfl)) (ty := .int) (by decide) rfl rfl (g := (mkF m 11 #[.val (.ref a1), .val (.long q2), .second, .val (.int p3), .val (.int p4)] [(.int p3), (.ref a1)])) rfl rfl (hb hby d1_11)
  have Fw3 := (F2.other W2 (Or.inr (slot_ne (Or.inr (hw _ (List.mem_of_getElem? (i := 12) rfl))) (Or.inr (hw _ (List.mem_of_getElem? (i := 10) rfl))) (by decide) (t := .int) (t' := .long) (by decide) (by decide)))).same W3
  have K3 : Keep h0 h3 [a1] := K2.wr W3 (Or.inl (by simp))
  have N3 := Fr.snoc X3 N2 g_a1
  refine own_step st3 ?_
  show own_Go p e below s _ _ _ (T3.setTop (mkF m 14 #[.val (.ref a1), .val (.long q2), .second, .val (.int p3), .val (.int p4)] []))
  refine own_step (B := T3.setTop (mkF m 17 #[.val (.ref a1), .val (.long q2), .second, .val (.int p3), .val (.int p4)] [(.int p4), (.ref a1)])) (fun t k => ?_) ?_
  · show Steps p.tables e below (T3.setTop (mkF m 14 #[.val (.ref a1), .val (.long q2), .second, .val (.int p3), .val (.int p4)] [])) _
    refine XS.aloadN X3.here hx rfl (hb hby d1_14) rfl rfl ?_
    show Steps p.tables e below (T3.setTop (mkF m 15 #[.val (.ref a1), .val (.long q2), .second, .val (.int p3), .val (.int p4)] [(.ref a1)])) _
    refine XS.iload X3.here hx rfl (hb hby d1_15) rfl ?_
    exact k
  obtain ⟨T4, h4, X4, e4, W4, st4⟩ := putFN X3 hx hZ hown (hw _ (List.mem_of_getElem? (i := 13) rfl)) Via.refl e3 ((F3.other W2 (Or.inr (slot_ne (Or.inr (hw _ (List.mem_of_getElem? (i := 14) rfl))) (Or.inr (hw _ (List.mem_of_getElem? (i := 10) rfl))) (by decide) (t := .boolean) (t' := .long) (by decide) (by decide)))).other W3 (Or.inr (slot_ne (Or.inr (hw _ (List.mem_of_getElem? (i := 14) rfl))) (Or.inr (hw _ (List.mem_of_getElem? (i := 12) rfl))) (by decide) (t := .boolean) (t' := .int) (by decide) (by decide)))) ((E_a1.wr W2).wr W3) (Or.inr ⟨(hw _ (List.mem_of_getElem? (i := 14) rfl)), rfl, hnm⟩) (hw _ (List.mem_of_getElem? (i := 1) rfl)) (ty := .boolean) (v' := (.int p4)) (by decide) hn4 hf4 (g := (mkF m 17 #[.val (.ref a1), .val (.long q2), .second, .val (.int p3), .val (.int p4)] [(.int p4), (.ref a1)])) rfl rfl (hb hby d1_17)
  have Fw4 := ((F3.other W2 (Or.inr (slot_ne (Or.inr (hw _ (List.mem_of_getElem? (i := 14) rfl))) (Or.inr (hw _ (List.mem_of_getElem? (i := 10) rfl))) (by decide) (t := .boolean) (t' := .long) (by decide) (by decide)))).other W3 (Or.inr (slot_ne (Or.inr (hw _ (List.mem_of_getElem? (i := 14) rfl))) (Or.inr (hw _ (List.mem_of_getElem? (i := 12) rfl))) (by decide) (t := .boolean) (t' := .int) (by decide) (by decide)))).same W4
  have K4 : Keep h0 h4 [a1] := K3.wr W4 (Or.inl (by simp))
  have N4 := Fr.snoc X4 N3 g_a1
  refine own_step st4 ?_
  show own_Go p e below s _ _ _ (T4.setTop (mkF m 20 #[.val (.ref a1), .val (.long q2), .second, .val (.int p3), .val (.int p4)] []))
  exact own_retV X4 hx Bd.notSynchronized Bd.returns (hb hby d1_20) ⟨rfl, N4, by rw [e4]; exact K4, by rw [e4]; exact (((E_a1.wr W2).wr W3).wr W4), by rw [e4]; exact ((Fw2.other W3 (Or.inr (slot_ne (Or.inr (hw _ (List.mem_of_getElem? (i := 10) rfl))) (Or.inr (hw _ (List.mem_of_getElem? (i := 12) rfl))) (by decide) (t := .long) (t' := .int) (by decide) (by decide)))).other W4 (Or.inr (slot_ne (Or.inr (hw _ (List.mem_of_getElem? (i := 10) rfl))) (Or.inr (hw _ (List.mem_of_getElem? (i := 14) rfl))) (by decide) (t := .long) (t' := .boolean) (by decide) (by decide)))), by rw [e4]; exact (Fw3.other W4 (Or.inr (slot_ne (Or.inr (hw _ (List.mem_of_getElem? (i := 12) rfl))) (Or.inr (hw _ (List.mem_of_getElem? (i := 14) rfl))) (by decide) (t := .int) (t' := .boolean) (by decide) (by decide)))), by rw [e4]; exact Fw4⟩ (by decide) (by decide)
theorem d3_0 : decode prog_19_method_6_code 0 = .ok (.aload_n 0, 1) := by decide +kernel
theorem d3_1 : decode prog_19_method_6_code 1 = .ok (.getfield 7, 3) := by decide +kernel
theorem d3_4 : decode prog_19_method_6_code 4 = .ok (.aload_n 1, 1) := by decide +kernel
theorem d3_5 : decode prog_19_method_6_code 5 = .ok (.getfield 7, 3) := by decide +kernel
theorem d3_8 : decode prog_19_method_6_code 8 = .ok (.lcmp, 1) := by decide +kernel
theorem d3_9 : decode prog_19_method_6_code 9 = .ok (.ifCond .ne 29, 3) := by decide +kernel
theorem d3_12 : decode prog_19_method_6_code 12 = .ok (.aload_n 0, 1) := by decide +kernel
theorem d3_13 : decode prog_19_method_6_code 13 = .ok (.getfield 13, 3) := by decide +kernel
theorem d3_16 : decode prog_19_method_6_code 16 = .ok (.aload_n 1, 1) := by decide +kernel
theorem d3_17 : decode prog_19_method_6_code 17 = .ok (.getfield 13, 3) := by decide +kernel
theorem d3_20 : decode prog_19_method_6_code 20 = .ok (.if_icmp .ne 18, 3) := by decide +kernel
theorem d3_23 : decode prog_19_method_6_code 23 = .ok (.aload_n 0, 1) := by decide +kernel
theorem d3_24 : decode prog_19_method_6_code 24 = .ok (.getfield 17, 3) := by decide +kernel
theorem d3_27 : decode prog_19_method_6_code 27 = .ok (.aload_n 1, 1) := by decide +kernel
theorem d3_28 : decode prog_19_method_6_code 28 = .ok (.getfield 17, 3) := by decide +kernel
theorem d3_31 : decode prog_19_method_6_code 31 = .ok (.if_icmp .ne 7, 3) := by decide +kernel
theorem d3_34 : decode prog_19_method_6_code 34 = .ok (.iconst 1, 1) := by decide +kernel
theorem d3_35 : decode prog_19_method_6_code 35 = .ok (.goto 4, 3) := by decide +kernel
theorem d3_38 : decode prog_19_method_6_code 38 = .ok (.iconst 0, 1) := by decide +kernel
theorem d3_39 : decode prog_19_method_6_code 39 = .ok (.ireturn, 1) := by decide +kernel
theorem ef_3 (m : MethodId) (a1 : Addr) (a2 : Addr) : entryFrame m #[(.ref a1), (.ref a2)] 2 = mkF m 0 #[.val (.ref a1), .val (.ref a2)] [] := by first | (simp [entryFrame, mkF, argsToLocals, Value.category]; done) | rfl
def Q3 (Z : State) (a1 : Addr) (a2 : Addr) (q3 : Int64) (p4 : Int32) (p5 : Int32) (q6 : Int64) (p7 : Int32) (p8 : Int32) (h0 : Heap) (n0 : Nat) (v : Option Value) (h : Heap) (L : List Loc) : Prop := v = some (.int (own_b (q3 = q6 ∧ p4 = p7 ∧ p5 = p8))) ∧ Fr n0 L ∧ h = h0
set_option maxRecDepth 65536 in
set_option maxHeartbeats 40000000 in
theorem rm3 (l : Launch) (Z : State) (a0 : Array Value) (hw : ∀ d ∈ tables_1, d.before a0 Z = true) (ws : List Jvm.Cond) (a1 : Addr) (a2 : Addr) (q3 : Int64) (p4 : Int32) (p5 : Int32) (q6 : Int64) (p7 : Int32) (p8 : Int32) (h0 : Heap) (n0 : Nat) (Z0 : n0 ≤ h0.size) (Fa1_0 : Fld Z h0 a1 "com/example/lichen/lichen/continuous/Settlement$Outcome" "retryAt" "J" (.long q3)) (Fa1_1 : Fld Z h0 a1 "com/example/lichen/lichen/continuous/Settlement$Outcome" "refusals" "I" (.int p4)) (Fa1_2 : Fld Z h0 a1 "com/example/lichen/lichen/continuous/Settlement$Outcome" "sent" "Z" (.int p5)) (Fa2_0 : Fld Z h0 a2 "com/example/lichen/lichen/continuous/Settlement$Outcome" "retryAt" "J" (.long q6)) (Fa2_1 : Fld Z h0 a2 "com/example/lichen/lichen/continuous/Settlement$Outcome" "refusals" "I" (.int p7)) (Fa2_2 : Fld Z h0 a2 "com/example/lichen/lichen/continuous/Settlement$Outcome" "sent" "Z" (.int p8)) :
    MetFree l (⟨"com/example/lichen/lichen/continuous/Settlement$Outcome", "leavesAs", "(Lcom/example/lichen/lichen/continuous/Settlement$Outcome;)Z"⟩ : MethodName) (head1 (Jvm.Cond.code (⟨"com/example/lichen/lichen/continuous/Settlement$Outcome", "leavesAs", "(Lcom/example/lichen/lichen/continuous/Settlement$Outcome;)Z"⟩ : MethodName) prog_19_method_6_code 2 (some .boolean) :: ws) ({ frames := 0, cells := 0, slots := 0, locals := 0 } : Room)) (fun a U => a = #[(.ref a1), (.ref a2)] ∧ Z.Warmed39 U.vm ∧ U.heap = h0) (fun _ _ _ _ _ => True) (fun _ U o U' => ∃ v L, o = .returned v ∧ Q3 Z a1 a2 q3 p4 p5 q6 p7 p8 h0 n0 v U'.heap L ∧ FrameEnd U o U' L ({ frames := 0, cells := 0, slots := 0, locals := 0 } : Room).cells ({ frames := 0, cells := 0, slots := 0, locals := 0 } : Room).slots) := by
  refine MetFree.of_bodySF (plainFor_of_name pn_1) hisR ?_
  intro p e s m args below meth c s₁ Bd hml0 hP hK
  obtain ⟨rfl, hZ, hh⟩ := hP
  have hx := Bd.exec
  have hby := Bd.bytes
  have hml : c.maxLocals = 2 := hml0
  have hown : s.vm.findClass "com/example/lichen/lichen/continuous/Settlement$Outcome" = some m.cls := findClass_of_methodNamed Bd.named
  have hnm := (name_of_methodNamed Bd.named Bd.method).1
  have X0 : Stand p l e ({ frames := 0, cells := 0, slots := 0, locals := 0 } : Room) s m #[(.ref a1), (.ref a2)] below meth c s₁ [] 0 0 := Stand.of_body Bd
  have e0 : s₁.heap = h0 := by rw [← hh, Bd.state]; rfl
  have N0 := Fr.nil n0
  skip
  show own_Go p e below s (Q3 Z a1 a2 q3 p4 p5 q6 p7 p8 h0 n0) ({ frames := 0, cells := 0, slots := 0, locals := 0 } : Room).cells ({ frames := 0, cells := 0, slots := 0, locals := 0 } : Room).slots _
  refine own_step (B := s₁.setTop (mkF m 0 #[.val (.ref a1), .val (.ref a2)] [])) (fun t k => castTop (ef_3 m a1 a2) k) ?_
  refine own_step (B := s₁.setTop (mkF m 1 #[.val (.ref a1), .val (.ref a2)] [(.ref a1)])) (fun t k => ?_) ?_
  · show Steps p.tables e below (s₁.setTop (mkF m 0 #[.val (.ref a1), .val (.ref a2)] [])) _
    refine XS.aloadN X0.here hx rfl (hb hby d3_0) rfl rfl ?_
    exact k
  obtain ⟨T1, X1, e1, st1⟩ := getF X0 hx hZ hown (host := "") (Or.inl (hw _ (List.mem_of_getElem? (i := 9) rfl))) Via.refl e0 Fa1_0 (g := (mkF m 1 #[.val (.ref a1), .val (.ref a2)] [(.ref a1)])) rfl rfl (hb hby d3_1)
  refine own_step st1 ?_
  show own_Go p e below s _ _ _ (T1.setTop (mkF m 4 #[.val (.ref a1), .val (.ref a2)] [(.long q3)]))
  refine own_step (B := T1.setTop (mkF m 5 #[.val (.ref a1), .val (.ref a2)] [(.ref a2), (.long q3)])) (fun t k => ?_) ?_
  · show Steps p.tables e below (T1.setTop (mkF m 4 #[.val (.ref a1), .val (.ref a2)] [(.long q3)])) _
    refine XS.aloadN X1.here hx rfl (hb hby d3_4) rfl rfl ?_
    exact k
  obtain ⟨T2, X2, e2, st2⟩ := getF X1 hx hZ hown (host := "") (Or.inl (hw _ (List.mem_of_getElem? (i := 9) rfl))) Via.refl e1 Fa2_0 (g := (mkF m 5 #[.val (.ref a1), .val (.ref a2)] [(.ref a2), (.long q3)])) rfl rfl (hb hby d3_5)
  refine own_step st2 ?_
  show own_Go p e below s _ _ _ (T2.setTop (mkF m 8 #[.val (.ref a1), .val (.ref a2)] [(.long q6), (.long q3)]))
  refine own_step (B := T2.setTop (mkF m 9 #[.val (.ref a1), .val (.ref a2)] [(.int (lcmpW q3 q6))])) (fun t k => ?_) ?_
  · show Steps p.tables e below (T2.setTop (mkF m 8 #[.val (.ref a1), .val (.ref a2)] [(.long q6), (.long q3)])) _
    refine XS.lcmp X2.here hx rfl (hb hby d3_8) rfl ?_
    exact k
  by_cases hc9 : q3 = q6
  · refine own_step (B := T2.setTop (mkF m 13 #[.val (.ref a1), .val (.ref a2)] [(.ref a1)])) (fun t k => ?_) ?_
    · show Steps p.tables e below (T2.setTop (mkF m 9 #[.val (.ref a1), .val (.ref a2)] [(.int (lcmpW q3 q6))])) _
      refine XS.ifNo X2.here hx rfl (hb hby d3_9) rfl ((if0 _ _).trans (teq ((lw_eq _ _).mpr hc9)).2) ?_
      show Steps p.tables e below (T2.setTop (mkF m 12 #[.val (.ref a1), .val (.ref a2)] [])) _
      refine XS.aloadN X2.here hx rfl (hb hby d3_12) rfl rfl ?_
      exact k
    obtain ⟨T3, X3, e3, st3⟩ := getF X2 hx hZ hown (host := "") (Or.inl (hw _ (List.mem_of_getElem? (i := 11) rfl))) Via.refl e2 Fa1_1 (g := (mkF m 13 #[.val (.ref a1), .val (.ref a2)] [(.ref a1)])) rfl rfl (hb hby d3_13)
    refine own_step st3 ?_
    show own_Go p e below s _ _ _ (T3.setTop (mkF m 16 #[.val (.ref a1), .val (.ref a2)] [(.int p4)]))
    refine own_step (B := T3.setTop (mkF m 17 #[.val (.ref a1), .val (.ref a2)] [(.ref a2), (.int p4)])) (fun t k => ?_) ?_
    · show Steps p.tables e below (T3.setTop (mkF m 16 #[.val (.ref a1), .val (.ref a2)] [(.int p4)])) _
      refine XS.aloadN X3.here hx rfl (hb hby d3_16) rfl rfl ?_
      exact k
    obtain ⟨T4, X4, e4, st4⟩ := getF X3 hx hZ hown (host := "") (Or.inl (hw _ (List.mem_of_getElem? (i := 11) rfl))) Via.refl e3 Fa2_1 (g := (mkF m 17 #[.val (.ref a1), .val (.ref a2)] [(.ref a2), (.int p4)])) rfl rfl (hb hby d3_17)
    refine own_step st4 ?_
    show own_Go p e below s _ _ _ (T4.setTop (mkF m 20 #[.val (.ref a1), .val (.ref a2)] [(.int p7), (.int p4)]))
    by_cases hc20 : p4 = p7
    · refine own_step (B := T4.setTop (mkF m 24 #[.val (.ref a1), .val (.ref a2)] [(.ref a1)])) (fun t k => ?_) ?_
      · show Steps p.tables e below (T4.setTop (mkF m 20 #[.val (.ref a1), .val (.ref a2)] [(.int p7), (.int p4)])) _
        refine XS.icmpNo X4.here hx rfl (hb hby d3_20) rfl (teq hc20).2 ?_
        show Steps p.tables e below (T4.setTop (mkF m 23 #[.val (.ref a1), .val (.ref a2)] [])) _
        refine XS.aloadN X4.here hx rfl (hb hby d3_23) rfl rfl ?_
        exact k
      obtain ⟨T5, X5, e5, st5⟩ := getF X4 hx hZ hown (host := "") (Or.inl (hw _ (List.mem_of_getElem? (i := 13) rfl))) Via.refl e4 Fa1_2 (g := (mkF m 24 #[.val (.ref a1), .val (.ref a2)] [(.ref a1)])) rfl rfl (hb hby d3_24)
      refine own_step st5 ?_
      show own_Go p e below s _ _ _ (T5.setTop (mkF m 27 #[.val (.ref a1), .val (.ref a2)] [(.int p5)]))
      refine own_step (B := T5.setTop (mkF m 28 #[.val (.ref a1), .val (.ref a2)] [(.ref a2), (.int p5)])) (fun t k => ?_) ?_
      · show Steps p.tables e below (T5.setTop (mkF m 27 #[.val (.ref a1), .val (.ref a2)] [(.int p5)])) _
        refine XS.aloadN X5.here hx rfl (hb hby d3_27) rfl rfl ?_
        exact k
      obtain ⟨T6, X6, e6, st6⟩ := getF X5 hx hZ hown (host := "") (Or.inl (hw _ (List.mem_of_getElem? (i := 13) rfl))) Via.refl e5 Fa2_2 (g := (mkF m 28 #[.val (.ref a1), .val (.ref a2)] [(.ref a2), (.int p5)])) rfl rfl (hb hby d3_28)
      refine own_step st6 ?_
      show own_Go p e below s _ _ _ (T6.setTop (mkF m 31 #[.val (.ref a1), .val (.ref a2)] [(.int p8), (.int p5)]))
      by_cases hc31 : p5 = p8
      · refine own_step (B := T6.setTop (mkF m 39 #[.val (.ref a1), .val (.ref a2)] [(.int (1 : Int32))])) (fun t k => ?_) ?_
        · show Steps p.tables e below (T6.setTop (mkF m 31 #[.val (.ref a1), .val (.ref a2)] [(.int p8), (.int p5)])) _
          refine XS.icmpNo X6.here hx rfl (hb hby d3_31) rfl (teq hc31).2 ?_
          show Steps p.tables e below (T6.setTop (mkF m 34 #[.val (.ref a1), .val (.ref a2)] [])) _
          refine XS.iconst X6.here hx rfl (hb hby d3_34) ?_
          show Steps p.tables e below (T6.setTop (mkF m 35 #[.val (.ref a1), .val (.ref a2)] [(.int (1 : Int32))])) _
          refine XS.goto X6.here hx rfl (pc0 := 35) (pc' := 39) rfl (hb hby d3_35) (by decide) (by decide) ?_
          exact k
        exact own_retN X6 hx Bd.notSynchronized (t := .boolean) Bd.returns (by simp) (hb hby d3_39) ⟨by show some (Value.int ((1 : Int32))) = _; simp [own_b, hc9, hc20, hc31], N0, e6⟩ (by decide) (by decide)
      · refine own_step (B := T6.setTop (mkF m 39 #[.val (.ref a1), .val (.ref a2)] [(.int (0 : Int32))])) (fun t k => ?_) ?_
        · show Steps p.tables e below (T6.setTop (mkF m 31 #[.val (.ref a1), .val (.ref a2)] [(.int p8), (.int p5)])) _
          refine XS.icmpYes X6.here hx rfl (pc0 := 31) (pc' := 38) rfl (hb hby d3_31) rfl (feq hc31).2 (by decide) (by decide) ?_
          show Steps p.tables e below (T6.setTop (mkF m 38 #[.val (.ref a1), .val (.ref a2)] [])) _
          refine XS.iconst X6.here hx rfl (hb hby d3_38) ?_
          exact k
        exact own_retN X6 hx Bd.notSynchronized (t := .boolean) Bd.returns (by simp) (hb hby d3_39) ⟨by show some (Value.int ((0 : Int32))) = _; simp [own_b, hc9, hc20, hc31], N0, e6⟩ (by decide) (by decide)
    · refine own_step (B := T4.setTop (mkF m 39 #[.val (.ref a1), .val (.ref a2)] [(.int (0 : Int32))])) (fun t k => ?_) ?_
      · show Steps p.tables e below (T4.setTop (mkF m 20 #[.val (.ref a1), .val (.ref a2)] [(.int p7), (.int p4)])) _
        refine XS.icmpYes X4.here hx rfl (pc0 := 20) (pc' := 38) rfl (hb hby d3_20) rfl (feq hc20).2 (by decide) (by decide) ?_
        show Steps p.tables e below (T4.setTop (mkF m 38 #[.val (.ref a1), .val (.ref a2)] [])) _
        refine XS.iconst X4.here hx rfl (hb hby d3_38) ?_
        exact k
      exact own_retN X4 hx Bd.notSynchronized (t := .boolean) Bd.returns (by simp) (hb hby d3_39) ⟨by show some (Value.int ((0 : Int32))) = _; simp [own_b, hc9, hc20], N0, e4⟩ (by decide) (by decide)
  · refine own_step (B := T2.setTop (mkF m 39 #[.val (.ref a1), .val (.ref a2)] [(.int (0 : Int32))])) (fun t k => ?_) ?_
    · show Steps p.tables e below (T2.setTop (mkF m 9 #[.val (.ref a1), .val (.ref a2)] [(.int (lcmpW q3 q6))])) _
      refine XS.ifYes X2.here hx rfl (pc0 := 9) (pc' := 38) rfl (hb hby d3_9) rfl ((if0 _ _).trans (feq (fun q => hc9 ((lw_eq _ _).mp q))).2) (by decide) (by decide) ?_
      show Steps p.tables e below (T2.setTop (mkF m 38 #[.val (.ref a1), .val (.ref a2)] [])) _
      refine XS.iconst X2.here hx rfl (hb hby d3_38) ?_
      exact k
    exact own_retN X2 hx Bd.notSynchronized (t := .boolean) Bd.returns (by simp) (hb hby d3_39) ⟨by show some (Value.int ((0 : Int32))) = _; simp [own_b, hc9], N0, e2⟩ (by decide) (by decide)
theorem pd_2 : parseMethodDescriptor "(JIZ)V" = some ⟨[.long, .int, .boolean], none⟩ := by decide +kernel
theorem pd_3 : parseMethodDescriptor "(Lcom/example/lichen/lichen/continuous/Settlement$Outcome;)Z" = some ⟨[(.object "com/example/lichen/lichen/continuous/Settlement$Outcome")], some .boolean⟩ := by decide +kernel
theorem pn_4 : plainName "com/example/lichen/lichen/continuous/OutcomeLeavesAsPinLaw" = true := by first | (simp [plainName, overriddenIn]; done) | decide +kernel
theorem ef_0 (m : MethodId) (r1 : Int64) (r2raw : Int64) (f1 : Int32) (f2raw : Int32) (fl : Int32) : entryFrame m #[(.long r1), (.long r2raw), (.int f1), (.int f2raw), (.int fl)] maxLocals = mkF m 0 #[.val (.long r1), .second, .val (.long r2raw), .second, .val (.int f1), .val (.int f2raw), .val (.int fl), .unset, .unset, .unset, .unset, .unset, .unset, .unset, .unset] [] := by first | (simp [entryFrame, mkF, argsToLocals, Value.category, maxLocals]; done) | rfl
def Q0 (Z : State) (r1 : Int64) (r2raw : Int64) (f1 : Int32) (f2raw : Int32) (fl : Int32)  (h0 : Heap) (n0 : Nat) (v : Option Value) (h : Heap) (L : List Loc) : Prop := v = some (.int (1 : Int32)) ∧ Fr n0 L
set_option maxRecDepth 65536 in
set_option maxHeartbeats 40000000 in
theorem rm0 (l : Launch) (Z : State) (a0 : Array Value) (hw : ∀ d ∈ tables_1, d.before a0 Z = true) (ws : List Jvm.Cond) (r1 : Int64) (r2raw : Int64) (f1 : Int32) (f2raw : Int32) (fl : Int32)  (h0 : Heap) (n0 : Nat) (Z0 : n0 ≤ h0.size) :
    MetFree l x (head1 (Jvm.Cond.code x code maxLocals ret :: ws) room_1) (fun a U => a = #[(.long r1), (.long r2raw), (.int f1), (.int f2raw), (.int fl)] ∧ Z.Warmed39 U.vm ∧ U.heap = h0) (fun _ _ _ _ _ => True) (fun _ U o U' => ∃ v L, o = .returned v ∧ Q0 Z r1 r2raw f1 f2raw fl  h0 n0 v U'.heap L ∧ FrameEnd U o U' L room_1.cells room_1.slots) := by
  refine MetFree.of_bodySF (plainFor_of_name pn_4) hisR ?_
  intro p e s m args below meth c s₁ Bd hml0 hP hK
  obtain ⟨rfl, hZ, hh⟩ := hP
  have hx := Bd.exec
  have hby := Bd.bytes
  have hml : c.maxLocals = 15 := hml0
  have hown : s.vm.findClass "com/example/lichen/lichen/continuous/OutcomeLeavesAsPinLaw" = some m.cls := findClass_of_methodNamed Bd.named
  have hnm := (name_of_methodNamed Bd.named Bd.method).1
  have X0 : Stand p l e room_1 s m #[(.long r1), (.long r2raw), (.int f1), (.int f2raw), (.int fl)] below meth c s₁ [] 0 0 := Stand.of_body Bd
  have e0 : s₁.heap = h0 := by rw [← hh, Bd.state]; rfl
  have N0 := Fr.nil n0
  skip
  show own_Go p e below s (Q0 Z r1 r2raw f1 f2raw fl  h0 n0) room_1.cells room_1.slots _
  refine own_step (B := s₁.setTop (mkF m 0 #[.val (.long r1), .second, .val (.long r2raw), .second, .val (.int f1), .val (.int f2raw), .val (.int fl), .unset, .unset, .unset, .unset, .unset, .unset, .unset, .unset] [])) (fun t k => castTop (ef_0 m r1 r2raw f1 f2raw fl) k) ?_
  refine own_step (B := s₁.setTop (mkF m 12 #[.val (.long r1), .second, .val (.long r2raw), .second, .val (.int f1), .val (.int f2raw), .val (.int fl), .unset, .unset, .unset, .unset, .unset, .unset, .unset, .unset] [(.long (if (fl &&& (1 : Int32)) = (0 : Int32) then r2raw else r1))])) (fun t k => ?_) ?_
  · show Steps p.tables e below (s₁.setTop (mkF m 0 #[.val (.long r1), .second, .val (.long r2raw), .second, .val (.int f1), .val (.int f2raw), .val (.int fl), .unset, .unset, .unset, .unset, .unset, .unset, .unset, .unset] [])) _
    refine XS.iload X0.here hx rfl (hb hby at_0) rfl ?_
    show Steps p.tables e below (s₁.setTop (mkF m 2 #[.val (.long r1), .second, .val (.long r2raw), .second, .val (.int f1), .val (.int f2raw), .val (.int fl), .unset, .unset, .unset, .unset, .unset, .unset, .unset, .unset] [(.int fl)])) _
    refine XS.iconst X0.here hx rfl (hb hby at_2) ?_
    show Steps p.tables e below (s₁.setTop (mkF m 3 #[.val (.long r1), .second, .val (.long r2raw), .second, .val (.int f1), .val (.int f2raw), .val (.int fl), .unset, .unset, .unset, .unset, .unset, .unset, .unset, .unset] [(.int (1 : Int32)), (.int fl)])) _
    refine XS.iand X0.here hx rfl (hb hby at_3) rfl ?_
    by_cases hc4 : (fl &&& (1 : Int32)) = (0 : Int32)
    · show Steps p.tables e below (s₁.setTop (mkF m 4 #[.val (.long r1), .second, .val (.long r2raw), .second, .val (.int f1), .val (.int f2raw), .val (.int fl), .unset, .unset, .unset, .unset, .unset, .unset, .unset, .unset] [(.int (fl &&& (1 : Int32)))])) _
      refine XS.ifYes X0.here hx rfl (pc0 := 4) (pc' := 11) rfl (hb hby at_4) rfl ((if0 _ _).trans (teq hc4).1) (by decide) (by decide) ?_
      show Steps p.tables e below (s₁.setTop (mkF m 11 #[.val (.long r1), .second, .val (.long r2raw), .second, .val (.int f1), .val (.int f2raw), .val (.int fl), .unset, .unset, .unset, .unset, .unset, .unset, .unset, .unset] [])) _
      refine XS.lloadN X0.here hx rfl (hb hby at_11) rfl ?_
      show Steps p.tables e below (s₁.setTop (mkF m 12 #[.val (.long r1), .second, .val (.long r2raw), .second, .val (.int f1), .val (.int f2raw), .val (.int fl), .unset, .unset, .unset, .unset, .unset, .unset, .unset, .unset] [(.long r2raw)])) _
      have q1 : (if (fl &&& (1 : Int32)) = (0 : Int32) then r2raw else r1) = r2raw := by simp [hc4]
      rw [q1] at k
      exact k
    · show Steps p.tables e below (s₁.setTop (mkF m 4 #[.val (.long r1), .second, .val (.long r2raw), .second, .val (.int f1), .val (.int f2raw), .val (.int fl), .unset, .unset, .unset, .unset, .unset, .unset, .unset, .unset] [(.int (fl &&& (1 : Int32)))])) _
      refine XS.ifNo X0.here hx rfl (hb hby at_4) rfl ((if0 _ _).trans (feq hc4).1) ?_
      show Steps p.tables e below (s₁.setTop (mkF m 7 #[.val (.long r1), .second, .val (.long r2raw), .second, .val (.int f1), .val (.int f2raw), .val (.int fl), .unset, .unset, .unset, .unset, .unset, .unset, .unset, .unset] [])) _
      refine XS.lloadN X0.here hx rfl (hb hby at_7) rfl ?_
      show Steps p.tables e below (s₁.setTop (mkF m 8 #[.val (.long r1), .second, .val (.long r2raw), .second, .val (.int f1), .val (.int f2raw), .val (.int fl), .unset, .unset, .unset, .unset, .unset, .unset, .unset, .unset] [(.long r1)])) _
      refine XS.goto X0.here hx rfl (pc0 := 8) (pc' := 12) rfl (hb hby at_8) (by decide) (by decide) ?_
      show Steps p.tables e below (s₁.setTop (mkF m 12 #[.val (.long r1), .second, .val (.long r2raw), .second, .val (.int f1), .val (.int f2raw), .val (.int fl), .unset, .unset, .unset, .unset, .unset, .unset, .unset, .unset] [(.long r1)])) _
      have q2 : (if (fl &&& (1 : Int32)) = (0 : Int32) then r2raw else r1) = r1 := by simp [hc4]
      rw [q2] at k
      exact k
  refine own_step (B := s₁.setTop (mkF m 14 #[.val (.long r1), .second, .val (.long r2raw), .second, .val (.int f1), .val (.int f2raw), .val (.int fl), .val (.long (if (fl &&& (1 : Int32)) = (0 : Int32) then r2raw else r1)), .second, .unset, .unset, .unset, .unset, .unset, .unset] [])) (fun t k => ?_) ?_
  · show Steps p.tables e below (s₁.setTop (mkF m 12 #[.val (.long r1), .second, .val (.long r2raw), .second, .val (.int f1), .val (.int f2raw), .val (.int fl), .unset, .unset, .unset, .unset, .unset, .unset, .unset, .unset] [(.long (if (fl &&& (1 : Int32)) = (0 : Int32) then r2raw else r1))])) _
    refine XS.lstore X0.here hx rfl (hb hby at_12) rfl (l' := #[.val (.long r1), .second, .val (.long r2raw), .second, .val (.int f1), .val (.int f2raw), .val (.int fl), .val (.long (if (fl &&& (1 : Int32)) = (0 : Int32) then r2raw else r1)), .second, .unset, .unset, .unset, .unset, .unset, .unset]) rfl ?_
    exact k
  refine own_step (B := s₁.setTop (mkF m 28 #[.val (.long r1), .second, .val (.long r2raw), .second, .val (.int f1), .val (.int f2raw), .val (.int fl), .val (.long (if (fl &&& (1 : Int32)) = (0 : Int32) then r2raw else r1)), .second, .unset, .unset, .unset, .unset, .unset, .unset] [(.int (if (fl &&& (2 : Int32)) = (0 : Int32) then f2raw else f1))])) (fun t k => ?_) ?_
  · show Steps p.tables e below (s₁.setTop (mkF m 14 #[.val (.long r1), .second, .val (.long r2raw), .second, .val (.int f1), .val (.int f2raw), .val (.int fl), .val (.long (if (fl &&& (1 : Int32)) = (0 : Int32) then r2raw else r1)), .second, .unset, .unset, .unset, .unset, .unset, .unset] [])) _
    refine XS.iload X0.here hx rfl (hb hby at_14) rfl ?_
    show Steps p.tables e below (s₁.setTop (mkF m 16 #[.val (.long r1), .second, .val (.long r2raw), .second, .val (.int f1), .val (.int f2raw), .val (.int fl), .val (.long (if (fl &&& (1 : Int32)) = (0 : Int32) then r2raw else r1)), .second, .unset, .unset, .unset, .unset, .unset, .unset] [(.int fl)])) _
    refine XS.iconst X0.here hx rfl (hb hby at_16) ?_
    show Steps p.tables e below (s₁.setTop (mkF m 17 #[.val (.long r1), .second, .val (.long r2raw), .second, .val (.int f1), .val (.int f2raw), .val (.int fl), .val (.long (if (fl &&& (1 : Int32)) = (0 : Int32) then r2raw else r1)), .second, .unset, .unset, .unset, .unset, .unset, .unset] [(.int (2 : Int32)), (.int fl)])) _
    refine XS.iand X0.here hx rfl (hb hby at_17) rfl ?_
    by_cases hc18 : (fl &&& (2 : Int32)) = (0 : Int32)
    · show Steps p.tables e below (s₁.setTop (mkF m 18 #[.val (.long r1), .second, .val (.long r2raw), .second, .val (.int f1), .val (.int f2raw), .val (.int fl), .val (.long (if (fl &&& (1 : Int32)) = (0 : Int32) then r2raw else r1)), .second, .unset, .unset, .unset, .unset, .unset, .unset] [(.int (fl &&& (2 : Int32)))])) _
      refine XS.ifYes X0.here hx rfl (pc0 := 18) (pc' := 26) rfl (hb hby at_18) rfl ((if0 _ _).trans (teq hc18).1) (by decide) (by decide) ?_
      show Steps p.tables e below (s₁.setTop (mkF m 26 #[.val (.long r1), .second, .val (.long r2raw), .second, .val (.int f1), .val (.int f2raw), .val (.int fl), .val (.long (if (fl &&& (1 : Int32)) = (0 : Int32) then r2raw else r1)), .second, .unset, .unset, .unset, .unset, .unset, .unset] [])) _
      refine XS.iload X0.here hx rfl (hb hby at_26) rfl ?_
      show Steps p.tables e below (s₁.setTop (mkF m 28 #[.val (.long r1), .second, .val (.long r2raw), .second, .val (.int f1), .val (.int f2raw), .val (.int fl), .val (.long (if (fl &&& (1 : Int32)) = (0 : Int32) then r2raw else r1)), .second, .unset, .unset, .unset, .unset, .unset, .unset] [(.int f2raw)])) _
      have q3 : (if (fl &&& (2 : Int32)) = (0 : Int32) then f2raw else f1) = f2raw := by simp [hc18]
      rw [q3] at k
      exact k
    · show Steps p.tables e below (s₁.setTop (mkF m 18 #[.val (.long r1), .second, .val (.long r2raw), .second, .val (.int f1), .val (.int f2raw), .val (.int fl), .val (.long (if (fl &&& (1 : Int32)) = (0 : Int32) then r2raw else r1)), .second, .unset, .unset, .unset, .unset, .unset, .unset] [(.int (fl &&& (2 : Int32)))])) _
      refine XS.ifNo X0.here hx rfl (hb hby at_18) rfl ((if0 _ _).trans (feq hc18).1) ?_
      show Steps p.tables e below (s₁.setTop (mkF m 21 #[.val (.long r1), .second, .val (.long r2raw), .second, .val (.int f1), .val (.int f2raw), .val (.int fl), .val (.long (if (fl &&& (1 : Int32)) = (0 : Int32) then r2raw else r1)), .second, .unset, .unset, .unset, .unset, .unset, .unset] [])) _
      refine XS.iload X0.here hx rfl (hb hby at_21) rfl ?_
      show Steps p.tables e below (s₁.setTop (mkF m 23 #[.val (.long r1), .second, .val (.long r2raw), .second, .val (.int f1), .val (.int f2raw), .val (.int fl), .val (.long (if (fl &&& (1 : Int32)) = (0 : Int32) then r2raw else r1)), .second, .unset, .unset, .unset, .unset, .unset, .unset] [(.int f1)])) _
      refine XS.goto X0.here hx rfl (pc0 := 23) (pc' := 28) rfl (hb hby at_23) (by decide) (by decide) ?_
      show Steps p.tables e below (s₁.setTop (mkF m 28 #[.val (.long r1), .second, .val (.long r2raw), .second, .val (.int f1), .val (.int f2raw), .val (.int fl), .val (.long (if (fl &&& (1 : Int32)) = (0 : Int32) then r2raw else r1)), .second, .unset, .unset, .unset, .unset, .unset, .unset] [(.int f1)])) _
      have q4 : (if (fl &&& (2 : Int32)) = (0 : Int32) then f2raw else f1) = f1 := by simp [hc18]
      rw [q4] at k
      exact k
  refine own_step (B := s₁.setTop (mkF m 30 #[.val (.long r1), .second, .val (.long r2raw), .second, .val (.int f1), .val (.int f2raw), .val (.int fl), .val (.long (if (fl &&& (1 : Int32)) = (0 : Int32) then r2raw else r1)), .second, .val (.int (if (fl &&& (2 : Int32)) = (0 : Int32) then f2raw else f1)), .unset, .unset, .unset, .unset, .unset] [])) (fun t k => ?_) ?_
  · show Steps p.tables e below (s₁.setTop (mkF m 28 #[.val (.long r1), .second, .val (.long r2raw), .second, .val (.int f1), .val (.int f2raw), .val (.int fl), .val (.long (if (fl &&& (1 : Int32)) = (0 : Int32) then r2raw else r1)), .second, .unset, .unset, .unset, .unset, .unset, .unset] [(.int (if (fl &&& (2 : Int32)) = (0 : Int32) then f2raw else f1))])) _
    refine XS.istore X0.here hx rfl (hb hby at_28) rfl (l' := #[.val (.long r1), .second, .val (.long r2raw), .second, .val (.int f1), .val (.int f2raw), .val (.int fl), .val (.long (if (fl &&& (1 : Int32)) = (0 : Int32) then r2raw else r1)), .second, .val (.int (if (fl &&& (2 : Int32)) = (0 : Int32) then f2raw else f1)), .unset, .unset, .unset, .unset, .unset]) rfl ?_
    exact k
  refine own_step (B := s₁.setTop (mkF m 42 #[.val (.long r1), .second, .val (.long r2raw), .second, .val (.int f1), .val (.int f2raw), .val (.int fl), .val (.long (if (fl &&& (1 : Int32)) = (0 : Int32) then r2raw else r1)), .second, .val (.int (if (fl &&& (2 : Int32)) = (0 : Int32) then f2raw else f1)), .unset, .unset, .unset, .unset, .unset] [(.int (own_b (¬ (fl &&& (4 : Int32)) = (0 : Int32))))])) (fun t k => ?_) ?_
  · show Steps p.tables e below (s₁.setTop (mkF m 30 #[.val (.long r1), .second, .val (.long r2raw), .second, .val (.int f1), .val (.int f2raw), .val (.int fl), .val (.long (if (fl &&& (1 : Int32)) = (0 : Int32) then r2raw else r1)), .second, .val (.int (if (fl &&& (2 : Int32)) = (0 : Int32) then f2raw else f1)), .unset, .unset, .unset, .unset, .unset] [])) _
    refine XS.iload X0.here hx rfl (hb hby at_30) rfl ?_
    show Steps p.tables e below (s₁.setTop (mkF m 32 #[.val (.long r1), .second, .val (.long r2raw), .second, .val (.int f1), .val (.int f2raw), .val (.int fl), .val (.long (if (fl &&& (1 : Int32)) = (0 : Int32) then r2raw else r1)), .second, .val (.int (if (fl &&& (2 : Int32)) = (0 : Int32) then f2raw else f1)), .unset, .unset, .unset, .unset, .unset] [(.int fl)])) _
    refine XS.iconst X0.here hx rfl (hb hby at_32) ?_
    show Steps p.tables e below (s₁.setTop (mkF m 33 #[.val (.long r1), .second, .val (.long r2raw), .second, .val (.int f1), .val (.int f2raw), .val (.int fl), .val (.long (if (fl &&& (1 : Int32)) = (0 : Int32) then r2raw else r1)), .second, .val (.int (if (fl &&& (2 : Int32)) = (0 : Int32) then f2raw else f1)), .unset, .unset, .unset, .unset, .unset] [(.int (4 : Int32)), (.int fl)])) _
    refine XS.iand X0.here hx rfl (hb hby at_33) rfl ?_
    by_cases hc34 : (fl &&& (4 : Int32)) = (0 : Int32)
    · show Steps p.tables e below (s₁.setTop (mkF m 34 #[.val (.long r1), .second, .val (.long r2raw), .second, .val (.int f1), .val (.int f2raw), .val (.int fl), .val (.long (if (fl &&& (1 : Int32)) = (0 : Int32) then r2raw else r1)), .second, .val (.int (if (fl &&& (2 : Int32)) = (0 : Int32) then f2raw else f1)), .unset, .unset, .unset, .unset, .unset] [(.int (fl &&& (4 : Int32)))])) _
      refine XS.ifYes X0.here hx rfl (pc0 := 34) (pc' := 41) rfl (hb hby at_34) rfl ((if0 _ _).trans (teq hc34).1) (by decide) (by decide) ?_
      show Steps p.tables e below (s₁.setTop (mkF m 41 #[.val (.long r1), .second, .val (.long r2raw), .second, .val (.int f1), .val (.int f2raw), .val (.int fl), .val (.long (if (fl &&& (1 : Int32)) = (0 : Int32) then r2raw else r1)), .second, .val (.int (if (fl &&& (2 : Int32)) = (0 : Int32) then f2raw else f1)), .unset, .unset, .unset, .unset, .unset] [])) _
      refine XS.iconst X0.here hx rfl (hb hby at_41) ?_
      show Steps p.tables e below (s₁.setTop (mkF m 42 #[.val (.long r1), .second, .val (.long r2raw), .second, .val (.int f1), .val (.int f2raw), .val (.int fl), .val (.long (if (fl &&& (1 : Int32)) = (0 : Int32) then r2raw else r1)), .second, .val (.int (if (fl &&& (2 : Int32)) = (0 : Int32) then f2raw else f1)), .unset, .unset, .unset, .unset, .unset] [(.int (0 : Int32))])) _
      have q5 : (own_b (¬ (fl &&& (4 : Int32)) = (0 : Int32))) = (0 : Int32) := by simp [own_b, hc34]
      rw [q5] at k
      exact k
    · show Steps p.tables e below (s₁.setTop (mkF m 34 #[.val (.long r1), .second, .val (.long r2raw), .second, .val (.int f1), .val (.int f2raw), .val (.int fl), .val (.long (if (fl &&& (1 : Int32)) = (0 : Int32) then r2raw else r1)), .second, .val (.int (if (fl &&& (2 : Int32)) = (0 : Int32) then f2raw else f1)), .unset, .unset, .unset, .unset, .unset] [(.int (fl &&& (4 : Int32)))])) _
      refine XS.ifNo X0.here hx rfl (hb hby at_34) rfl ((if0 _ _).trans (feq hc34).1) ?_
      show Steps p.tables e below (s₁.setTop (mkF m 37 #[.val (.long r1), .second, .val (.long r2raw), .second, .val (.int f1), .val (.int f2raw), .val (.int fl), .val (.long (if (fl &&& (1 : Int32)) = (0 : Int32) then r2raw else r1)), .second, .val (.int (if (fl &&& (2 : Int32)) = (0 : Int32) then f2raw else f1)), .unset, .unset, .unset, .unset, .unset] [])) _
      refine XS.iconst X0.here hx rfl (hb hby at_37) ?_
      show Steps p.tables e below (s₁.setTop (mkF m 38 #[.val (.long r1), .second, .val (.long r2raw), .second, .val (.int f1), .val (.int f2raw), .val (.int fl), .val (.long (if (fl &&& (1 : Int32)) = (0 : Int32) then r2raw else r1)), .second, .val (.int (if (fl &&& (2 : Int32)) = (0 : Int32) then f2raw else f1)), .unset, .unset, .unset, .unset, .unset] [(.int (1 : Int32))])) _
      refine XS.goto X0.here hx rfl (pc0 := 38) (pc' := 42) rfl (hb hby at_38) (by decide) (by decide) ?_
      show Steps p.tables e below (s₁.setTop (mkF m 42 #[.val (.long r1), .second, .val (.long r2raw), .second, .val (.int f1), .val (.int f2raw), .val (.int fl), .val (.long (if (fl &&& (1 : Int32)) = (0 : Int32) then r2raw else r1)), .second, .val (.int (if (fl &&& (2 : Int32)) = (0 : Int32) then f2raw else f1)), .unset, .unset, .unset, .unset, .unset] [(.int (1 : Int32))])) _
      have q6 : (own_b (¬ (fl &&& (4 : Int32)) = (0 : Int32))) = (1 : Int32) := by simp [own_b, hc34]
      rw [q6] at k
      exact k
  refine own_step (B := s₁.setTop (mkF m 44 #[.val (.long r1), .second, .val (.long r2raw), .second, .val (.int f1), .val (.int f2raw), .val (.int fl), .val (.long (if (fl &&& (1 : Int32)) = (0 : Int32) then r2raw else r1)), .second, .val (.int (if (fl &&& (2 : Int32)) = (0 : Int32) then f2raw else f1)), .val (.int (own_b (¬ (fl &&& (4 : Int32)) = (0 : Int32)))), .unset, .unset, .unset, .unset] [])) (fun t k => ?_) ?_
  · show Steps p.tables e below (s₁.setTop (mkF m 42 #[.val (.long r1), .second, .val (.long r2raw), .second, .val (.int f1), .val (.int f2raw), .val (.int fl), .val (.long (if (fl &&& (1 : Int32)) = (0 : Int32) then r2raw else r1)), .second, .val (.int (if (fl &&& (2 : Int32)) = (0 : Int32) then f2raw else f1)), .unset, .unset, .unset, .unset, .unset] [(.int (own_b (¬ (fl &&& (4 : Int32)) = (0 : Int32))))])) _
    refine XS.istore X0.here hx rfl (hb hby at_42) rfl (l' := #[.val (.long r1), .second, .val (.long r2raw), .second, .val (.int f1), .val (.int f2raw), .val (.int fl), .val (.long (if (fl &&& (1 : Int32)) = (0 : Int32) then r2raw else r1)), .second, .val (.int (if (fl &&& (2 : Int32)) = (0 : Int32) then f2raw else f1)), .val (.int (own_b (¬ (fl &&& (4 : Int32)) = (0 : Int32)))), .unset, .unset, .unset, .unset]) rfl ?_
    exact k
  refine own_step (B := s₁.setTop (mkF m 57 #[.val (.long r1), .second, .val (.long r2raw), .second, .val (.int f1), .val (.int f2raw), .val (.int fl), .val (.long (if (fl &&& (1 : Int32)) = (0 : Int32) then r2raw else r1)), .second, .val (.int (if (fl &&& (2 : Int32)) = (0 : Int32) then f2raw else f1)), .val (.int (own_b (¬ (fl &&& (4 : Int32)) = (0 : Int32)))), .unset, .unset, .unset, .unset] [(.int (own_b (¬ (fl &&& (8 : Int32)) = (0 : Int32))))])) (fun t k => ?_) ?_
  · show Steps p.tables e below (s₁.setTop (mkF m 44 #[.val (.long r1), .second, .val (.long r2raw), .second, .val (.int f1), .val (.int f2raw), .val (.int fl), .val (.long (if (fl &&& (1 : Int32)) = (0 : Int32) then r2raw else r1)), .second, .val (.int (if (fl &&& (2 : Int32)) = (0 : Int32) then f2raw else f1)), .val (.int (own_b (¬ (fl &&& (4 : Int32)) = (0 : Int32)))), .unset, .unset, .unset, .unset] [])) _
    refine XS.iload X0.here hx rfl (hb hby at_44) rfl ?_
    show Steps p.tables e below (s₁.setTop (mkF m 46 #[.val (.long r1), .second, .val (.long r2raw), .second, .val (.int f1), .val (.int f2raw), .val (.int fl), .val (.long (if (fl &&& (1 : Int32)) = (0 : Int32) then r2raw else r1)), .second, .val (.int (if (fl &&& (2 : Int32)) = (0 : Int32) then f2raw else f1)), .val (.int (own_b (¬ (fl &&& (4 : Int32)) = (0 : Int32)))), .unset, .unset, .unset, .unset] [(.int fl)])) _
    refine XS.bipush X0.here hx rfl (hb hby at_46) ?_
    show Steps p.tables e below (s₁.setTop (mkF m 48 #[.val (.long r1), .second, .val (.long r2raw), .second, .val (.int f1), .val (.int f2raw), .val (.int fl), .val (.long (if (fl &&& (1 : Int32)) = (0 : Int32) then r2raw else r1)), .second, .val (.int (if (fl &&& (2 : Int32)) = (0 : Int32) then f2raw else f1)), .val (.int (own_b (¬ (fl &&& (4 : Int32)) = (0 : Int32)))), .unset, .unset, .unset, .unset] [(.int (8 : Int32)), (.int fl)])) _
    refine XS.iand X0.here hx rfl (hb hby at_48) rfl ?_
    by_cases hc49 : (fl &&& (8 : Int32)) = (0 : Int32)
    · show Steps p.tables e below (s₁.setTop (mkF m 49 #[.val (.long r1), .second, .val (.long r2raw), .second, .val (.int f1), .val (.int f2raw), .val (.int fl), .val (.long (if (fl &&& (1 : Int32)) = (0 : Int32) then r2raw else r1)), .second, .val (.int (if (fl &&& (2 : Int32)) = (0 : Int32) then f2raw else f1)), .val (.int (own_b (¬ (fl &&& (4 : Int32)) = (0 : Int32)))), .unset, .unset, .unset, .unset] [(.int (fl &&& (8 : Int32)))])) _
      refine XS.ifYes X0.here hx rfl (pc0 := 49) (pc' := 56) rfl (hb hby at_49) rfl ((if0 _ _).trans (teq hc49).1) (by decide) (by decide) ?_
      show Steps p.tables e below (s₁.setTop (mkF m 56 #[.val (.long r1), .second, .val (.long r2raw), .second, .val (.int f1), .val (.int f2raw), .val (.int fl), .val (.long (if (fl &&& (1 : Int32)) = (0 : Int32) then r2raw else r1)), .second, .val (.int (if (fl &&& (2 : Int32)) = (0 : Int32) then f2raw else f1)), .val (.int (own_b (¬ (fl &&& (4 : Int32)) = (0 : Int32)))), .unset, .unset, .unset, .unset] [])) _
      refine XS.iconst X0.here hx rfl (hb hby at_56) ?_
      show Steps p.tables e below (s₁.setTop (mkF m 57 #[.val (.long r1), .second, .val (.long r2raw), .second, .val (.int f1), .val (.int f2raw), .val (.int fl), .val (.long (if (fl &&& (1 : Int32)) = (0 : Int32) then r2raw else r1)), .second, .val (.int (if (fl &&& (2 : Int32)) = (0 : Int32) then f2raw else f1)), .val (.int (own_b (¬ (fl &&& (4 : Int32)) = (0 : Int32)))), .unset, .unset, .unset, .unset] [(.int (0 : Int32))])) _
      have q7 : (own_b (¬ (fl &&& (8 : Int32)) = (0 : Int32))) = (0 : Int32) := by simp [own_b, hc49]
      rw [q7] at k
      exact k
    · show Steps p.tables e below (s₁.setTop (mkF m 49 #[.val (.long r1), .second, .val (.long r2raw), .second, .val (.int f1), .val (.int f2raw), .val (.int fl), .val (.long (if (fl &&& (1 : Int32)) = (0 : Int32) then r2raw else r1)), .second, .val (.int (if (fl &&& (2 : Int32)) = (0 : Int32) then f2raw else f1)), .val (.int (own_b (¬ (fl &&& (4 : Int32)) = (0 : Int32)))), .unset, .unset, .unset, .unset] [(.int (fl &&& (8 : Int32)))])) _
      refine XS.ifNo X0.here hx rfl (hb hby at_49) rfl ((if0 _ _).trans (feq hc49).1) ?_
      show Steps p.tables e below (s₁.setTop (mkF m 52 #[.val (.long r1), .second, .val (.long r2raw), .second, .val (.int f1), .val (.int f2raw), .val (.int fl), .val (.long (if (fl &&& (1 : Int32)) = (0 : Int32) then r2raw else r1)), .second, .val (.int (if (fl &&& (2 : Int32)) = (0 : Int32) then f2raw else f1)), .val (.int (own_b (¬ (fl &&& (4 : Int32)) = (0 : Int32)))), .unset, .unset, .unset, .unset] [])) _
      refine XS.iconst X0.here hx rfl (hb hby at_52) ?_
      show Steps p.tables e below (s₁.setTop (mkF m 53 #[.val (.long r1), .second, .val (.long r2raw), .second, .val (.int f1), .val (.int f2raw), .val (.int fl), .val (.long (if (fl &&& (1 : Int32)) = (0 : Int32) then r2raw else r1)), .second, .val (.int (if (fl &&& (2 : Int32)) = (0 : Int32) then f2raw else f1)), .val (.int (own_b (¬ (fl &&& (4 : Int32)) = (0 : Int32)))), .unset, .unset, .unset, .unset] [(.int (1 : Int32))])) _
      refine XS.goto X0.here hx rfl (pc0 := 53) (pc' := 57) rfl (hb hby at_53) (by decide) (by decide) ?_
      show Steps p.tables e below (s₁.setTop (mkF m 57 #[.val (.long r1), .second, .val (.long r2raw), .second, .val (.int f1), .val (.int f2raw), .val (.int fl), .val (.long (if (fl &&& (1 : Int32)) = (0 : Int32) then r2raw else r1)), .second, .val (.int (if (fl &&& (2 : Int32)) = (0 : Int32) then f2raw else f1)), .val (.int (own_b (¬ (fl &&& (4 : Int32)) = (0 : Int32)))), .unset, .unset, .unset, .unset] [(.int (1 : Int32))])) _
      have q8 : (own_b (¬ (fl &&& (8 : Int32)) = (0 : Int32))) = (1 : Int32) := by simp [own_b, hc49]
      rw [q8] at k
      exact k
  refine own_step (B := s₁.setTop (mkF m 59 #[.val (.long r1), .second, .val (.long r2raw), .second, .val (.int f1), .val (.int f2raw), .val (.int fl), .val (.long (if (fl &&& (1 : Int32)) = (0 : Int32) then r2raw else r1)), .second, .val (.int (if (fl &&& (2 : Int32)) = (0 : Int32) then f2raw else f1)), .val (.int (own_b (¬ (fl &&& (4 : Int32)) = (0 : Int32)))), .val (.int (own_b (¬ (fl &&& (8 : Int32)) = (0 : Int32)))), .unset, .unset, .unset] [])) (fun t k => ?_) ?_
  · show Steps p.tables e below (s₁.setTop (mkF m 57 #[.val (.long r1), .second, .val (.long r2raw), .second, .val (.int f1), .val (.int f2raw), .val (.int fl), .val (.long (if (fl &&& (1 : Int32)) = (0 : Int32) then r2raw else r1)), .second, .val (.int (if (fl &&& (2 : Int32)) = (0 : Int32) then f2raw else f1)), .val (.int (own_b (¬ (fl &&& (4 : Int32)) = (0 : Int32)))), .unset, .unset, .unset, .unset] [(.int (own_b (¬ (fl &&& (8 : Int32)) = (0 : Int32))))])) _
    refine XS.istore X0.here hx rfl (hb hby at_57) rfl (l' := #[.val (.long r1), .second, .val (.long r2raw), .second, .val (.int f1), .val (.int f2raw), .val (.int fl), .val (.long (if (fl &&& (1 : Int32)) = (0 : Int32) then r2raw else r1)), .second, .val (.int (if (fl &&& (2 : Int32)) = (0 : Int32) then f2raw else f1)), .val (.int (own_b (¬ (fl &&& (4 : Int32)) = (0 : Int32)))), .val (.int (own_b (¬ (fl &&& (8 : Int32)) = (0 : Int32)))), .unset, .unset, .unset]) rfl ?_
    exact k
  generalize (if (fl &&& (1 : Int32)) = (0 : Int32) then r2raw else r1) = r2
  generalize (if (fl &&& (2 : Int32)) = (0 : Int32) then f2raw else f1) = f2
  obtain ⟨T9, h9, X9, e9, E9, A9, D9, -, st9⟩ := newO X0 hx hZ hown (hw _ (List.mem_of_getElem? (i := 0) rfl)) (hw _ (List.mem_of_getElem? (i := 1) rfl)) (hw _ (List.mem_of_getElem? (i := 2) rfl)) e0 (g := (mkF m 59 #[.val (.long r1), .second, .val (.long r2raw), .second, .val (.int f1), .val (.int f2raw), .val (.int fl), .val (.long r2), .second, .val (.int f2), .val (.int (own_b (¬ (fl &&& (4 : Int32)) = (0 : Int32)))), .val (.int (own_b (¬ (fl &&& (8 : Int32)) = (0 : Int32)))), .unset, .unset, .unset] [])) rfl (hb hby at_59) (by decide) (by decide)
  obtain ⟨b9, g9⟩ : ∃ z, z = h0.size := ⟨_, rfl⟩
  rw [← g9] at A9 D9 st9
  have g_b9 : n0 ≤ b9 := Nat.le_trans Z0 (Nat.le_of_eq g9.symm)
  have F_retryAt_b9 : Fld Z h9 b9 "com/example/lichen/lichen/continuous/Settlement$Outcome" "retryAt" "J" (.long (0 : Int64)) := D9 (Or.inr (hw _ (List.mem_of_getElem? (i := 10) rfl))) (ty := .long) (by decide)
  have F_refusals_b9 : Fld Z h9 b9 "com/example/lichen/lichen/continuous/Settlement$Outcome" "refusals" "I" (.int (0 : Int32)) := D9 (Or.inr (hw _ (List.mem_of_getElem? (i := 12) rfl))) (ty := .int) (by decide)
  have F_sent_b9 : Fld Z h9 b9 "com/example/lichen/lichen/continuous/Settlement$Outcome" "sent" "Z" (.int (0 : Int32)) := D9 (Or.inr (hw _ (List.mem_of_getElem? (i := 14) rfl))) (ty := .boolean) (by decide)
  refine own_step st9 ?_
  show own_Go p e below s _ _ _ (T9.setTop (mkF m 62 #[.val (.long r1), .second, .val (.long r2raw), .second, .val (.int f1), .val (.int f2raw), .val (.int fl), .val (.long r2), .second, .val (.int f2), .val (.int (own_b (¬ (fl &&& (4 : Int32)) = (0 : Int32)))), .val (.int (own_b (¬ (fl &&& (8 : Int32)) = (0 : Int32)))), .unset, .unset, .unset] [(.ref b9)]))
  refine own_step (B := T9.setTop (mkF m 68 #[.val (.long r1), .second, .val (.long r2raw), .second, .val (.int f1), .val (.int f2raw), .val (.int fl), .val (.long r2), .second, .val (.int f2), .val (.int (own_b (¬ (fl &&& (4 : Int32)) = (0 : Int32)))), .val (.int (own_b (¬ (fl &&& (8 : Int32)) = (0 : Int32)))), .unset, .unset, .unset] [(.int (own_b (¬ (fl &&& (4 : Int32)) = (0 : Int32)))), (.int f1), (.long r1), (.ref b9), (.ref b9)])) (fun t k => ?_) ?_
  · show Steps p.tables e below (T9.setTop (mkF m 62 #[.val (.long r1), .second, .val (.long r2raw), .second, .val (.int f1), .val (.int f2raw), .val (.int fl), .val (.long r2), .second, .val (.int f2), .val (.int (own_b (¬ (fl &&& (4 : Int32)) = (0 : Int32)))), .val (.int (own_b (¬ (fl &&& (8 : Int32)) = (0 : Int32)))), .unset, .unset, .unset] [(.ref b9)])) _
    refine XS.dup X9.here hx rfl (hb hby at_62) rfl rfl ?_
    show Steps p.tables e below (T9.setTop (mkF m 63 #[.val (.long r1), .second, .val (.long r2raw), .second, .val (.int f1), .val (.int f2raw), .val (.int fl), .val (.long r2), .second, .val (.int f2), .val (.int (own_b (¬ (fl &&& (4 : Int32)) = (0 : Int32)))), .val (.int (own_b (¬ (fl &&& (8 : Int32)) = (0 : Int32)))), .unset, .unset, .unset] [(.ref b9), (.ref b9)])) _
    refine XS.lloadN X9.here hx rfl (hb hby at_63) rfl ?_
    show Steps p.tables e below (T9.setTop (mkF m 64 #[.val (.long r1), .second, .val (.long r2raw), .second, .val (.int f1), .val (.int f2raw), .val (.int fl), .val (.long r2), .second, .val (.int f2), .val (.int (own_b (¬ (fl &&& (4 : Int32)) = (0 : Int32)))), .val (.int (own_b (¬ (fl &&& (8 : Int32)) = (0 : Int32)))), .unset, .unset, .unset] [(.long r1), (.ref b9), (.ref b9)])) _
    refine XS.iload X9.here hx rfl (hb hby at_64) rfl ?_
    show Steps p.tables e below (T9.setTop (mkF m 66 #[.val (.long r1), .second, .val (.long r2raw), .second, .val (.int f1), .val (.int f2raw), .val (.int fl), .val (.long r2), .second, .val (.int f2), .val (.int (own_b (¬ (fl &&& (4 : Int32)) = (0 : Int32)))), .val (.int (own_b (¬ (fl &&& (8 : Int32)) = (0 : Int32)))), .unset, .unset, .unset] [(.int f1), (.long r1), (.ref b9), (.ref b9)])) _
    refine XS.iload X9.here hx rfl (hb hby at_66) rfl ?_
    exact k
  obtain ⟨_, _, ⟨T10, L10, k10, n10⟩, -, X10, ⟨Lc10, hQ10, l10, y10, z10⟩, st10⟩ := X9.specialBack hx (y := (⟨"com/example/lichen/lichen/continuous/Settlement$Outcome", "<init>", "(JIZ)V"⟩ : MethodName)) rfl hown (mvT hZ (hw _ (List.mem_of_getElem? (i := 3) rfl))) (mvT hZ (hw _ (List.mem_of_getElem? (i := 4) rfl))) (mvT hZ (hw _ (List.mem_of_getElem? (i := 5) rfl))) (by decide) (backOf (W := 1) (rm1 l Z a0 hw [] b9 r1 f1 (own_b (¬ (fl &&& (4 : Int32)) = (0 : Int32))) _ _ _ h9 n0 (Nat.le_trans Z0 E9.1) A9 F_retryAt_b9 F_refusals_b9 F_sent_b9 g_b9 (own_bn (¬ (fl &&& (4 : Int32)) = (0 : Int32))) (own_bfit (¬ (fl &&& (4 : Int32)) = (0 : Int32)))) hZ (hw _ (List.mem_of_getElem? (i := 5) rfl)) (hw _ (List.mem_of_getElem? (i := 2) rfl)) (by decide) (by decide)) (g := (mkF m 68 #[.val (.long r1), .second, .val (.long r2raw), .second, .val (.int f1), .val (.int f2raw), .val (.int fl), .val (.long r2), .second, .val (.int f2), .val (.int (own_b (¬ (fl &&& (4 : Int32)) = (0 : Int32)))), .val (.int (own_b (¬ (fl &&& (8 : Int32)) = (0 : Int32)))), .unset, .unset, .unset] [(.int (own_b (¬ (fl &&& (4 : Int32)) = (0 : Int32)))), (.int f1), (.long r1), (.ref b9), (.ref b9)])) rfl (by rw [hml]; rfl) (Steps.refl _) (a := b9) (argsL := [(.long r1), (.int f1), (.int (own_b (¬ (fl &&& (4 : Int32)) = (0 : Int32))))]) (rest := [(.ref b9)]) (lenOf pd_2 rfl) rfl (by show 2 * 0 + _ ≤ _; exact Nat.le_of_eq rfl) (hb hby at_68) (fun _ _ => ⟨rfl, e9, (by decide : 1 + 0 ≤ _), (by decide : 3 + 0 ≤ _)⟩)
  dsimp only [Pt.U, Pt.locs, Pt.cells, Pt.slots] at X10 l10 y10 z10 st10 hQ10
  subst l10 y10 z10
  obtain ⟨rfl, N10q, K10, Ex10, Fa10, Fb10, Fc10⟩ := hQ10
  have N10 := Fr.app N0 N10q
  refine own_via st10 ?_
  show own_Go p e below s _ _ _ (T10.setTop (mkF m 71 #[.val (.long r1), .second, .val (.long r2raw), .second, .val (.int f1), .val (.int f2raw), .val (.int fl), .val (.long r2), .second, .val (.int f2), .val (.int (own_b (¬ (fl &&& (4 : Int32)) = (0 : Int32)))), .val (.int (own_b (¬ (fl &&& (8 : Int32)) = (0 : Int32)))), .unset, .unset, .unset] [(.ref b9)]))
  refine own_step (B := T10.setTop (mkF m 73 #[.val (.long r1), .second, .val (.long r2raw), .second, .val (.int f1), .val (.int f2raw), .val (.int fl), .val (.long r2), .second, .val (.int f2), .val (.int (own_b (¬ (fl &&& (4 : Int32)) = (0 : Int32)))), .val (.int (own_b (¬ (fl &&& (8 : Int32)) = (0 : Int32)))), .val (.ref b9), .unset, .unset] [])) (fun t k => ?_) ?_
  · show Steps p.tables e below (T10.setTop (mkF m 71 #[.val (.long r1), .second, .val (.long r2raw), .second, .val (.int f1), .val (.int f2raw), .val (.int fl), .val (.long r2), .second, .val (.int f2), .val (.int (own_b (¬ (fl &&& (4 : Int32)) = (0 : Int32)))), .val (.int (own_b (¬ (fl &&& (8 : Int32)) = (0 : Int32)))), .unset, .unset, .unset] [(.ref b9)])) _
    refine XS.astore X10.here hx rfl (hb hby at_71) rfl rfl (l' := #[.val (.long r1), .second, .val (.long r2raw), .second, .val (.int f1), .val (.int f2raw), .val (.int fl), .val (.long r2), .second, .val (.int f2), .val (.int (own_b (¬ (fl &&& (4 : Int32)) = (0 : Int32)))), .val (.int (own_b (¬ (fl &&& (8 : Int32)) = (0 : Int32)))), .val (.ref b9), .unset, .unset]) rfl ?_
    exact k
  obtain ⟨T11, h11, X11, e11, E11, A11, D11, -, st11⟩ := newO X10 hx hZ hown (hw _ (List.mem_of_getElem? (i := 0) rfl)) (hw _ (List.mem_of_getElem? (i := 1) rfl)) (hw _ (List.mem_of_getElem? (i := 2) rfl)) rfl (g := (mkF m 73 #[.val (.long r1), .second, .val (.long r2raw), .second, .val (.int f1), .val (.int f2raw), .val (.int fl), .val (.long r2), .second, .val (.int f2), .val (.int (own_b (¬ (fl &&& (4 : Int32)) = (0 : Int32)))), .val (.int (own_b (¬ (fl &&& (8 : Int32)) = (0 : Int32)))), .val (.ref b9), .unset, .unset] [])) rfl (hb hby at_73) (by decide) (by decide)
  obtain ⟨b11, g11⟩ : ∃ z, z = T10.heap.size := ⟨_, rfl⟩
  rw [← g11] at A11 D11 st11
  have g_b11 : n0 ≤ b11 := Nat.le_trans (Nat.le_trans (Nat.le_trans Z0 E9.1) K10.1) (Nat.le_of_eq g11.symm)
  have ne_b9_b11 : b9 ≠ b11 := Nat.ne_of_lt (Nat.lt_of_lt_of_le Ex10.lt (Nat.le_of_eq g11.symm))
  have F_retryAt_b11 : Fld Z h11 b11 "com/example/lichen/lichen/continuous/Settlement$Outcome" "retryAt" "J" (.long (0 : Int64)) := D11 (Or.inr (hw _ (List.mem_of_getElem? (i := 10) rfl))) (ty := .long) (by decide)
  have F_refusals_b11 : Fld Z h11 b11 "com/example/lichen/lichen/continuous/Settlement$Outcome" "refusals" "I" (.int (0 : Int32)) := D11 (Or.inr (hw _ (List.mem_of_getElem? (i := 12) rfl))) (ty := .int) (by decide)
  have F_sent_b11 : Fld Z h11 b11 "com/example/lichen/lichen/continuous/Settlement$Outcome" "sent" "Z" (.int (0 : Int32)) := D11 (Or.inr (hw _ (List.mem_of_getElem? (i := 14) rfl))) (ty := .boolean) (by decide)
  refine own_step st11 ?_
  show own_Go p e below s _ _ _ (T11.setTop (mkF m 76 #[.val (.long r1), .second, .val (.long r2raw), .second, .val (.int f1), .val (.int f2raw), .val (.int fl), .val (.long r2), .second, .val (.int f2), .val (.int (own_b (¬ (fl &&& (4 : Int32)) = (0 : Int32)))), .val (.int (own_b (¬ (fl &&& (8 : Int32)) = (0 : Int32)))), .val (.ref b9), .unset, .unset] [(.ref b11)]))
  refine own_step (B := T11.setTop (mkF m 83 #[.val (.long r1), .second, .val (.long r2raw), .second, .val (.int f1), .val (.int f2raw), .val (.int fl), .val (.long r2), .second, .val (.int f2), .val (.int (own_b (¬ (fl &&& (4 : Int32)) = (0 : Int32)))), .val (.int (own_b (¬ (fl &&& (8 : Int32)) = (0 : Int32)))), .val (.ref b9), .unset, .unset] [(.int (own_b (¬ (fl &&& (8 : Int32)) = (0 : Int32)))), (.int f2), (.long r2), (.ref b11), (.ref b11)])) (fun t k => ?_) ?_
  · show Steps p.tables e below (T11.setTop (mkF m 76 #[.val (.long r1), .second, .val (.long r2raw), .second, .val (.int f1), .val (.int f2raw), .val (.int fl), .val (.long r2), .second, .val (.int f2), .val (.int (own_b (¬ (fl &&& (4 : Int32)) = (0 : Int32)))), .val (.int (own_b (¬ (fl &&& (8 : Int32)) = (0 : Int32)))), .val (.ref b9), .unset, .unset] [(.ref b11)])) _
    refine XS.dup X11.here hx rfl (hb hby at_76) rfl rfl ?_
    show Steps p.tables e below (T11.setTop (mkF m 77 #[.val (.long r1), .second, .val (.long r2raw), .second, .val (.int f1), .val (.int f2raw), .val (.int fl), .val (.long r2), .second, .val (.int f2), .val (.int (own_b (¬ (fl &&& (4 : Int32)) = (0 : Int32)))), .val (.int (own_b (¬ (fl &&& (8 : Int32)) = (0 : Int32)))), .val (.ref b9), .unset, .unset] [(.ref b11), (.ref b11)])) _
    refine XS.lload X11.here hx rfl (hb hby at_77) rfl ?_
    show Steps p.tables e below (T11.setTop (mkF m 79 #[.val (.long r1), .second, .val (.long r2raw), .second, .val (.int f1), .val (.int f2raw), .val (.int fl), .val (.long r2), .second, .val (.int f2), .val (.int (own_b (¬ (fl &&& (4 : Int32)) = (0 : Int32)))), .val (.int (own_b (¬ (fl &&& (8 : Int32)) = (0 : Int32)))), .val (.ref b9), .unset, .unset] [(.long r2), (.ref b11), (.ref b11)])) _
    refine XS.iload X11.here hx rfl (hb hby at_79) rfl ?_
    show Steps p.tables e below (T11.setTop (mkF m 81 #[.val (.long r1), .second, .val (.long r2raw), .second, .val (.int f1), .val (.int f2raw), .val (.int fl), .val (.long r2), .second, .val (.int f2), .val (.int (own_b (¬ (fl &&& (4 : Int32)) = (0 : Int32)))), .val (.int (own_b (¬ (fl &&& (8 : Int32)) = (0 : Int32)))), .val (.ref b9), .unset, .unset] [(.int f2), (.long r2), (.ref b11), (.ref b11)])) _
    refine XS.iload X11.here hx rfl (hb hby at_81) rfl ?_
    exact k
  obtain ⟨_, _, ⟨T12, L12, k12, n12⟩, -, X12, ⟨Lc12, hQ12, l12, y12, z12⟩, st12⟩ := X11.specialBack hx (y := (⟨"com/example/lichen/lichen/continuous/Settlement$Outcome", "<init>", "(JIZ)V"⟩ : MethodName)) rfl hown (mvT hZ (hw _ (List.mem_of_getElem? (i := 3) rfl))) (mvT hZ (hw _ (List.mem_of_getElem? (i := 4) rfl))) (mvT hZ (hw _ (List.mem_of_getElem? (i := 5) rfl))) (by decide) (backOf (W := 1) (rm1 l Z a0 hw [] b11 r2 f2 (own_b (¬ (fl &&& (8 : Int32)) = (0 : Int32))) _ _ _ h11 n0 (Nat.le_trans (Nat.le_trans (Nat.le_trans Z0 E9.1) K10.1) E11.1) A11 F_retryAt_b11 F_refusals_b11 F_sent_b11 g_b11 (own_bn (¬ (fl &&& (8 : Int32)) = (0 : Int32))) (own_bfit (¬ (fl &&& (8 : Int32)) = (0 : Int32)))) hZ (hw _ (List.mem_of_getElem? (i := 5) rfl)) (hw _ (List.mem_of_getElem? (i := 2) rfl)) (by decide) (by decide)) (g := (mkF m 83 #[.val (.long r1), .second, .val (.long r2raw), .second, .val (.int f1), .val (.int f2raw), .val (.int fl), .val (.long r2), .second, .val (.int f2), .val (.int (own_b (¬ (fl &&& (4 : Int32)) = (0 : Int32)))), .val (.int (own_b (¬ (fl &&& (8 : Int32)) = (0 : Int32)))), .val (.ref b9), .unset, .unset] [(.int (own_b (¬ (fl &&& (8 : Int32)) = (0 : Int32)))), (.int f2), (.long r2), (.ref b11), (.ref b11)])) rfl (by rw [hml]; rfl) (Steps.refl _) (a := b11) (argsL := [(.long r2), (.int f2), (.int (own_b (¬ (fl &&& (8 : Int32)) = (0 : Int32))))]) (rest := [(.ref b11)]) (lenOf pd_2 rfl) rfl (by show 2 * 0 + _ ≤ _; exact Nat.le_of_eq rfl) (hb hby at_83) (fun _ _ => ⟨rfl, e11, (by decide : 2 + 0 ≤ _), (by decide : 6 + 0 ≤ _)⟩)
  dsimp only [Pt.U, Pt.locs, Pt.cells, Pt.slots] at X12 l12 y12 z12 st12 hQ12
  subst l12 y12 z12
  obtain ⟨rfl, N12q, K12, Ex12, Fa12, Fb12, Fc12⟩ := hQ12
  have N12 := Fr.app N10 N12q
  refine own_via st12 ?_
  show own_Go p e below s _ _ _ (T12.setTop (mkF m 86 #[.val (.long r1), .second, .val (.long r2raw), .second, .val (.int f1), .val (.int f2raw), .val (.int fl), .val (.long r2), .second, .val (.int f2), .val (.int (own_b (¬ (fl &&& (4 : Int32)) = (0 : Int32)))), .val (.int (own_b (¬ (fl &&& (8 : Int32)) = (0 : Int32)))), .val (.ref b9), .unset, .unset] [(.ref b11)]))
  refine own_step (B := T12.setTop (mkF m 88 #[.val (.long r1), .second, .val (.long r2raw), .second, .val (.int f1), .val (.int f2raw), .val (.int fl), .val (.long r2), .second, .val (.int f2), .val (.int (own_b (¬ (fl &&& (4 : Int32)) = (0 : Int32)))), .val (.int (own_b (¬ (fl &&& (8 : Int32)) = (0 : Int32)))), .val (.ref b9), .val (.ref b11), .unset] [])) (fun t k => ?_) ?_
  · show Steps p.tables e below (T12.setTop (mkF m 86 #[.val (.long r1), .second, .val (.long r2raw), .second, .val (.int f1), .val (.int f2raw), .val (.int fl), .val (.long r2), .second, .val (.int f2), .val (.int (own_b (¬ (fl &&& (4 : Int32)) = (0 : Int32)))), .val (.int (own_b (¬ (fl &&& (8 : Int32)) = (0 : Int32)))), .val (.ref b9), .unset, .unset] [(.ref b11)])) _
    refine XS.astore X12.here hx rfl (hb hby at_86) rfl rfl (l' := #[.val (.long r1), .second, .val (.long r2raw), .second, .val (.int f1), .val (.int f2raw), .val (.int fl), .val (.long r2), .second, .val (.int f2), .val (.int (own_b (¬ (fl &&& (4 : Int32)) = (0 : Int32)))), .val (.int (own_b (¬ (fl &&& (8 : Int32)) = (0 : Int32)))), .val (.ref b9), .val (.ref b11), .unset]) rfl ?_
    exact k
  refine own_step (B := T12.setTop (mkF m 114 #[.val (.long r1), .second, .val (.long r2raw), .second, .val (.int f1), .val (.int f2raw), .val (.int fl), .val (.long r2), .second, .val (.int f2), .val (.int (own_b (¬ (fl &&& (4 : Int32)) = (0 : Int32)))), .val (.int (own_b (¬ (fl &&& (8 : Int32)) = (0 : Int32)))), .val (.ref b9), .val (.ref b11), .unset] [(.int (own_b (r1 = r2 ∧ f1 = f2 ∧ (own_b (¬ (fl &&& (4 : Int32)) = (0 : Int32))) = (own_b (¬ (fl &&& (8 : Int32)) = (0 : Int32))))))])) (fun t k => ?_) ?_
  · show Steps p.tables e below (T12.setTop (mkF m 88 #[.val (.long r1), .second, .val (.long r2raw), .second, .val (.int f1), .val (.int f2raw), .val (.int fl), .val (.long r2), .second, .val (.int f2), .val (.int (own_b (¬ (fl &&& (4 : Int32)) = (0 : Int32)))), .val (.int (own_b (¬ (fl &&& (8 : Int32)) = (0 : Int32)))), .val (.ref b9), .val (.ref b11), .unset] [])) _
    refine XS.lloadN X12.here hx rfl (hb hby at_88) rfl ?_
    show Steps p.tables e below (T12.setTop (mkF m 89 #[.val (.long r1), .second, .val (.long r2raw), .second, .val (.int f1), .val (.int f2raw), .val (.int fl), .val (.long r2), .second, .val (.int f2), .val (.int (own_b (¬ (fl &&& (4 : Int32)) = (0 : Int32)))), .val (.int (own_b (¬ (fl &&& (8 : Int32)) = (0 : Int32)))), .val (.ref b9), .val (.ref b11), .unset] [(.long r1)])) _
    refine XS.lload X12.here hx rfl (hb hby at_89) rfl ?_
    show Steps p.tables e below (T12.setTop (mkF m 91 #[.val (.long r1), .second, .val (.long r2raw), .second, .val (.int f1), .val (.int f2raw), .val (.int fl), .val (.long r2), .second, .val (.int f2), .val (.int (own_b (¬ (fl &&& (4 : Int32)) = (0 : Int32)))), .val (.int (own_b (¬ (fl &&& (8 : Int32)) = (0 : Int32)))), .val (.ref b9), .val (.ref b11), .unset] [(.long r2), (.long r1)])) _
    refine XS.lcmp X12.here hx rfl (hb hby at_91) rfl ?_
    by_cases hc92 : r1 = r2
    · show Steps p.tables e below (T12.setTop (mkF m 92 #[.val (.long r1), .second, .val (.long r2raw), .second, .val (.int f1), .val (.int f2raw), .val (.int fl), .val (.long r2), .second, .val (.int f2), .val (.int (own_b (¬ (fl &&& (4 : Int32)) = (0 : Int32)))), .val (.int (own_b (¬ (fl &&& (8 : Int32)) = (0 : Int32)))), .val (.ref b9), .val (.ref b11), .unset] [(.int (lcmpW r1 r2))])) _
      refine XS.ifNo X12.here hx rfl (hb hby at_92) rfl ((if0 _ _).trans (teq ((lw_eq _ _).mpr hc92)).2) ?_
      show Steps p.tables e below (T12.setTop (mkF m 95 #[.val (.long r1), .second, .val (.long r2raw), .second, .val (.int f1), .val (.int f2raw), .val (.int fl), .val (.long r2), .second, .val (.int f2), .val (.int (own_b (¬ (fl &&& (4 : Int32)) = (0 : Int32)))), .val (.int (own_b (¬ (fl &&& (8 : Int32)) = (0 : Int32)))), .val (.ref b9), .val (.ref b11), .unset] [])) _
      refine XS.iload X12.here hx rfl (hb hby at_95) rfl ?_
      show Steps p.tables e below (T12.setTop (mkF m 97 #[.val (.long r1), .second, .val (.long r2raw), .second, .val (.int f1), .val (.int f2raw), .val (.int fl), .val (.long r2), .second, .val (.int f2), .val (.int (own_b (¬ (fl &&& (4 : Int32)) = (0 : Int32)))), .val (.int (own_b (¬ (fl &&& (8 : Int32)) = (0 : Int32)))), .val (.ref b9), .val (.ref b11), .unset] [(.int f1)])) _
      refine XS.iload X12.here hx rfl (hb hby at_97) rfl ?_
      by_cases hc99 : f1 = f2
      · show Steps p.tables e below (T12.setTop (mkF m 99 #[.val (.long r1), .second, .val (.long r2raw), .second, .val (.int f1), .val (.int f2raw), .val (.int fl), .val (.long r2), .second, .val (.int f2), .val (.int (own_b (¬ (fl &&& (4 : Int32)) = (0 : Int32)))), .val (.int (own_b (¬ (fl &&& (8 : Int32)) = (0 : Int32)))), .val (.ref b9), .val (.ref b11), .unset] [(.int f2), (.int f1)])) _
        refine XS.icmpNo X12.here hx rfl (hb hby at_99) rfl (teq hc99).2 ?_
        show Steps p.tables e below (T12.setTop (mkF m 102 #[.val (.long r1), .second, .val (.long r2raw), .second, .val (.int f1), .val (.int f2raw), .val (.int fl), .val (.long r2), .second, .val (.int f2), .val (.int (own_b (¬ (fl &&& (4 : Int32)) = (0 : Int32)))), .val (.int (own_b (¬ (fl &&& (8 : Int32)) = (0 : Int32)))), .val (.ref b9), .val (.ref b11), .unset] [])) _
        refine XS.iload X12.here hx rfl (hb hby at_102) rfl ?_
        show Steps p.tables e below (T12.setTop (mkF m 104 #[.val (.long r1), .second, .val (.long r2raw), .second, .val (.int f1), .val (.int f2raw), .val (.int fl), .val (.long r2), .second, .val (.int f2), .val (.int (own_b (¬ (fl &&& (4 : Int32)) = (0 : Int32)))), .val (.int (own_b (¬ (fl &&& (8 : Int32)) = (0 : Int32)))), .val (.ref b9), .val (.ref b11), .unset] [(.int (own_b (¬ (fl &&& (4 : Int32)) = (0 : Int32))))])) _
        refine XS.iload X12.here hx rfl (hb hby at_104) rfl ?_
        by_cases hc106 : (own_b (¬ (fl &&& (4 : Int32)) = (0 : Int32))) = (own_b (¬ (fl &&& (8 : Int32)) = (0 : Int32)))
        · show Steps p.tables e below (T12.setTop (mkF m 106 #[.val (.long r1), .second, .val (.long r2raw), .second, .val (.int f1), .val (.int f2raw), .val (.int fl), .val (.long r2), .second, .val (.int f2), .val (.int (own_b (¬ (fl &&& (4 : Int32)) = (0 : Int32)))), .val (.int (own_b (¬ (fl &&& (8 : Int32)) = (0 : Int32)))), .val (.ref b9), .val (.ref b11), .unset] [(.int (own_b (¬ (fl &&& (8 : Int32)) = (0 : Int32)))), (.int (own_b (¬ (fl &&& (4 : Int32)) = (0 : Int32))))])) _
          refine XS.icmpNo X12.here hx rfl (hb hby at_106) rfl (teq hc106).2 ?_
          show Steps p.tables e below (T12.setTop (mkF m 109 #[.val (.long r1), .second, .val (.long r2raw), .second, .val (.int f1), .val (.int f2raw), .val (.int fl), .val (.long r2), .second, .val (.int f2), .val (.int (own_b (¬ (fl &&& (4 : Int32)) = (0 : Int32)))), .val (.int (own_b (¬ (fl &&& (8 : Int32)) = (0 : Int32)))), .val (.ref b9), .val (.ref b11), .unset] [])) _
          refine XS.iconst X12.here hx rfl (hb hby at_109) ?_
          show Steps p.tables e below (T12.setTop (mkF m 110 #[.val (.long r1), .second, .val (.long r2raw), .second, .val (.int f1), .val (.int f2raw), .val (.int fl), .val (.long r2), .second, .val (.int f2), .val (.int (own_b (¬ (fl &&& (4 : Int32)) = (0 : Int32)))), .val (.int (own_b (¬ (fl &&& (8 : Int32)) = (0 : Int32)))), .val (.ref b9), .val (.ref b11), .unset] [(.int (1 : Int32))])) _
          refine XS.goto X12.here hx rfl (pc0 := 110) (pc' := 114) rfl (hb hby at_110) (by decide) (by decide) ?_
          show Steps p.tables e below (T12.setTop (mkF m 114 #[.val (.long r1), .second, .val (.long r2raw), .second, .val (.int f1), .val (.int f2raw), .val (.int fl), .val (.long r2), .second, .val (.int f2), .val (.int (own_b (¬ (fl &&& (4 : Int32)) = (0 : Int32)))), .val (.int (own_b (¬ (fl &&& (8 : Int32)) = (0 : Int32)))), .val (.ref b9), .val (.ref b11), .unset] [(.int (1 : Int32))])) _
          have q13 : (own_b (r1 = r2 ∧ f1 = f2 ∧ (own_b (¬ (fl &&& (4 : Int32)) = (0 : Int32))) = (own_b (¬ (fl &&& (8 : Int32)) = (0 : Int32))))) = (1 : Int32) := by first | exact own_bt ⟨hc92, hc99, hc106⟩ | exact own_bf (fun q => hc92 q.1) | exact own_bf (fun q => hc99 q.2.1) | exact own_bf (fun q => hc106 q.2.2)
          rw [q13] at k
          exact k
        · show Steps p.tables e below (T12.setTop (mkF m 106 #[.val (.long r1), .second, .val (.long r2raw), .second, .val (.int f1), .val (.int f2raw), .val (.int fl), .val (.long r2), .second, .val (.int f2), .val (.int (own_b (¬ (fl &&& (4 : Int32)) = (0 : Int32)))), .val (.int (own_b (¬ (fl &&& (8 : Int32)) = (0 : Int32)))), .val (.ref b9), .val (.ref b11), .unset] [(.int (own_b (¬ (fl &&& (8 : Int32)) = (0 : Int32)))), (.int (own_b (¬ (fl &&& (4 : Int32)) = (0 : Int32))))])) _
          refine XS.icmpYes X12.here hx rfl (pc0 := 106) (pc' := 113) rfl (hb hby at_106) rfl (feq hc106).2 (by decide) (by decide) ?_
          show Steps p.tables e below (T12.setTop (mkF m 113 #[.val (.long r1), .second, .val (.long r2raw), .second, .val (.int f1), .val (.int f2raw), .val (.int fl), .val (.long r2), .second, .val (.int f2), .val (.int (own_b (¬ (fl &&& (4 : Int32)) = (0 : Int32)))), .val (.int (own_b (¬ (fl &&& (8 : Int32)) = (0 : Int32)))), .val (.ref b9), .val (.ref b11), .unset] [])) _
          refine XS.iconst X12.here hx rfl (hb hby at_113) ?_
          show Steps p.tables e below (T12.setTop (mkF m 114 #[.val (.long r1), .second, .val (.long r2raw), .second, .val (.int f1), .val (.int f2raw), .val (.int fl), .val (.long r2), .second, .val (.int f2), .val (.int (own_b (¬ (fl &&& (4 : Int32)) = (0 : Int32)))), .val (.int (own_b (¬ (fl &&& (8 : Int32)) = (0 : Int32)))), .val (.ref b9), .val (.ref b11), .unset] [(.int (0 : Int32))])) _
          have q14 : (own_b (r1 = r2 ∧ f1 = f2 ∧ (own_b (¬ (fl &&& (4 : Int32)) = (0 : Int32))) = (own_b (¬ (fl &&& (8 : Int32)) = (0 : Int32))))) = (0 : Int32) := by first | exact own_bt ⟨hc92, hc99, hc106⟩ | exact own_bf (fun q => hc92 q.1) | exact own_bf (fun q => hc99 q.2.1) | exact own_bf (fun q => hc106 q.2.2)
          rw [q14] at k
          exact k
      · show Steps p.tables e below (T12.setTop (mkF m 99 #[.val (.long r1), .second, .val (.long r2raw), .second, .val (.int f1), .val (.int f2raw), .val (.int fl), .val (.long r2), .second, .val (.int f2), .val (.int (own_b (¬ (fl &&& (4 : Int32)) = (0 : Int32)))), .val (.int (own_b (¬ (fl &&& (8 : Int32)) = (0 : Int32)))), .val (.ref b9), .val (.ref b11), .unset] [(.int f2), (.int f1)])) _
        refine XS.icmpYes X12.here hx rfl (pc0 := 99) (pc' := 113) rfl (hb hby at_99) rfl (feq hc99).2 (by decide) (by decide) ?_
        show Steps p.tables e below (T12.setTop (mkF m 113 #[.val (.long r1), .second, .val (.long r2raw), .second, .val (.int f1), .val (.int f2raw), .val (.int fl), .val (.long r2), .second, .val (.int f2), .val (.int (own_b (¬ (fl &&& (4 : Int32)) = (0 : Int32)))), .val (.int (own_b (¬ (fl &&& (8 : Int32)) = (0 : Int32)))), .val (.ref b9), .val (.ref b11), .unset] [])) _
        refine XS.iconst X12.here hx rfl (hb hby at_113) ?_
        show Steps p.tables e below (T12.setTop (mkF m 114 #[.val (.long r1), .second, .val (.long r2raw), .second, .val (.int f1), .val (.int f2raw), .val (.int fl), .val (.long r2), .second, .val (.int f2), .val (.int (own_b (¬ (fl &&& (4 : Int32)) = (0 : Int32)))), .val (.int (own_b (¬ (fl &&& (8 : Int32)) = (0 : Int32)))), .val (.ref b9), .val (.ref b11), .unset] [(.int (0 : Int32))])) _
        have q15 : (own_b (r1 = r2 ∧ f1 = f2 ∧ (own_b (¬ (fl &&& (4 : Int32)) = (0 : Int32))) = (own_b (¬ (fl &&& (8 : Int32)) = (0 : Int32))))) = (0 : Int32) := by first | exact own_bt ⟨hc92, hc99, hc106⟩ | exact own_bf (fun q => hc92 q.1) | exact own_bf (fun q => hc99 q.2.1) | exact own_bf (fun q => hc106 q.2.2)
        rw [q15] at k
        exact k
    · show Steps p.tables e below (T12.setTop (mkF m 92 #[.val (.long r1), .second, .val (.long r2raw), .second, .val (.int f1), .val (.int f2raw), .val (.int fl), .val (.long r2), .second, .val (.int f2), .val (.int (own_b (¬ (fl &&& (4 : Int32)) = (0 : Int32)))), .val (.int (own_b (¬ (fl &&& (8 : Int32)) = (0 : Int32)))), .val (.ref b9), .val (.ref b11), .unset] [(.int (lcmpW r1 r2))])) _
      refine XS.ifYes X12.here hx rfl (pc0 := 92) (pc' := 113) rfl (hb hby at_92) rfl ((if0 _ _).trans (feq (fun q => hc92 ((lw_eq _ _).mp q))).2) (by decide) (by decide) ?_
      show Steps p.tables e below (T12.setTop (mkF m 113 #[.val (.long r1), .second, .val (.long r2raw), .second, .val (.int f1), .val (.int f2raw), .val (.int fl), .val (.long r2), .second, .val (.int f2), .val (.int (own_b (¬ (fl &&& (4 : Int32)) = (0 : Int32)))), .val (.int (own_b (¬ (fl &&& (8 : Int32)) = (0 : Int32)))), .val (.ref b9), .val (.ref b11), .unset] [])) _
      refine XS.iconst X12.here hx rfl (hb hby at_113) ?_
      show Steps p.tables e below (T12.setTop (mkF m 114 #[.val (.long r1), .second, .val (.long r2raw), .second, .val (.int f1), .val (.int f2raw), .val (.int fl), .val (.long r2), .second, .val (.int f2), .val (.int (own_b (¬ (fl &&& (4 : Int32)) = (0 : Int32)))), .val (.int (own_b (¬ (fl &&& (8 : Int32)) = (0 : Int32)))), .val (.ref b9), .val (.ref b11), .unset] [(.int (0 : Int32))])) _
      have q16 : (own_b (r1 = r2 ∧ f1 = f2 ∧ (own_b (¬ (fl &&& (4 : Int32)) = (0 : Int32))) = (own_b (¬ (fl &&& (8 : Int32)) = (0 : Int32))))) = (0 : Int32) := by first | exact own_bt ⟨hc92, hc99, hc106⟩ | exact own_bf (fun q => hc92 q.1) | exact own_bf (fun q => hc99 q.2.1) | exact own_bf (fun q => hc106 q.2.2)
      rw [q16] at k
      exact k
  refine own_step (B := T12.setTop (mkF m 120 #[.val (.long r1), .second, .val (.long r2raw), .second, .val (.int f1), .val (.int f2raw), .val (.int fl), .val (.long r2), .second, .val (.int f2), .val (.int (own_b (¬ (fl &&& (4 : Int32)) = (0 : Int32)))), .val (.int (own_b (¬ (fl &&& (8 : Int32)) = (0 : Int32)))), .val (.ref b9), .val (.ref b11), .val (.int (own_b (r1 = r2 ∧ f1 = f2 ∧ (own_b (¬ (fl &&& (4 : Int32)) = (0 : Int32))) = (own_b (¬ (fl &&& (8 : Int32)) = (0 : Int32))))))] [(.ref b11), (.ref b9)])) (fun t k => ?_) ?_
  · show Steps p.tables e below (T12.setTop (mkF m 114 #[.val (.long r1), .second, .val (.long r2raw), .second, .val (.int f1), .val (.int f2raw), .val (.int fl), .val (.long r2), .second, .val (.int f2), .val (.int (own_b (¬ (fl &&& (4 : Int32)) = (0 : Int32)))), .val (.int (own_b (¬ (fl &&& (8 : Int32)) = (0 : Int32)))), .val (.ref b9), .val (.ref b11), .unset] [(.int (own_b (r1 = r2 ∧ f1 = f2 ∧ (own_b (¬ (fl &&& (4 : Int32)) = (0 : Int32))) = (own_b (¬ (fl &&& (8 : Int32)) = (0 : Int32))))))])) _
    refine XS.istore X12.here hx rfl (hb hby at_114) rfl (l' := #[.val (.long r1), .second, .val (.long r2raw), .second, .val (.int f1), .val (.int f2raw), .val (.int fl), .val (.long r2), .second, .val (.int f2), .val (.int (own_b (¬ (fl &&& (4 : Int32)) = (0 : Int32)))), .val (.int (own_b (¬ (fl &&& (8 : Int32)) = (0 : Int32)))), .val (.ref b9), .val (.ref b11), .val (.int (own_b (r1 = r2 ∧ f1 = f2 ∧ (own_b (¬ (fl &&& (4 : Int32)) = (0 : Int32))) = (own_b (¬ (fl &&& (8 : Int32)) = (0 : Int32))))))]) rfl ?_
    show Steps p.tables e below (T12.setTop (mkF m 116 #[.val (.long r1), .second, .val (.long r2raw), .second, .val (.int f1), .val (.int f2raw), .val (.int fl), .val (.long r2), .second, .val (.int f2), .val (.int (own_b (¬ (fl &&& (4 : Int32)) = (0 : Int32)))), .val (.int (own_b (¬ (fl &&& (8 : Int32)) = (0 : Int32)))), .val (.ref b9), .val (.ref b11), .val (.int (own_b (r1 = r2 ∧ f1 = f2 ∧ (own_b (¬ (fl &&& (4 : Int32)) = (0 : Int32))) = (own_b (¬ (fl &&& (8 : Int32)) = (0 : Int32))))))] [])) _
    refine XS.aload X12.here hx rfl (hb hby at_116) rfl rfl ?_
    show Steps p.tables e below (T12.setTop (mkF m 118 #[.val (.long r1), .second, .val (.long r2raw), .second, .val (.int f1), .val (.int f2raw), .val (.int fl), .val (.long r2), .second, .val (.int f2), .val (.int (own_b (¬ (fl &&& (4 : Int32)) = (0 : Int32)))), .val (.int (own_b (¬ (fl &&& (8 : Int32)) = (0 : Int32)))), .val (.ref b9), .val (.ref b11), .val (.int (own_b (r1 = r2 ∧ f1 = f2 ∧ (own_b (¬ (fl &&& (4 : Int32)) = (0 : Int32))) = (own_b (¬ (fl &&& (8 : Int32)) = (0 : Int32))))))] [(.ref b9)])) _
    refine XS.aload X12.here hx rfl (hb hby at_118) rfl rfl ?_
    exact k
  obtain ⟨cq17, kq17, q17a, q17b, q17c⟩ := isOf hZ rfl ((Ex10.ext E11).keep K12)
  obtain ⟨_, _, ⟨T17, L17, k17, n17⟩, -, X17, ⟨Lc17, hQ17, l17, y17, z17⟩, st17⟩ := X12.virtualBack hx (y := (⟨"com/example/lichen/lichen/continuous/Settlement$Outcome", "leavesAs", "(Lcom/example/lichen/lichen/continuous/Settlement$Outcome;)Z"⟩ : MethodName)) (z := (⟨"com/example/lichen/lichen/continuous/Settlement$Outcome", "leavesAs", "(Lcom/example/lichen/lichen/continuous/Settlement$Outcome;)Z"⟩ : MethodName)) hown (mvT hZ (hw _ (List.mem_of_getElem? (i := 15) rfl))) (mvT hZ (hw _ (List.mem_of_getElem? (i := 16) rfl))) (notFace_of_selects (args := #[]) (mvT hZ (hw _ (List.mem_of_getElem? (i := 18) rfl)))) (mvT hZ (hw _ (List.mem_of_getElem? (i := 18) rfl))) (mvT hZ (hw _ (List.mem_of_getElem? (i := 17) rfl))) (by decide) (backOf (W := 0) (rm3 l Z a0 hw [] b9 b11 r1 f1 (own_b (¬ (fl &&& (4 : Int32)) = (0 : Int32))) r2 f2 (own_b (¬ (fl &&& (8 : Int32)) = (0 : Int32))) T12.heap n0 (Nat.le_trans (Nat.le_trans (Nat.le_trans (Nat.le_trans Z0 E9.1) K10.1) E11.1) K12.1) ((Fa10.ext E11).keep K12 (ninS ne_b9_b11 nin0)) ((Fb10.ext E11).keep K12 (ninS ne_b9_b11 nin0)) ((Fc10.ext E11).keep K12 (ninS ne_b9_b11 nin0)) Fa12 Fb12 Fc12) hZ (hw _ (List.mem_of_getElem? (i := 19) rfl)) (hw _ (List.mem_of_getElem? (i := 2) rfl)) (by decide) (by decide)) q17a q17c (g := (mkF m 120 #[.val (.long r1), .second, .val (.long r2raw), .second, .val (.int f1), .val (.int f2raw), .val (.int fl), .val (.long r2), .second, .val (.int f2), .val (.int (own_b (¬ (fl &&& (4 : Int32)) = (0 : Int32)))), .val (.int (own_b (¬ (fl &&& (8 : Int32)) = (0 : Int32)))), .val (.ref b9), .val (.ref b11), .val (.int (own_b (r1 = r2 ∧ f1 = f2 ∧ (own_b (¬ (fl &&& (4 : Int32)) = (0 : Int32))) = (own_b (¬ (fl &&& (8 : Int32)) = (0 : Int32))))))] [(.ref b11), (.ref b9)])) rfl (by rw [hml]; rfl) (Steps.refl _) (argsL := [(.ref b11)]) (rest := []) (lenOf pd_3 rfl) rfl (by show 2 * 0 + _ ≤ _; exact Nat.le_of_eq rfl) (hb hby at_120) (fun _ _ => ⟨rfl, rfl, (by decide : 2 + 0 ≤ _), (by decide : 6 + 0 ≤ _)⟩)
  dsimp only [Pt.U, Pt.locs, Pt.cells, Pt.slots] at X17 l17 y17 z17 st17 hQ17
  subst l17 y17 z17
  obtain ⟨rfl, N17q, e17⟩ := hQ17
  have N17 := Fr.app N12 N17q
  refine own_via st17 ?_
  show own_Go p e below s _ _ _ (T17.setTop (mkF m 123 #[.val (.long r1), .second, .val (.long r2raw), .second, .val (.int f1), .val (.int f2raw), .val (.int fl), .val (.long r2), .second, .val (.int f2), .val (.int (own_b (¬ (fl &&& (4 : Int32)) = (0 : Int32)))), .val (.int (own_b (¬ (fl &&& (8 : Int32)) = (0 : Int32)))), .val (.ref b9), .val (.ref b11), .val (.int (own_b (r1 = r2 ∧ f1 = f2 ∧ (own_b (¬ (fl &&& (4 : Int32)) = (0 : Int32))) = (own_b (¬ (fl &&& (8 : Int32)) = (0 : Int32))))))] [(.int (own_b (r1 = r2 ∧ f1 = f2 ∧ (own_b (¬ (fl &&& (4 : Int32)) = (0 : Int32))) = (own_b (¬ (fl &&& (8 : Int32)) = (0 : Int32))))))]))
  refine own_step (B := T17.setTop (mkF m 132 #[.val (.long r1), .second, .val (.long r2raw), .second, .val (.int f1), .val (.int f2raw), .val (.int fl), .val (.long r2), .second, .val (.int f2), .val (.int (own_b (¬ (fl &&& (4 : Int32)) = (0 : Int32)))), .val (.int (own_b (¬ (fl &&& (8 : Int32)) = (0 : Int32)))), .val (.ref b9), .val (.ref b11), .val (.int (own_b (r1 = r2 ∧ f1 = f2 ∧ (own_b (¬ (fl &&& (4 : Int32)) = (0 : Int32))) = (own_b (¬ (fl &&& (8 : Int32)) = (0 : Int32))))))] [(.ref b9), (.ref b11)])) (fun t k => ?_) ?_
  · show Steps p.tables e below (T17.setTop (mkF m 123 #[.val (.long r1), .second, .val (.long r2raw), .second, .val (.int f1), .val (.int f2raw), .val (.int fl), .val (.long r2), .second, .val (.int f2), .val (.int (own_b (¬ (fl &&& (4 : Int32)) = (0 : Int32)))), .val (.int (own_b (¬ (fl &&& (8 : Int32)) = (0 : Int32)))), .val (.ref b9), .val (.ref b11), .val (.int (own_b (r1 = r2 ∧ f1 = f2 ∧ (own_b (¬ (fl &&& (4 : Int32)) = (0 : Int32))) = (own_b (¬ (fl &&& (8 : Int32)) = (0 : Int32))))))] [(.int (own_b (r1 = r2 ∧ f1 = f2 ∧ (own_b (¬ (fl &&& (4 : Int32)) = (0 : Int32))) = (own_b (¬ (fl &&& (8 : Int32)) = (0 : Int32))))))])) _
    refine XS.iload X17.here hx rfl (hb hby at_123) rfl ?_
    show Steps p.tables e below (T17.setTop (mkF m 125 #[.val (.long r1), .second, .val (.long r2raw), .second, .val (.int f1), .val (.int f2raw), .val (.int fl), .val (.long r2), .second, .val (.int f2), .val (.int (own_b (¬ (fl &&& (4 : Int32)) = (0 : Int32)))), .val (.int (own_b (¬ (fl &&& (8 : Int32)) = (0 : Int32)))), .val (.ref b9), .val (.ref b11), .val (.int (own_b (r1 = r2 ∧ f1 = f2 ∧ (own_b (¬ (fl &&& (4 : Int32)) = (0 : Int32))) = (own_b (¬ (fl &&& (8 : Int32)) = (0 : Int32))))))] [(.int (own_b (r1 = r2 ∧ f1 = f2 ∧ (own_b (¬ (fl &&& (4 : Int32)) = (0 : Int32))) = (own_b (¬ (fl &&& (8 : Int32)) = (0 : Int32)))))), (.int (own_b (r1 = r2 ∧ f1 = f2 ∧ (own_b (¬ (fl &&& (4 : Int32)) = (0 : Int32))) = (own_b (¬ (fl &&& (8 : Int32)) = (0 : Int32))))))])) _
    refine XS.icmpNo X17.here hx rfl (hb hby at_125) rfl (teq rfl).2 ?_
    show Steps p.tables e below (T17.setTop (mkF m 128 #[.val (.long r1), .second, .val (.long r2raw), .second, .val (.int f1), .val (.int f2raw), .val (.int fl), .val (.long r2), .second, .val (.int f2), .val (.int (own_b (¬ (fl &&& (4 : Int32)) = (0 : Int32)))), .val (.int (own_b (¬ (fl &&& (8 : Int32)) = (0 : Int32)))), .val (.ref b9), .val (.ref b11), .val (.int (own_b (r1 = r2 ∧ f1 = f2 ∧ (own_b (¬ (fl &&& (4 : Int32)) = (0 : Int32))) = (own_b (¬ (fl &&& (8 : Int32)) = (0 : Int32))))))] [])) _
    refine XS.aload X17.here hx rfl (hb hby at_128) rfl rfl ?_
    show Steps p.tables e below (T17.setTop (mkF m 130 #[.val (.long r1), .second, .val (.long r2raw), .second, .val (.int f1), .val (.int f2raw), .val (.int fl), .val (.long r2), .second, .val (.int f2), .val (.int (own_b (¬ (fl &&& (4 : Int32)) = (0 : Int32)))), .val (.int (own_b (¬ (fl &&& (8 : Int32)) = (0 : Int32)))), .val (.ref b9), .val (.ref b11), .val (.int (own_b (r1 = r2 ∧ f1 = f2 ∧ (own_b (¬ (fl &&& (4 : Int32)) = (0 : Int32))) = (own_b (¬ (fl &&& (8 : Int32)) = (0 : Int32))))))] [(.ref b11)])) _
    refine XS.aload X17.here hx rfl (hb hby at_130) rfl rfl ?_
    exact k
  obtain ⟨cq18, kq18, q18a, q18b, q18c⟩ := isOf hZ e17 Ex12
  obtain ⟨_, _, ⟨T18, L18, k18, n18⟩, -, X18, ⟨Lc18, hQ18, l18, y18, z18⟩, st18⟩ := X17.virtualBack hx (y := (⟨"com/example/lichen/lichen/continuous/Settlement$Outcome", "leavesAs", "(Lcom/example/lichen/lichen/continuous/Settlement$Outcome;)Z"⟩ : MethodName)) (z := (⟨"com/example/lichen/lichen/continuous/Settlement$Outcome", "leavesAs", "(Lcom/example/lichen/lichen/continuous/Settlement$Outcome;)Z"⟩ : MethodName)) hown (mvT hZ (hw _ (List.mem_of_getElem? (i := 15) rfl))) (mvT hZ (hw _ (List.mem_of_getElem? (i := 16) rfl))) (notFace_of_selects (args := #[]) (mvT hZ (hw _ (List.mem_of_getElem? (i := 18) rfl)))) (mvT hZ (hw _ (List.mem_of_getElem? (i := 18) rfl))) (mvT hZ (hw _ (List.mem_of_getElem? (i := 17) rfl))) (by decide) (backOf (W := 0) (rm3 l Z a0 hw [] b11 b9 r2 f2 (own_b (¬ (fl &&& (8 : Int32)) = (0 : Int32))) r1 f1 (own_b (¬ (fl &&& (4 : Int32)) = (0 : Int32))) T12.heap n0 (Nat.le_trans (Nat.le_trans (Nat.le_trans (Nat.le_trans Z0 E9.1) K10.1) E11.1) K12.1) Fa12 Fb12 Fc12 ((Fa10.ext E11).keep K12 (ninS ne_b9_b11 nin0)) ((Fb10.ext E11).keep K12 (ninS ne_b9_b11 nin0)) ((Fc10.ext E11).keep K12 (ninS ne_b9_b11 nin0))) hZ (hw _ (List.mem_of_getElem? (i := 19) rfl)) (hw _ (List.mem_of_getElem? (i := 2) rfl)) (by decide) (by decide)) q18a q18c (g := (mkF m 132 #[.val (.long r1), .second, .val (.long r2raw), .second, .val (.int f1), .val (.int f2raw), .val (.int fl), .val (.long r2), .second, .val (.int f2), .val (.int (own_b (¬ (fl &&& (4 : Int32)) = (0 : Int32)))), .val (.int (own_b (¬ (fl &&& (8 : Int32)) = (0 : Int32)))), .val (.ref b9), .val (.ref b11), .val (.int (own_b (r1 = r2 ∧ f1 = f2 ∧ (own_b (¬ (fl &&& (4 : Int32)) = (0 : Int32))) = (own_b (¬ (fl &&& (8 : Int32)) = (0 : Int32))))))] [(.ref b9), (.ref b11)])) rfl (by rw [hml]; rfl) (Steps.refl _) (argsL := [(.ref b9)]) (rest := []) (lenOf pd_3 rfl) rfl (by show 2 * 0 + _ ≤ _; exact Nat.le_of_eq rfl) (hb hby at_132) (fun _ _ => ⟨rfl, e17, (by decide : 2 + 0 ≤ _), (by decide : 6 + 0 ≤ _)⟩)
  dsimp only [Pt.U, Pt.locs, Pt.cells, Pt.slots] at X18 l18 y18 z18 st18 hQ18
  subst l18 y18 z18
  obtain ⟨rfl, N18q, e18⟩ := hQ18
  have N18 := Fr.app N17 N18q
  refine own_via st18 ?_
  show own_Go p e below s _ _ _ (T18.setTop (mkF m 135 #[.val (.long r1), .second, .val (.long r2raw), .second, .val (.int f1), .val (.int f2raw), .val (.int fl), .val (.long r2), .second, .val (.int f2), .val (.int (own_b (¬ (fl &&& (4 : Int32)) = (0 : Int32)))), .val (.int (own_b (¬ (fl &&& (8 : Int32)) = (0 : Int32)))), .val (.ref b9), .val (.ref b11), .val (.int (own_b (r1 = r2 ∧ f1 = f2 ∧ (own_b (¬ (fl &&& (4 : Int32)) = (0 : Int32))) = (own_b (¬ (fl &&& (8 : Int32)) = (0 : Int32))))))] [(.int (own_b (r2 = r1 ∧ f2 = f1 ∧ (own_b (¬ (fl &&& (8 : Int32)) = (0 : Int32))) = (own_b (¬ (fl &&& (4 : Int32)) = (0 : Int32))))))]))
  refine own_step (B := T18.setTop (mkF m 144 #[.val (.long r1), .second, .val (.long r2raw), .second, .val (.int f1), .val (.int f2raw), .val (.int fl), .val (.long r2), .second, .val (.int f2), .val (.int (own_b (¬ (fl &&& (4 : Int32)) = (0 : Int32)))), .val (.int (own_b (¬ (fl &&& (8 : Int32)) = (0 : Int32)))), .val (.ref b9), .val (.ref b11), .val (.int (own_b (r1 = r2 ∧ f1 = f2 ∧ (own_b (¬ (fl &&& (4 : Int32)) = (0 : Int32))) = (own_b (¬ (fl &&& (8 : Int32)) = (0 : Int32))))))] [(.ref b9), (.ref b9)])) (fun t k => ?_) ?_
  · show Steps p.tables e below (T18.setTop (mkF m 135 #[.val (.long r1), .second, .val (.long r2raw), .second, .val (.int f1), .val (.int f2raw), .val (.int fl), .val (.long r2), .second, .val (.int f2), .val (.int (own_b (¬ (fl &&& (4 : Int32)) = (0 : Int32)))), .val (.int (own_b (¬ (fl &&& (8 : Int32)) = (0 : Int32)))), .val (.ref b9), .val (.ref b11), .val (.int (own_b (r1 = r2 ∧ f1 = f2 ∧ (own_b (¬ (fl &&& (4 : Int32)) = (0 : Int32))) = (own_b (¬ (fl &&& (8 : Int32)) = (0 : Int32))))))] [(.int (own_b (r2 = r1 ∧ f2 = f1 ∧ (own_b (¬ (fl &&& (8 : Int32)) = (0 : Int32))) = (own_b (¬ (fl &&& (4 : Int32)) = (0 : Int32))))))])) _
    refine XS.iload X18.here hx rfl (hb hby at_135) rfl ?_
    show Steps p.tables e below (T18.setTop (mkF m 137 #[.val (.long r1), .second, .val (.long r2raw), .second, .val (.int f1), .val (.int f2raw), .val (.int fl), .val (.long r2), .second, .val (.int f2), .val (.int (own_b (¬ (fl &&& (4 : Int32)) = (0 : Int32)))), .val (.int (own_b (¬ (fl &&& (8 : Int32)) = (0 : Int32)))), .val (.ref b9), .val (.ref b11), .val (.int (own_b (r1 = r2 ∧ f1 = f2 ∧ (own_b (¬ (fl &&& (4 : Int32)) = (0 : Int32))) = (own_b (¬ (fl &&& (8 : Int32)) = (0 : Int32))))))] [(.int (own_b (r1 = r2 ∧ f1 = f2 ∧ (own_b (¬ (fl &&& (4 : Int32)) = (0 : Int32))) = (own_b (¬ (fl &&& (8 : Int32)) = (0 : Int32)))))), (.int (own_b (r2 = r1 ∧ f2 = f1 ∧ (own_b (¬ (fl &&& (8 : Int32)) = (0 : Int32))) = (own_b (¬ (fl &&& (4 : Int32)) = (0 : Int32))))))])) _
    refine XS.icmpNo X18.here hx rfl (hb hby at_137) rfl (teq (own_iff (by constructor <;> (rintro ⟨a, b, c⟩; exact ⟨a.symm, b.symm, c.symm⟩)))).2 ?_
    show Steps p.tables e below (T18.setTop (mkF m 140 #[.val (.long r1), .second, .val (.long r2raw), .second, .val (.int f1), .val (.int f2raw), .val (.int fl), .val (.long r2), .second, .val (.int f2), .val (.int (own_b (¬ (fl &&& (4 : Int32)) = (0 : Int32)))), .val (.int (own_b (¬ (fl &&& (8 : Int32)) = (0 : Int32)))), .val (.ref b9), .val (.ref b11), .val (.int (own_b (r1 = r2 ∧ f1 = f2 ∧ (own_b (¬ (fl &&& (4 : Int32)) = (0 : Int32))) = (own_b (¬ (fl &&& (8 : Int32)) = (0 : Int32))))))] [])) _
    refine XS.aload X18.here hx rfl (hb hby at_140) rfl rfl ?_
    show Steps p.tables e below (T18.setTop (mkF m 142 #[.val (.long r1), .second, .val (.long r2raw), .second, .val (.int f1), .val (.int f2raw), .val (.int fl), .val (.long r2), .second, .val (.int f2), .val (.int (own_b (¬ (fl &&& (4 : Int32)) = (0 : Int32)))), .val (.int (own_b (¬ (fl &&& (8 : Int32)) = (0 : Int32)))), .val (.ref b9), .val (.ref b11), .val (.int (own_b (r1 = r2 ∧ f1 = f2 ∧ (own_b (¬ (fl &&& (4 : Int32)) = (0 : Int32))) = (own_b (¬ (fl &&& (8 : Int32)) = (0 : Int32))))))] [(.ref b9)])) _
    refine XS.aload X18.here hx rfl (hb hby at_142) rfl rfl ?_
    exact k
  obtain ⟨cq19, kq19, q19a, q19b, q19c⟩ := isOf hZ e18 ((Ex10.ext E11).keep K12)
  obtain ⟨_, _, ⟨T19, L19, k19, n19⟩, -, X19, ⟨Lc19, hQ19, l19, y19, z19⟩, st19⟩ := X18.virtualBack hx (y := (⟨"com/example/lichen/lichen/continuous/Settlement$Outcome", "leavesAs", "(Lcom/example/lichen/lichen/continuous/Settlement$Outcome;)Z"⟩ : MethodName)) (z := (⟨"com/example/lichen/lichen/continuous/Settlement$Outcome", "leavesAs", "(Lcom/example/lichen/lichen/continuous/Settlement$Outcome;)Z"⟩ : MethodName)) hown (mvT hZ (hw _ (List.mem_of_getElem? (i := 15) rfl))) (mvT hZ (hw _ (List.mem_of_getElem? (i := 16) rfl))) (notFace_of_selects (args := #[]) (mvT hZ (hw _ (List.mem_of_getElem? (i := 18) rfl)))) (mvT hZ (hw _ (List.mem_of_getElem? (i := 18) rfl))) (mvT hZ (hw _ (List.mem_of_getElem? (i := 17) rfl))) (by decide) (backOf (W := 0) (rm3 l Z a0 hw [] b9 b9 r1 f1 (own_b (¬ (fl &&& (4 : Int32)) = (0 : Int32))) r1 f1 (own_b (¬ (fl &&& (4 : Int32)) = (0 : Int32))) T12.heap n0 (Nat.le_trans (Nat.le_trans (Nat.le_trans (Nat.le_trans Z0 E9.1) K10.1) E11.1) K12.1) ((Fa10.ext E11).keep K12 (ninS ne_b9_b11 nin0)) ((Fb10.ext E11).keep K12 (ninS ne_b9_b11 nin0)) ((Fc10.ext E11).keep K12 (ninS ne_b9_b11 nin0)) ((Fa10.ext E11).keep K12 (ninS ne_b9_b11 nin0)) ((Fb10.ext E11).keep K12 (ninS ne_b9_b11 nin0)) ((Fc10.ext E11).keep K12 (ninS ne_b9_b11 nin0))) hZ (hw _ (List.mem_of_getElem? (i := 19) rfl)) (hw _ (List.mem_of_getElem? (i := 2) rfl)) (by decide) (by decide)) q19a q19c (g := (mkF m 144 #[.val (.long r1), .second, .val (.long r2raw), .second, .val (.int f1), .val (.int f2raw), .val (.int fl), .val (.long r2), .second, .val (.int f2), .val (.int (own_b (¬ (fl &&& (4 : Int32)) = (0 : Int32)))), .val (.int (own_b (¬ (fl &&& (8 : Int32)) = (0 : Int32)))), .val (.ref b9), .val (.ref b11), .val (.int (own_b (r1 = r2 ∧ f1 = f2 ∧ (own_b (¬ (fl &&& (4 : Int32)) = (0 : Int32))) = (own_b (¬ (fl &&& (8 : Int32)) = (0 : Int32))))))] [(.ref b9), (.ref b9)])) rfl (by rw [hml]; rfl) (Steps.refl _) (argsL := [(.ref b9)]) (rest := []) (lenOf pd_3 rfl) rfl (by show 2 * 0 + _ ≤ _; exact Nat.le_of_eq rfl) (hb hby at_144) (fun _ _ => ⟨rfl, e18, (by decide : 2 + 0 ≤ _), (by decide : 6 + 0 ≤ _)⟩)
  dsimp only [Pt.U, Pt.locs, Pt.cells, Pt.slots] at X19 l19 y19 z19 st19 hQ19
  subst l19 y19 z19
  obtain ⟨rfl, N19q, e19⟩ := hQ19
  have N19 := Fr.app N18 N19q
  refine own_via st19 ?_
  show own_Go p e below s _ _ _ (T19.setTop (mkF m 147 #[.val (.long r1), .second, .val (.long r2raw), .second, .val (.int f1), .val (.int f2raw), .val (.int fl), .val (.long r2), .second, .val (.int f2), .val (.int (own_b (¬ (fl &&& (4 : Int32)) = (0 : Int32)))), .val (.int (own_b (¬ (fl &&& (8 : Int32)) = (0 : Int32)))), .val (.ref b9), .val (.ref b11), .val (.int (own_b (r1 = r2 ∧ f1 = f2 ∧ (own_b (¬ (fl &&& (4 : Int32)) = (0 : Int32))) = (own_b (¬ (fl &&& (8 : Int32)) = (0 : Int32))))))] [(.int (own_b (r1 = r1 ∧ f1 = f1 ∧ (own_b (¬ (fl &&& (4 : Int32)) = (0 : Int32))) = (own_b (¬ (fl &&& (4 : Int32)) = (0 : Int32))))))]))
  refine own_step (B := T19.setTop (mkF m 154 #[.val (.long r1), .second, .val (.long r2raw), .second, .val (.int f1), .val (.int f2raw), .val (.int fl), .val (.long r2), .second, .val (.int f2), .val (.int (own_b (¬ (fl &&& (4 : Int32)) = (0 : Int32)))), .val (.int (own_b (¬ (fl &&& (8 : Int32)) = (0 : Int32)))), .val (.ref b9), .val (.ref b11), .val (.int (own_b (r1 = r2 ∧ f1 = f2 ∧ (own_b (¬ (fl &&& (4 : Int32)) = (0 : Int32))) = (own_b (¬ (fl &&& (8 : Int32)) = (0 : Int32))))))] [(.ref b11), (.ref b11)])) (fun t k => ?_) ?_
  · show Steps p.tables e below (T19.setTop (mkF m 147 #[.val (.long r1), .second, .val (.long r2raw), .second, .val (.int f1), .val (.int f2raw), .val (.int fl), .val (.long r2), .second, .val (.int f2), .val (.int (own_b (¬ (fl &&& (4 : Int32)) = (0 : Int32)))), .val (.int (own_b (¬ (fl &&& (8 : Int32)) = (0 : Int32)))), .val (.ref b9), .val (.ref b11), .val (.int (own_b (r1 = r2 ∧ f1 = f2 ∧ (own_b (¬ (fl &&& (4 : Int32)) = (0 : Int32))) = (own_b (¬ (fl &&& (8 : Int32)) = (0 : Int32))))))] [(.int (own_b (r1 = r1 ∧ f1 = f1 ∧ (own_b (¬ (fl &&& (4 : Int32)) = (0 : Int32))) = (own_b (¬ (fl &&& (4 : Int32)) = (0 : Int32))))))])) _
    refine XS.ifNo X19.here hx rfl (hb hby at_147) rfl ((if0 _ _).trans (feq (by rw [own_bt ⟨rfl, rfl, rfl⟩]; decide)).1) ?_
    show Steps p.tables e below (T19.setTop (mkF m 150 #[.val (.long r1), .second, .val (.long r2raw), .second, .val (.int f1), .val (.int f2raw), .val (.int fl), .val (.long r2), .second, .val (.int f2), .val (.int (own_b (¬ (fl &&& (4 : Int32)) = (0 : Int32)))), .val (.int (own_b (¬ (fl &&& (8 : Int32)) = (0 : Int32)))), .val (.ref b9), .val (.ref b11), .val (.int (own_b (r1 = r2 ∧ f1 = f2 ∧ (own_b (¬ (fl &&& (4 : Int32)) = (0 : Int32))) = (own_b (¬ (fl &&& (8 : Int32)) = (0 : Int32))))))] [])) _
    refine XS.aload X19.here hx rfl (hb hby at_150) rfl rfl ?_
    show Steps p.tables e below (T19.setTop (mkF m 152 #[.val (.long r1), .second, .val (.long r2raw), .second, .val (.int f1), .val (.int f2raw), .val (.int fl), .val (.long r2), .second, .val (.int f2), .val (.int (own_b (¬ (fl &&& (4 : Int32)) = (0 : Int32)))), .val (.int (own_b (¬ (fl &&& (8 : Int32)) = (0 : Int32)))), .val (.ref b9), .val (.ref b11), .val (.int (own_b (r1 = r2 ∧ f1 = f2 ∧ (own_b (¬ (fl &&& (4 : Int32)) = (0 : Int32))) = (own_b (¬ (fl &&& (8 : Int32)) = (0 : Int32))))))] [(.ref b11)])) _
    refine XS.aload X19.here hx rfl (hb hby at_152) rfl rfl ?_
    exact k
  obtain ⟨cq20, kq20, q20a, q20b, q20c⟩ := isOf hZ e19 Ex12
  obtain ⟨_, _, ⟨T20, L20, k20, n20⟩, -, X20, ⟨Lc20, hQ20, l20, y20, z20⟩, st20⟩ := X19.virtualBack hx (y := (⟨"com/example/lichen/lichen/continuous/Settlement$Outcome", "leavesAs", "(Lcom/example/lichen/lichen/continuous/Settlement$Outcome;)Z"⟩ : MethodName)) (z := (⟨"com/example/lichen/lichen/continuous/Settlement$Outcome", "leavesAs", "(Lcom/example/lichen/lichen/continuous/Settlement$Outcome;)Z"⟩ : MethodName)) hown (mvT hZ (hw _ (List.mem_of_getElem? (i := 15) rfl))) (mvT hZ (hw _ (List.mem_of_getElem? (i := 16) rfl))) (notFace_of_selects (args := #[]) (mvT hZ (hw _ (List.mem_of_getElem? (i := 18) rfl)))) (mvT hZ (hw _ (List.mem_of_getElem? (i := 18) rfl))) (mvT hZ (hw _ (List.mem_of_getElem? (i := 17) rfl))) (by decide) (backOf (W := 0) (rm3 l Z a0 hw [] b11 b11 r2 f2 (own_b (¬ (fl &&& (8 : Int32)) = (0 : Int32))) r2 f2 (own_b (¬ (fl &&& (8 : Int32)) = (0 : Int32))) T12.heap n0 (Nat.le_trans (Nat.le_trans (Nat.le_trans (Nat.le_trans Z0 E9.1) K10.1) E11.1) K12.1) Fa12 Fb12 Fc12 Fa12 Fb12 Fc12) hZ (hw _ (List.mem_of_getElem? (i := 19) rfl)) (hw _ (List.mem_of_getElem? (i := 2) rfl)) (by decide) (by decide)) q20a q20c (g := (mkF m 154 #[.val (.long r1), .second, .val (.long r2raw), .second, .val (.int f1), .val (.int f2raw), .val (.int fl), .val (.long r2), .second, .val (.int f2), .val (.int (own_b (¬ (fl &&& (4 : Int32)) = (0 : Int32)))), .val (.int (own_b (¬ (fl &&& (8 : Int32)) = (0 : Int32)))), .val (.ref b9), .val (.ref b11), .val (.int (own_b (r1 = r2 ∧ f1 = f2 ∧ (own_b (¬ (fl &&& (4 : Int32)) = (0 : Int32))) = (own_b (¬ (fl &&& (8 : Int32)) = (0 : Int32))))))] [(.ref b11), (.ref b11)])) rfl (by rw [hml]; rfl) (Steps.refl _) (argsL := [(.ref b11)]) (rest := []) (lenOf pd_3 rfl) rfl (by show 2 * 0 + _ ≤ _; exact Nat.le_of_eq rfl) (hb hby at_154) (fun _ _ => ⟨rfl, e19, (by decide : 2 + 0 ≤ _), (by decide : 6 + 0 ≤ _)⟩)
  dsimp only [Pt.U, Pt.locs, Pt.cells, Pt.slots] at X20 l20 y20 z20 st20 hQ20
  subst l20 y20 z20
  obtain ⟨rfl, N20q, e20⟩ := hQ20
  have N20 := Fr.app N19 N20q
  refine own_via st20 ?_
  show own_Go p e below s _ _ _ (T20.setTop (mkF m 157 #[.val (.long r1), .second, .val (.long r2raw), .second, .val (.int f1), .val (.int f2raw), .val (.int fl), .val (.long r2), .second, .val (.int f2), .val (.int (own_b (¬ (fl &&& (4 : Int32)) = (0 : Int32)))), .val (.int (own_b (¬ (fl &&& (8 : Int32)) = (0 : Int32)))), .val (.ref b9), .val (.ref b11), .val (.int (own_b (r1 = r2 ∧ f1 = f2 ∧ (own_b (¬ (fl &&& (4 : Int32)) = (0 : Int32))) = (own_b (¬ (fl &&& (8 : Int32)) = (0 : Int32))))))] [(.int (own_b (r2 = r2 ∧ f2 = f2 ∧ (own_b (¬ (fl &&& (8 : Int32)) = (0 : Int32))) = (own_b (¬ (fl &&& (8 : Int32)) = (0 : Int32))))))]))
  refine own_step (B := T20.setTop (mkF m 165 #[.val (.long r1), .second, .val (.long r2raw), .second, .val (.int f1), .val (.int f2raw), .val (.int fl), .val (.long r2), .second, .val (.int f2), .val (.int (own_b (¬ (fl &&& (4 : Int32)) = (0 : Int32)))), .val (.int (own_b (¬ (fl &&& (8 : Int32)) = (0 : Int32)))), .val (.ref b9), .val (.ref b11), .val (.int (own_b (r1 = r2 ∧ f1 = f2 ∧ (own_b (¬ (fl &&& (4 : Int32)) = (0 : Int32))) = (own_b (¬ (fl &&& (8 : Int32)) = (0 : Int32))))))] [(.int (1 : Int32))])) (fun t k => ?_) ?_
  · show Steps p.tables e below (T20.setTop (mkF m 157 #[.val (.long r1), .second, .val (.long r2raw), .second, .val (.int f1), .val (.int f2raw), .val (.int fl), .val (.long r2), .second, .val (.int f2), .val (.int (own_b (¬ (fl &&& (4 : Int32)) = (0 : Int32)))), .val (.int (own_b (¬ (fl &&& (8 : Int32)) = (0 : Int32)))), .val (.ref b9), .val (.ref b11), .val (.int (own_b (r1 = r2 ∧ f1 = f2 ∧ (own_b (¬ (fl &&& (4 : Int32)) = (0 : Int32))) = (own_b (¬ (fl &&& (8 : Int32)) = (0 : Int32))))))] [(.int (own_b (r2 = r2 ∧ f2 = f2 ∧ (own_b (¬ (fl &&& (8 : Int32)) = (0 : Int32))) = (own_b (¬ (fl &&& (8 : Int32)) = (0 : Int32))))))])) _
    refine XS.ifNo X20.here hx rfl (hb hby at_157) rfl ((if0 _ _).trans (feq (by rw [own_bt ⟨rfl, rfl, rfl⟩]; decide)).1) ?_
    show Steps p.tables e below (T20.setTop (mkF m 160 #[.val (.long r1), .second, .val (.long r2raw), .second, .val (.int f1), .val (.int f2raw), .val (.int fl), .val (.long r2), .second, .val (.int f2), .val (.int (own_b (¬ (fl &&& (4 : Int32)) = (0 : Int32)))), .val (.int (own_b (¬ (fl &&& (8 : Int32)) = (0 : Int32)))), .val (.ref b9), .val (.ref b11), .val (.int (own_b (r1 = r2 ∧ f1 = f2 ∧ (own_b (¬ (fl &&& (4 : Int32)) = (0 : Int32))) = (own_b (¬ (fl &&& (8 : Int32)) = (0 : Int32))))))] [])) _
    refine XS.iconst X20.here hx rfl (hb hby at_160) ?_
    show Steps p.tables e below (T20.setTop (mkF m 161 #[.val (.long r1), .second, .val (.long r2raw), .second, .val (.int f1), .val (.int f2raw), .val (.int fl), .val (.long r2), .second, .val (.int f2), .val (.int (own_b (¬ (fl &&& (4 : Int32)) = (0 : Int32)))), .val (.int (own_b (¬ (fl &&& (8 : Int32)) = (0 : Int32)))), .val (.ref b9), .val (.ref b11), .val (.int (own_b (r1 = r2 ∧ f1 = f2 ∧ (own_b (¬ (fl &&& (4 : Int32)) = (0 : Int32))) = (own_b (¬ (fl &&& (8 : Int32)) = (0 : Int32))))))] [(.int (1 : Int32))])) _
    refine XS.goto X20.here hx rfl (pc0 := 161) (pc' := 165) rfl (hb hby at_161) (by decide) (by decide) ?_
    exact k
  exact own_retN X20 hx Bd.notSynchronized (t := .boolean) Bd.returns (by simp) (hb hby at_165) ⟨rfl, N20⟩ (by decide) (by decide)
set_option maxRecDepth 65536 in
set_option maxHeartbeats 40000000 in
theorem comes_1 {Post : Tables → Env → Array Value → State → Outcome → State → Prop} (hpost : ∀ tb e args s v u, (limb_1_1.after args s (.returned v) u = true ∧ limb_1_2.after args s (.returned v) u = true ∧ True) → FrameEnd s (.returned v) u (Jvm.fieldLocs frame_1_writes args s ++ Jvm.arrayLocs frame_1_arrays args s ++ Jvm.staticLocs frame_1_statics s) 16 128 → Post tb e args s (.returned v) u) :
    ArmFor flags0 classFile x code maxLocals ret World_1 tables_1 room_1 Calls_1 rest_1 Pre_1 Post := by
  intro l hfl _ _ p e ha hc hk s m args below hf hA hF happ hP
  obtain ⟨hcalls, hrest, hpre⟩ := hP
  obtain ⟨-, -, -, hnamed, -, -, -, hat⟩ := (Spec.applies_iff hf).mp happ
  obtain ⟨hg, hn⟩ := and_e (Cond.before_iff.mp (show (Jvm.Cond.and given_1 narrow_1).before args s = true from hpre))
  obtain ⟨g1, g2⟩ := and_e hg
  obtain ⟨g3, g4⟩ := and_e g2
  obtain ⟨g5, g6⟩ := and_e g4
  obtain ⟨g7, g8⟩ := and_e g6
  obtain ⟨g9, g10⟩ := and_e g8
  obtain ⟨w0, w1, w2, w3, w4, rfl⟩ : ∃ w0 w1 w2 w3 w4 : Value, args = #[w0, w1, w2, w3, w4] := by
    have hs : args.size = 5 := by simpa [Cond.value, given_1] using g1
    obtain ⟨L⟩ := args
    match L, hs with
    | [w0, w1, w2, w3, w4], _ => exact ⟨w0, w1, w2, w3, w4, rfl⟩
  have hw := fun d (hd : d ∈ tables_1) => atoms_spec (ws := Jvm.Cond.code x code maxLocals ret :: tables_1) hat d (List.mem_cons_of_mem _ hd)
  have hfit : Fit s := fun {y c} hc i hi => by
    obtain ⟨ha, rfl⟩ := Array.getElem?_eq_some_iff.mp hc
    have q := List.all_eq_true.mp ((Array.all_eq_true_iff_forall_mem.mp hF) _ (Array.getElem_mem ha)) i (List.mem_range.mpr hi)
    simpa [Array.getElem?_eq_getElem hi] using q
  obtain ⟨i0, ei0⟩ := isL_v g3
  obtain rfl : w0 = (.long i0) := Option.some.inj ei0
  obtain ⟨i1, ei1⟩ := isL_v g5
  obtain rfl : w1 = (.long i1) := Option.some.inj ei1
  obtain ⟨i2, ei2⟩ := is_v g7
  obtain rfl : w2 = (.int i2) := Option.some.inj ei2
  obtain ⟨i3, ei3⟩ := is_v g9
  obtain rfl : w3 = (.int i3) := Option.some.inj ei3
  obtain ⟨i4, ei4⟩ := is_v g10
  obtain rfl : w4 = (.int i4) := Option.some.inj ei4
  obtain ⟨n, o, h1, h2, h3, _, L, rfl, ⟨rfl, N⟩, hq⟩ := rm0 l s _ hw tables_1 i0 i1 i2 i3 i4  s.heap s.heap.size (Nat.le_refl _)  p e ha hc hk s m _ below hf ((Spec.applies_iff_loose hf).mp happ).1 ⟨rfl, State.Warmed39.refl s, rfl⟩ trivial
  refine ⟨n, _, h1, h2, h3, hpost _ _ _ _ _ _ ⟨Cond.after_iff.mpr rfl, Cond.after_iff.mpr (eq_i res_at (Term.int_eval (1)) rfl), trivial⟩ ⟨hq.1, hq.2.1, (hq.2.2.sift fun y hy => Or.inr (N y hy)).mono (by decide) (by decide)⟩⟩
theorem main_1_1 : Claimed_1_1 := comes_1 fun _ _ _ _ _ _ h hF => ⟨h.1, hF⟩
theorem main_1_2 : Claimed_1_2 := comes_1 fun _ _ _ _ _ _ h hF => ⟨h.2.1, hF⟩
end Jvm.Pilot.@@N@@
namespace Jvm.Pilot.@@N@@
open Jvm Jvm.ClassFile Sem Op Lib Jvm.Free Jvm.Stand Jvm.Pilot.@@N@@.Jvm.D
/-! MADE BY PROGRAM (witnessworld.py) out of the Statement's table words and the real class files: 9 classes; the members and pool entries that the words name. The judged class is class 1, her method 1. -/
namespace start1
open Jvm.ClassFile
def u (s : String) : CpInfo := .utf8 (stringToUtf16 s)
/-- a pool by its gaps: so many unusable entries, then the entry; so many at the end -/
def gap : Nat → List CpInfo → List CpInfo
  | 0, r => r
  | n + 1, r => .unusable :: gap n r
def poolList (es : List (Nat × CpInfo)) (last : Nat) : List CpInfo := es.foldr (fun e r => gap e.1 (e.2 :: r)) (gap last [])
def pool (es : List (Nat × CpInfo)) (last : Nat) : Array CpInfo := ⟨poolList es last⟩
def fileOf (pool : Array CpInfo) (this : Nat) (attrs : Array Attribute := #[]) (ms : Array MethodInfo := #[]) (fl : Nat := 33) (sup : Nat := 0) (ifs : Array Nat := #[]) (fds : Array FieldInfo := #[]) : ClassFile where
  minorVersion := 0
  majorVersion := 65
  constantPool := pool
  accessFlags := fl
  thisClass := this
  superClass := sup
  interfaces := ifs
  fields := fds
  methods := ms
  attributes := attrs
def plain (name : String) (sup : Option ClassId) : Class where
  name := name
  kind := .ordinary
  loader := none
  accessFlags := 33
  super := sup
  interfaces := #[]
  cf := none
  fields := #[]
  methods := #[]
  instanceTypes := #[]
  staticTypes := #[]
  resolved := #[]
  callSites := []
  init := .initialized
  statics := none
  mirror := none

def pool0 : Array CpInfo := pool [(5, u "<init>"), (0, u "()V"), (1, .class_ 10), (1, u "java/lang/Object")] 113

def k0c0 : Code := { maxStack := 0, maxLocals := 1, code := object_method_1_code, exceptionTable := #[], attributes := #[] }
def k0m0 : Method := { name := "<init>", desc := "()V", sig := { parameters := [], returnType := none }, accessFlags := 1, code := some k0c0 }
/-- java/lang/Object -/
def k0 : Class := { plain "java/lang/Object" none with
  accessFlags := 33
  interfaces := #[]
  cf := some (fileOf pool0 8 #[] #[{ accessFlags := 1, nameIndex := 5, descriptorIndex := 6, attributes := #[] }] 33 0 #[] #[])
  fields := #[]
  methods := #[k0m0]
  instanceTypes := #[]
  staticTypes := #[]
  resolved := Array.replicate 124 none
  statics := none }

def pool1 : Array CpInfo := pool [(2, .class_ 4), (1, u "java/lang/Object"), (0, u "<init>"), (0, u "()V"), (0, .class_ 8), (0, u "com/example/lichen/lichen/continuous/Settlement$Outcome"), (0, .methodref 7 10), (0, .nameAndType 5 11), (0, u "(JIZ)V"), (0, .methodref 7 13), (0, .nameAndType 14 15), (0, u "leavesAs"), (0, u "(Lcom/example/lichen/lichen/continuous/Settlement$Outcome;)Z"), (0, .class_ 17), (0, u "com/example/lichen/lichen/continuous/OutcomeLeavesAsPinLaw"), (2, u "law"), (0, u "(JJIII)Z")] 7

def k1m0 : Method := { name := "<init>", desc := "()V", sig := { parameters := [], returnType := none }, accessFlags := 1, code := none }
def k1c1 : Code := { maxStack := 6, maxLocals := 15, code := code, exceptionTable := #[], attributes := #[] }
def k1m1 : Method := { name := "law", desc := "(JJIII)Z", sig := { parameters := [.long, .long, .int, .int, .int], returnType := some .boolean }, accessFlags := 9, code := some k1c1 }
/-- com/example/lichen/lichen/continuous/OutcomeLeavesAsPinLaw -/
def k1 : Class := { plain "com/example/lichen/lichen/continuous/OutcomeLeavesAsPinLaw" (some 0) with
  accessFlags := 49
  interfaces := #[]
  cf := some (fileOf pool1 16 #[] #[{ accessFlags := 1, nameIndex := 5, descriptorIndex := 6, attributes := #[] }, { accessFlags := 9, nameIndex := 20, descriptorIndex := 21, attributes := #[] }] 49 2 #[] #[])
  fields := #[]
  methods := #[k1m0, k1m1]
  instanceTypes := #[]
  staticTypes := #[]
  resolved := Array.replicate 29 none
  statics := none }

def pool2 : Array CpInfo := pool [(1, .methodref 2 3), (0, .class_ 4), (0, .nameAndType 5 6), (0, u "java/lang/Object"), (0, u "<init>"), (0, u "()V"), (0, .fieldref 8 9), (0, .class_ 10), (0, .nameAndType 11 12), (0, u "com/example/lichen/lichen/continuous/Settlement$Outcome"), (0, u "retryAt"), (0, u "J"), (0, .fieldref 8 14), (0, .nameAndType 15 16), (0, u "refusals"), (0, u "I"), (0, .fieldref 8 18), (0, .nameAndType 19 20), (0, u "sent"), (0, u "Z"), (2, u "DELIVERED"), (0, u "Lcom/example/lichen/lichen/continuous/Settlement$Outcome;"), (4, u "(JIZ)V"), (7, u "leavesAs"), (0, u "(Lcom/example/lichen/lichen/continuous/Settlement$Outcome;)Z"), (4, .class_ 44), (0, u "com/example/lichen/lichen/continuous/Settlement")] 2

def k2c0 : Code := { maxStack := 3, maxLocals := 5, code := prog_19_method_1_code, exceptionTable := #[], attributes := #[] }
def k2m0 : Method := { name := "<init>", desc := "(JIZ)V", sig := { parameters := [.long, .int, .boolean], returnType := none }, accessFlags := 0, code := some k2c0 }
def k2c1 : Code := { maxStack := 4, maxLocals := 2, code := prog_19_method_6_code, exceptionTable := #[], attributes := #[] }
def k2m1 : Method := { name := "leavesAs", desc := "(Lcom/example/lichen/lichen/continuous/Settlement$Outcome;)Z", sig := { parameters := [(.object "com/example/lichen/lichen/continuous/Settlement$Outcome")], returnType := some .boolean }, accessFlags := 0, code := some k2c1 }
/-- com/example/lichen/lichen/continuous/Settlement$Outcome -/
def k2 : Class := { plain "com/example/lichen/lichen/continuous/Settlement$Outcome" (some 0) with
  accessFlags := 48
  interfaces := #[]
  cf := some (fileOf pool2 8 #[.nestHost 43] #[{ accessFlags := 0, nameIndex := 5, descriptorIndex := 29, attributes := #[] }, { accessFlags := 0, nameIndex := 37, descriptorIndex := 38, attributes := #[] }] 48 2 #[] #[{ accessFlags := 24, nameIndex := 23, descriptorIndex := 24, attributes := #[] }, { accessFlags := 18, nameIndex := 11, descriptorIndex := 12, attributes := #[] }, { accessFlags := 18, nameIndex := 15, descriptorIndex := 16, attributes := #[] }, { accessFlags := 18, nameIndex := 19, descriptorIndex := 20, attributes := #[] }])
  fields := #[{ name := "DELIVERED", type := (.object "com/example/lichen/lichen/continuous/Settlement$Outcome"), accessFlags := 24, slot := 0, constantValue := 0 }, { name := "retryAt", type := .long, accessFlags := 18, slot := 0, constantValue := 0 }, { name := "refusals", type := .int, accessFlags := 18, slot := 1, constantValue := 0 }, { name := "sent", type := .boolean, accessFlags := 18, slot := 2, constantValue := 0 }]
  methods := #[k2m0, k2m1]
  instanceTypes := #[.long, .int, .boolean]
  staticTypes := #[(.object "com/example/lichen/lichen/continuous/Settlement$Outcome")]
  resolved := Array.replicate 47 none
  statics := none }

def pool3 : Array CpInfo := pool [(1, u "java/lang/Cloneable"), (0, .class_ 1), (0, u "java/lang/Object"), (0, .class_ 3)] 3

/-- java/lang/Cloneable -/
def k3 : Class := { plain "java/lang/Cloneable" (some 0) with
  accessFlags := 1537
  interfaces := #[]
  cf := some (fileOf pool3 2 #[] #[] 1537 4 #[] #[])
  fields := #[]
  methods := #[]
  instanceTypes := #[]
  staticTypes := #[]
  resolved := Array.replicate 8 none
  statics := none }

def pool4 : Array CpInfo := pool [(1, u "java/io/Serializable"), (0, .class_ 1), (0, u "java/lang/Object"), (0, .class_ 3)] 3

/-- java/io/Serializable -/
def k4 : Class := { plain "java/io/Serializable" (some 0) with
  accessFlags := 1537
  interfaces := #[]
  cf := some (fileOf pool4 2 #[] #[] 1537 4 #[] #[])
  fields := #[]
  methods := #[]
  instanceTypes := #[]
  staticTypes := #[]
  resolved := Array.replicate 8 none
  statics := none }

/-- the primitive byte -/
def k5 : Class := { plain "byte" none with kind := .primitive 'B', accessFlags := 0x411 }
/-- [B -/
def k6 : Class := { plain "[B" (some 0) with kind := .array 5 .byte, interfaces := #[3, 4], accessFlags := 1041 }

/-- the primitive int -/
def k7 : Class := { plain "int" none with kind := .primitive 'I', accessFlags := 0x411 }
/-- [I -/
def k8 : Class := { plain "[I" (some 0) with kind := .array 7 .int, interfaces := #[3, 4], accessFlags := 1041 }

def heap : Heap := #[]
def classes : Array Class := #[k0, k1, k2, k3, k4, k5, k6, k7, k8]
def interned : List (Array UInt16 × Addr) := []
def slotsUsed : Nat := 0
def theMethod : MethodId := ⟨1, 1⟩
def args0 : Array Value := #[.long 5, .long 5, .int 5, .int 5, .int 5]
def aboutOver (below : List Frame) : State where
  vm := { classes := classes, interned := interned.toArray }
  heap := heap
  slotsUsed := slotsUsed
  threads := #[{ frames := .invoking theMethod args0 :: below }]
def below0 : List Frame := [.native { method := ⟨0, 0⟩, args := #[] }]
def about1 : State := aboutOver below0
def p0 : Program := .bare "" "" ""
def e0 : Env := launch0.env 0 0 0
theorem w_frames : about1.frames = Frame.invoking theMethod args0 :: below0 := rfl
set_option maxRecDepth 65536 in
theorem w_args : argsFit about1.vm theMethod args0 = true := by decide +kernel
set_option maxRecDepth 65536 in
theorem w_heap : heapFits about1 = true := by decide +kernel
set_option maxRecDepth 65536 in
theorem w_runnable : about1.curStatus? = some .runnable := by decide +kernel
set_option maxRecDepth 65536 in
theorem w_alone : about1.alone = true := by decide +kernel
set_option maxRecDepth 65536 in
theorem w_named : about1.methodNamed? x = some theMethod := by decide +kernel
set_option maxRecDepth 65536 in
theorem w_hears : about1.hears theMethod below0 = true := by decide +kernel
set_option maxRecDepth 65536 in
theorem w_ripe : about1.ripe theMethod args0 below0 = true := by decide +kernel
theorem w_running : about1.status = .running := rfl
set_option maxRecDepth 65536 in
theorem w_room : about1.hasRoom e0.platform room_1 = true :=
  launch0.hasRoom_least _ room_1 (by decide +kernel) (by decide +kernel) (by decide +kernel) (by decide +kernel) (by decide +kernel) (by decide +kernel)
theorem allAtoms_all (ts : List Jvm.Cond) (a : Array Jvm.Value) (st : Jvm.State) : (allAtoms ts).before a st = ts.all (fun c => c.before a st) := by
  induction ts with
  | nil => rfl
  | cons c t ih =>
    show (Jvm.Cond.and c (allAtoms t)).before a st = _
    rw [Jvm.Cond.before_and, ih, List.all_cons]
def words1 : List Jvm.Cond := Jvm.Cond.code x code maxLocals ret :: tables_1
/-- a 'code' word, met by the world's own term for the bytes: nothing is compared byte by byte -/
theorem code_word {y : MethodName} {bytes : ByteArray} {mx : Nat} {rt : Option FieldType} {a : Array Value} {s : State} {m : MethodId} {meth : Method} {c : Code} (h1 : s.methodNamed? y = some m) (h2 : s.vm.method? m = some meth) (h3 : meth.code = some c) (h4 : c.code = bytes)
    (h5 : (c.maxLocals == mx && c.exceptionTable.isEmpty && decide (c.maxStack ≤ mostOperands) && decide (meth.sig.returnType = rt) && !meth.locks && decide (parseMethodDescriptor y.desc = some meth.sig)) = true) : (Jvm.Cond.code y bytes mx rt).before a s = true := by
  simp only [Bool.and_eq_true, beq_iff_eq, Bool.not_eq_true', decide_eq_true_eq] at h5
  obtain ⟨⟨⟨⟨⟨g1, g2⟩, g3⟩, g4⟩, g5⟩, g6⟩ := h5
  simp [Cond.before, Cond.holds, Cond.value, h1, h2, h3, h4, g1, g2, g3, g4, g5, g6]
def isCode : Jvm.Cond → Bool
  | .code _ _ _ _ => true
  | _ => false
theorem all_split {L : List Jvm.Cond} {P : Jvm.Cond → Bool} (h1 : L.all (fun c => isCode c || P c) = true) (h2 : ∀ c ∈ L.filter isCode, P c = true) : L.all P = true := by
  refine List.all_eq_true.mpr fun c hc => ?_
  have h := List.all_eq_true.mp h1 c hc
  rcases Bool.eq_false_or_eq_true (isCode c) with hi | hi
  · exact h2 c (List.mem_filter.mpr ⟨hc, hi⟩)
  · simpa [hi] using h
set_option maxRecDepth 65536 in
theorem w_c0 : (Jvm.Cond.code x code maxLocals ret).before args0 about1 = true := code_word (m := ⟨1, 1⟩) (meth := k1m1) (c := k1c1) (by decide +kernel) rfl rfl rfl (by decide +kernel)
set_option maxRecDepth 65536 in
theorem w_c1 : (Jvm.Cond.code ({ cls := "com/example/lichen/lichen/continuous/Settlement$Outcome", name := "<init>", desc := "(JIZ)V" } : Jvm.MethodName) prog_19_method_1_code (5 : Nat) (Option.none : Option Jvm.ClassFile.FieldType)).before args0 about1 = true := code_word (m := ⟨2, 0⟩) (meth := k2m0) (c := k2c0) (by decide +kernel) rfl rfl rfl (by decide +kernel)
set_option maxRecDepth 65536 in
theorem w_c2 : (Jvm.Cond.code ({ cls := "java/lang/Object", name := "<init>", desc := "()V" } : Jvm.MethodName) object_method_1_code (1 : Nat) (Option.none : Option Jvm.ClassFile.FieldType)).before args0 about1 = true := code_word (m := ⟨0, 0⟩) (meth := k0m0) (c := k0c0) (by decide +kernel) rfl rfl rfl (by decide +kernel)
set_option maxRecDepth 65536 in
theorem w_c3 : (Jvm.Cond.code ({ cls := "com/example/lichen/lichen/continuous/Settlement$Outcome", name := "leavesAs", desc := "(Lcom/example/lichen/lichen/continuous/Settlement$Outcome;)Z" } : Jvm.MethodName) prog_19_method_6_code (2 : Nat) (Option.some Jvm.ClassFile.FieldType.boolean)).before args0 about1 = true := code_word (m := ⟨2, 1⟩) (meth := k2m1) (c := k2c1) (by decide +kernel) rfl rfl rfl (by decide +kernel)
def codes1 : List Jvm.Cond := [Jvm.Cond.code x code maxLocals ret, Jvm.Cond.code ({ cls := "com/example/lichen/lichen/continuous/Settlement$Outcome", name := "<init>", desc := "(JIZ)V" } : Jvm.MethodName) prog_19_method_1_code (5 : Nat) (Option.none : Option Jvm.ClassFile.FieldType), Jvm.Cond.code ({ cls := "java/lang/Object", name := "<init>", desc := "()V" } : Jvm.MethodName) object_method_1_code (1 : Nat) (Option.none : Option Jvm.ClassFile.FieldType), Jvm.Cond.code ({ cls := "com/example/lichen/lichen/continuous/Settlement$Outcome", name := "leavesAs", desc := "(Lcom/example/lichen/lichen/continuous/Settlement$Outcome;)Z" } : Jvm.MethodName) prog_19_method_6_code (2 : Nat) (Option.some Jvm.ClassFile.FieldType.boolean)]
set_option maxRecDepth 65536 in
theorem codes_eq : words1.filter isCode = codes1 := rfl
theorem w_codes : ∀ c ∈ words1.filter isCode, c.before args0 about1 = true := by
  rw [codes_eq]
  intro c hc
  simp only [codes1, List.mem_cons, List.not_mem_nil, or_false] at hc
  rcases hc with rfl | rfl | rfl | rfl
  · exact w_c0
  · exact w_c1
  · exact w_c2
  · exact w_c3
set_option maxRecDepth 65536 in
theorem w_t1 : words1.all (fun c => isCode c || c.before args0 about1) = true := by decide +kernel
theorem w_tables : (allAtoms (Jvm.Cond.code x code maxLocals ret :: tables_1)).before args0 about1 = true := by
  rw [allAtoms_all]
  show words1.all (fun c => c.before args0 about1) = true
  refine all_split ?_ w_codes
  rw [w_t1]
set_option maxRecDepth 65536 in
theorem w_case : (Jvm.Cond.and given_1 narrow_1).before args0 about1 = true := by decide +kernel
theorem w_applies : (headSpec (Jvm.Cond.code x code maxLocals ret :: tables_1) room_1).applies x e0.platform about1 = true :=
  (Spec.applies_iff w_frames).mpr ⟨w_running, w_runnable, w_alone, w_named, w_hears, w_ripe, w_room, w_tables⟩
theorem atStart : AtStart classFile x code maxLocals ret World_1 tables_1 room_1 Calls_1 rest_1 Pre_1 launch0 p0 e0 about1 theMethod args0 below0 :=
  ⟨lists_1, trivial, launch0.admits_env _ _ _, launch0.least_env, fairChoices_fair.cas, fairChoices_fair.clock, w_frames, w_args, w_heap, w_applies, trivial, trivial, w_case⟩
end start1
theorem witness_1 : WitnessClaimed_1 := ⟨start1.p0, start1.e0, start1.about1, start1.theMethod, start1.args0, start1.below0, start1.atStart⟩
end Jvm.Pilot.@@N@@
