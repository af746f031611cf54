import JvmDerived
import JvmDerived.Pilot.@@N@@Statement
import JvmDerived.Pilot.@@N@@Code
set_option linter.unusedVariables false
set_option linter.unusedSimpArgs false
namespace Jvm.RoadKit
open Sem ClassFile Op Lib Jvm.Stand Jvm.Free Jvm.LawKit
section New
variable {p : Program} {l : Launch} {e : Env} {R : Room} {s : State} {m : MethodId} {args : Array Value} {below : List Frame} {meth : Method} {c : Code} {T : State} {locs : List Loc} {cells slots : Nat}
theorem retI (X : Stand p l e R s m args below meth c T locs cells slots) (hx : p.tables.exec = Jvm.exec) {pc : Nat} {Ls : Array Slot} {z : Int32} {rest : List Value} (hret : meth.sig.returnType = some .int) (hd : decode c.code pc = .ok (.ireturn, 1)) {fs : List Frame}
    (hl : ∀ (f : JFrame) (acts : List Action), f.method = m → f.locked = none → f.entered = [] → (doReturn e (T.setTop f) acts (some (.int z))).1 = T.setFrames fs) : Steps p.tables e below (T.setTop (mkF m pc Ls (.int z :: rest))) (T.setFrames fs) := by
  have hm' : T.vm.method? m = some meth := X.method'
  have hn : narrow .int (.int z) = .int z := rfl
  show Steps p.tables e below (T.setTop { method := m, pc := pc, locals := Ls, stack := _ :: rest, locked := none }) _
  jvm_step X.here [X.here.top, hx, hd, hm', hret, hn]
  first | (intro acts; rw [hl _ acts rfl rfl rfl]) | rw [hl _ _ rfl rfl rfl]
  exact Steps.refl _
end New
end Jvm.RoadKit
namespace Jvm.Pilot.@@N@@
open Jvm Jvm.ClassFile Sem Op Lib Jvm.Free Jvm.Stand Jvm.LawKit Jvm.RoadKit Bundle Jvm.Pilot.@@N@@.Jvm.D
section OwnGo
variable {p : Program} {l : Launch} {e : Env} {R : Room} {s : State} {m : MethodId} {args : Array Value} {below : List Frame} {meth : Method} {c : Code} {T : State} {locs : List Loc} {cells slots : Nat}
/-- what a body owes from the state A on: the run comes to an end of the invocation with Q, within C cells and S slots -/
def own_Go (p : Program) (e : Env) (below : List Frame) (s : State) (Q : Option Value → Heap → List Loc → Prop) (C S : Nat) (A : State) : Prop :=
  ∃ s₂ o, Steps p.tables e below A s₂ ∧ s₂.status = .running ∧ Ended s₂ below o ∧ ∃ v L, o = .returned v ∧ Q v s₂.heap L ∧ FrameEnd s o s₂ L C S
variable {Q : Option Value → Heap → List Loc → Prop} {C S : Nat} {A B : State}
theorem own_step (h : ∀ t, Steps p.tables e below B t → Steps p.tables e below A t) (k : own_Go p e below s Q C S B) : own_Go p e below s Q C S A := by
  obtain ⟨s₂, o, h1, h2⟩ := k; exact ⟨s₂, o, h _ h1, h2⟩
theorem own_via (h : Steps p.tables e below A B) (k : own_Go p e below s Q C S B) : own_Go p e below s Q C S A := own_step (fun _ q => h.trans q) k
theorem own_retN (X : Stand p l e R s m args below meth c T locs cells slots) (hx : p.tables.exec = Jvm.exec) (hlocks : meth.locks = false) {pc : Nat} {Ls : Array Slot} {z : Int32} {t : FieldType} {rest : List Value} (hret : meth.sig.returnType = some t) (ht : t = .boolean ∨ t = .byte ∨ t = .char ∨ t = .short)
    (hd : decode c.code pc = .ok (.ireturn, 1)) (hq : Q (some (.int (nar t z))) T.heap locs) (hC : cells ≤ C) (hS : slots ≤ S) : own_Go p e below s Q C S (T.setTop (mkF m pc Ls (.int z :: rest))) := by
  obtain ⟨fs, hr, hrun, hended, hW, hsame⟩ := X.leave (v := some (.int (nar t z))) (fun h => by rw [hret] at h; cases h) hlocks
  exact ⟨_, _, retN X hx hret ht hd hr, hrun, hended, _, _, rfl, hq, ⟨_, rfl⟩, hW, hsame.mono hC hS⟩
theorem own_retI (X : Stand p l e R s m args below meth c T locs cells slots) (hx : p.tables.exec = Jvm.exec) (hlocks : meth.locks = false) {pc : Nat} {Ls : Array Slot} {z : Int32} {rest : List Value} (hret : meth.sig.returnType = some .int)
    (hd : decode c.code pc = .ok (.ireturn, 1)) (hq : Q (some (.int z)) T.heap locs) (hC : cells ≤ C) (hS : slots ≤ S) : own_Go p e below s Q C S (T.setTop (mkF m pc Ls (.int z :: rest))) := by
  obtain ⟨fs, hr, hrun, hended, hW, hsame⟩ := X.leave (v := some (.int z)) (fun h => by rw [hret] at h; cases h) hlocks
  exact ⟨_, _, retI X hx hret hd hr, hrun, hended, _, _, rfl, hq, ⟨_, rfl⟩, hW, hsame.mono hC hS⟩
theorem own_retJ (X : Stand p l e R s m args below meth c T locs cells slots) (hx : p.tables.exec = Jvm.exec) (hlocks : meth.locks = false) {pc : Nat} {Ls : Array Slot} {z : Int64} {rest : List Value} (hret : meth.sig.returnType = some .long)
    (hd : decode c.code pc = .ok (.lreturn, 1)) (hq : Q (some (.long z)) T.heap locs) (hC : cells ≤ C) (hS : slots ≤ S) : own_Go p e below s Q C S (T.setTop (mkF m pc Ls (.long z :: rest))) := by
  obtain ⟨fs, hr, hrun, hended, hW, hsame⟩ := X.leave (v := some (.long z)) (fun h => by rw [hret] at h; cases h) hlocks
  refine ⟨_, _, ?_, hrun, hended, _, _, rfl, hq, ⟨_, rfl⟩, hW, hsame.mono hC hS⟩
  have hm' : T.vm.method? m = some meth := X.method'
  show Steps p.tables e below (T.setTop { method := m, pc := pc, locals := Ls, stack := _ :: rest, locked := none }) _
  jvm_step X.here [X.here.top, hx, hd, hm', hret, narrow]
  first | (intro acts; rw [hr _ acts rfl rfl rfl]) | rw [hr _ _ rfl rfl rfl]
  exact Steps.refl _
theorem own_retV (X : Stand p l e R s m args below meth c T locs cells slots) (hx : p.tables.exec = Jvm.exec) (hlocks : meth.locks = false) {pc : Nat} {Ls : Array Slot} (hret : meth.sig.returnType = none)
    (hd : decode c.code pc = .ok (.return_, 1)) (hq : Q none T.heap locs) (hC : cells ≤ C) (hS : slots ≤ S) : own_Go p e below s Q C S (T.setTop (mkF m pc Ls [])) := by
  obtain ⟨fs, hr, hrun, hended, hW, hsame⟩ := X.leave (v := none) (fun _ => rfl) hlocks
  exact ⟨_, _, X.returnOut hx hret hd hr, hrun, hended, _, _, rfl, hq, ⟨_, rfl⟩, hW, hsame.mono hC hS⟩
theorem own_retR (X : Stand p l e R s m args below meth c T locs cells slots) (hx : p.tables.exec = Jvm.exec) (hlocks : meth.locks = false) {pc : Nat} {Ls : Array Slot} {v : Value} {t : FieldType} {rest : List Value} (hret : meth.sig.returnType = some t) (hv : v.isRef = true) (ht : t.isReference = true)
    (hd : decode c.code pc = .ok (.areturn, 1)) (hq : Q (some v) T.heap locs) (hC : cells ≤ C) (hS : slots ≤ S) : own_Go p e below s Q C S (T.setTop (mkF m pc Ls (v :: rest))) := by
  obtain ⟨fs, hr, hrun, hended, hW, hsame⟩ := X.leave (v := some v) (fun h => by rw [hret] at h; cases h) hlocks
  refine ⟨_, _, ?_, hrun, hended, _, _, rfl, hq, ⟨_, rfl⟩, hW, hsame.mono hC hS⟩
  have hm' : T.vm.method? m = some meth := X.method'
  show Steps p.tables e below (T.setTop { method := m, pc := pc, locals := Ls, stack := _ :: rest, locked := none }) _
  jvm_step X.here [X.here.top, hx, hd, hm', hret, hv, ht]
  first | (intro acts; rw [hr _ acts rfl rfl rfl]) | rw [hr _ _ rfl rfl rfl]
  exact Steps.refl _
theorem own_staKeep {Z : State} {h h' : Heap} {ws : List Addr} {C n d : String} {v : Value} (F : Sta Z h C n d v) (K : Keep h h' ws) (q : ∀ x ∈ ws, ∀ cell : Cell, h[x]? = some cell → cell.vm.isStatics = false) : Sta Z h' C n d v := by
  obtain ⟨cf, i, k, f, st, cell, h1, h2, h3, h4, h5, h6, h7⟩ := F
  exact ⟨cf, i, k, f, st, cell, h1, h2, h3, h4, K.2.1 st cell h5 (fun m => by have := q st m cell h5; rw [h6] at this; cases this), h6, h7⟩
/-- the same under the wide frame (a String constant may have been loaded) -/
def own_GoW (p : Program) (e : Env) (below : List Frame) (s : State) (Q : Option Value → Heap → List Loc → Prop) (C S : Nat) (A : State) : Prop :=
  ∃ s₂ o, Steps p.tables e below A s₂ ∧ s₂.status = .running ∧ Ended s₂ below o ∧ ∃ v L, o = .returned v ∧ Q v s₂.heap L ∧ ReturnedEndW s o s₂ L C S
theorem own_stepW (h : ∀ t, Steps p.tables e below B t → Steps p.tables e below A t) (k : own_GoW p e below s Q C S B) : own_GoW p e below s Q C S A := by
  obtain ⟨s₂, o, h1, h2⟩ := k; exact ⟨s₂, o, h _ h1, h2⟩
theorem own_viaW (h : Steps p.tables e below A B) (k : own_GoW p e below s Q C S B) : own_GoW p e below s Q C S A := own_stepW (fun _ q => h.trans q) k
theorem own_retNW {vm1 : Vm} {n : Nat} (X : Stand p l e R (s.setVm vm1) m args below meth c T locs cells slots) (hS : s.Since vm1 n) (hn : n ≤ T.heap.size) (hx : p.tables.exec = Jvm.exec) (hlocks : meth.locks = false) {pc : Nat} {Ls : Array Slot} {z : Int32} {t : FieldType} {rest : List Value} (hret : meth.sig.returnType = some t) (ht : t = .boolean ∨ t = .byte ∨ t = .char ∨ t = .short)
    (hd : decode c.code pc = .ok (.ireturn, 1)) (hq : Q (some (.int (nar t z))) T.heap locs) (hC : cells ≤ C) (hS' : slots ≤ S) : own_GoW p e below s Q C S (T.setTop (mkF m pc Ls (.int z :: rest))) := by
  obtain ⟨fs, hr, hrun, hended, h1, h2, h3, h4⟩ := X.leaveW hS hn (v := some (.int (nar t z))) (fun h => by rw [hret] at h; cases h) hlocks
  exact ⟨_, _, retN X hx hret ht hd hr, hrun, hended, _, _, rfl, hq, h1, h2, h3, h4.mono hC hS'⟩
theorem own_retVW {vm1 : Vm} {n : Nat} (X : Stand p l e R (s.setVm vm1) m args below meth c T locs cells slots) (hS : s.Since vm1 n) (hn : n ≤ T.heap.size) (hx : p.tables.exec = Jvm.exec) (hlocks : meth.locks = false) {pc : Nat} {Ls : Array Slot} (hret : meth.sig.returnType = none)
    (hd : decode c.code pc = .ok (.return_, 1)) (hq : Q none T.heap locs) (hC : cells ≤ C) (hS' : slots ≤ S) : own_GoW p e below s Q C S (T.setTop (mkF m pc Ls [])) := by
  obtain ⟨fs, hr, hrun, hended, h1, h2, h3, h4⟩ := X.leaveW hS hn (v := none) (fun _ => rfl) hlocks
  exact ⟨_, _, X.returnOut hx hret hd hr, hrun, hended, _, _, rfl, hq, h1, h2, h3, h4.mono hC hS'⟩
end OwnGo

def own_b (p : Prop) [Decidable p] : Int32 := if p then 1 else 0
theorem own_bt {p : Prop} [Decidable p] (h : p) : own_b p = 1 := if_pos h
theorem own_bf {p : Prop} [Decidable p] (h : ¬ p) : own_b p = 0 := if_neg h
theorem own_bn (p : Prop) [Decidable p] : narrow .boolean (.int (own_b p)) = .int (own_b p) := by unfold own_b; split <;> rfl
theorem own_bfit (p : Prop) [Decidable p] : fits .boolean (.int (own_b p)) = true := by unfold own_b; split <;> rfl
theorem own_iff {p q : Prop} [Decidable p] [Decidable q] (h : p ↔ q) : own_b p = own_b q := by unfold own_b; simp only [h]
theorem d4_0 : decode prog_14_method_1_code 0 = .ok (.aload_n 0, 1) := by decide +kernel
theorem d4_1 : decode prog_14_method_1_code 1 = .ok (.invokespecial 1, 3) := by decide +kernel
theorem d4_4 : decode prog_14_method_1_code 4 = .ok (.aload_n 0, 1) := by decide +kernel
theorem d4_5 : decode prog_14_method_1_code 5 = .ok (.lload_n 1, 1) := by decide +kernel
theorem d4_6 : decode prog_14_method_1_code 6 = .ok (.putfield 7, 3) := by decide +kernel
theorem d4_9 : decode prog_14_method_1_code 9 = .ok (.aload_n 0, 1) := by decide +kernel
theorem d4_10 : decode prog_14_method_1_code 10 = .ok (.lload_n 3, 1) := by decide +kernel
theorem d4_11 : decode prog_14_method_1_code 11 = .ok (.putfield 13, 3) := by decide +kernel
theorem d4_14 : decode prog_14_method_1_code 14 = .ok (.return_, 1) := by decide +kernel
theorem pd_0 : parseMethodDescriptor "()V" = some ⟨[], none⟩ := by decide +kernel
theorem pn_1 : plainName "com/example/lichen/lichen/bucket/Slice" = true := by first | (simp [plainName, overriddenIn]; done) | decide +kernel
theorem ef_4 (m : MethodId) (a1 : Addr) (q2 : Int64) (q3 : Int64) : entryFrame m #[(.ref a1), (.long q2), (.long q3)] 5 = mkF m 0 #[.val (.ref a1), .val (.long q2), .second, .val (.long q3), .second] [] := by first | (simp [entryFrame, mkF, argsToLocals, Value.category]; done) | rfl
def Q4 (Z : State) (a1 : Addr) (q2 : Int64) (q3 : Int64) (u0 : Value) (u1 : Value) (h0 : Heap) (n0 : Nat) (v : Option Value) (h : Heap) (L : List Loc) : Prop := v = none ∧ Fr n0 L ∧ Keep h0 h [a1] ∧ Exa Z h a1 "com/example/lichen/lichen/bucket/Slice" ∧ Fld Z h a1 "com/example/lichen/lichen/bucket/Slice" "bucketStart" "J" (.long q2) ∧ Fld Z h a1 "com/example/lichen/lichen/bucket/Slice" "millis" "J" (.long q3)
set_option maxRecDepth 65536 in
set_option maxHeartbeats 40000000 in
theorem rm4 (l : Launch) (Z : State) (a0 : Array Value) (hw : ∀ d ∈ tables_1, d.before a0 Z = true) (ws : List Jvm.Cond) (a1 : Addr) (q2 : Int64) (q3 : Int64) (u0 : Value) (u1 : Value) (h0 : Heap) (n0 : Nat) (Z0 : n0 ≤ h0.size) (E_a1 : Exa Z h0 a1 "com/example/lichen/lichen/bucket/Slice") (F_0 : Fld Z h0 a1 "com/example/lichen/lichen/bucket/Slice" "bucketStart" "J" u0) (F_1 : Fld Z h0 a1 "com/example/lichen/lichen/bucket/Slice" "millis" "J" u1) (g_a1 : n0 ≤ a1) :
    MetFree l (⟨"com/example/lichen/lichen/bucket/Slice", "<init>", "(JJ)V"⟩ : MethodName) (head1 (Jvm.Cond.code (⟨"com/example/lichen/lichen/bucket/Slice", "<init>", "(JJ)V"⟩ : MethodName) prog_14_method_1_code 5 none :: ws) ({ frames := 1, cells := 0, slots := 0, locals := 12 } : Room)) (fun a U => a = #[(.ref a1), (.long q2), (.long q3)] ∧ Z.Warmed39 U.vm ∧ U.heap = h0) (fun _ _ _ _ _ => True) (fun _ U o U' => ∃ v L, o = .returned v ∧ Q4 Z a1 q2 q3 u0 u1 h0 n0 v U'.heap L ∧ FrameEnd U o U' L ({ frames := 1, cells := 0, slots := 0, locals := 12 } : Room).cells ({ frames := 1, cells := 0, slots := 0, locals := 12 } : Room).slots) := by
  refine MetFree.of_bodySF (plainFor_of_name pn_1) hisR ?_
  intro p e s m args below meth c s₁ Bd hml0 hP hK
  obtain ⟨rfl, hZ, hh⟩ := hP
  have hx := Bd.exec
  have hby := Bd.bytes
  have hml : c.maxLocals = 5 := hml0
  have hown : s.vm.findClass "com/example/lichen/lichen/bucket/Slice" = some m.cls := findClass_of_methodNamed Bd.named
  have hnm := (name_of_methodNamed Bd.named Bd.method).1
  have X0 : Stand p l e ({ frames := 1, cells := 0, slots := 0, locals := 12 } : Room) s m #[(.ref a1), (.long q2), (.long q3)] below meth c s₁ [] 0 0 := Stand.of_body Bd
  have e0 : s₁.heap = h0 := by rw [← hh, Bd.state]; rfl
  have N0 := Fr.nil n0
  skip
  show own_Go p e below s (Q4 Z a1 q2 q3 u0 u1 h0 n0) ({ frames := 1, cells := 0, slots := 0, locals := 12 } : Room).cells ({ frames := 1, cells := 0, slots := 0, locals := 12 } : Room).slots _
  refine own_step (B := s₁.setTop (mkF m 0 #[.val (.ref a1), .val (.long q2), .second, .val (.long q3), .second] [])) (fun t k => castTop (ef_4 m a1 q2 q3) k) ?_
  have KK0 : Keep h0 h0 [a1] := Keep.refl h0 _
  refine own_step (B := s₁.setTop (mkF m 1 #[.val (.ref a1), .val (.long q2), .second, .val (.long q3), .second] [(.ref a1)])) (fun t k => ?_) ?_
  · show Steps p.tables e below (s₁.setTop (mkF m 0 #[.val (.ref a1), .val (.long q2), .second, .val (.long q3), .second] [])) _
    refine XS.aloadN X0.here hx rfl (hb hby d4_0) rfl rfl ?_
    exact k
  obtain ⟨T1, X1, e1, st1⟩ := initO X0 hx hZ hown (hw _ (List.mem_of_getElem? (i := 29) rfl)) (hw _ (List.mem_of_getElem? (i := 7) rfl)) (hw _ (List.mem_of_getElem? (i := 8) rfl)) e0 (g := (mkF m 1 #[.val (.ref a1), .val (.long q2), .second, .val (.long q3), .second] [(.ref a1)])) rfl (by rw [hml]; rfl) rfl (hb hby d4_1) (by decide) (W := 0) (by show 2 * 0 + _ ≤ _; exact Nat.le_of_eq rfl) (by decide)
  refine own_step st1 ?_
  show own_Go p e below s _ _ _ (T1.setTop (mkF m 4 #[.val (.ref a1), .val (.long q2), .second, .val (.long q3), .second] []))
  refine own_step (B := T1.setTop (mkF m 6 #[.val (.ref a1), .val (.long q2), .second, .val (.long q3), .second] [(.long q2), (.ref a1)])) (fun t k => ?_) ?_
  · show Steps p.tables e below (T1.setTop (mkF m 4 #[.val (.ref a1), .val (.long q2), .second, .val (.long q3), .second] [])) _
    refine XS.aloadN X1.here hx rfl (hb hby d4_4) rfl rfl ?_
    show Steps p.tables e below (T1.setTop (mkF m 5 #[.val (.ref a1), .val (.long q2), .second, .val (.long q3), .second] [(.ref a1)])) _
    refine XS.lloadN X1.here hx rfl (hb hby d4_5) rfl ?_
    exact k
  obtain ⟨T2, h2, X2, e2, W2, st2⟩ := putF X1 hx hZ hown (host := "") (Or.inl (hw _ (List.mem_of_getElem? (i := 30) rfl))) Via.refl e1 F_0 E_a1 (Or.inr ⟨(hw _ (List.mem_of_getElem? (i := 31) rfl)), rfl, hnm⟩) (hw _ (List.mem_of_getElem? (i := 24) rfl)) (ty := .long) (by decide) rfl rfl (g := (mkF m 6 #[.val (.ref a1), .val (.long q2), .second, .val (.long q3), .second] [(.long q2), (.ref a1)])) rfl rfl (hb hby d4_6)
  have Fw2 := F_0.same W2
  have K2 : Keep h0 h2 [a1] := KK0.wr W2 (Or.inl (by simp))
  have N2 := Fr.snoc X2 N0 g_a1
  refine own_step st2 ?_
  show own_Go p e below s _ _ _ (T2.setTop (mkF m 9 #[.val (.ref a1), .val (.long q2), .second, .val (.long q3), .second] []))
  refine own_step (B := T2.setTop (mkF m 11 #[.val (.ref a1), .val (.long q2), .second, .val (.long q3), .second] [(.long q3), (.ref a1)])) (fun t k => ?_) ?_
  · show Steps p.tables e below (T2.setTop (mkF m 9 #[.val (.ref a1), .val (.long q2), .second, .val (.long q3), .second] [])) _
    refine XS.aloadN X2.here hx rfl (hb hby d4_9) rfl rfl ?_
    show Steps p.tables e below (T2.setTop (mkF m 10 #[.val (.ref a1), .val (.long q2), .second, .val (.long q3), .second] [(.ref a1)])) _
    refine XS.lloadN X2.here hx rfl (hb hby d4_10) rfl ?_
    exact k
  obtain ⟨T3, h3, X3, e3, W3, st3⟩ := putF X2 hx hZ hown (host := "") (Or.inl (hw _ (List.mem_of_getElem? (i := 32) rfl))) Via.refl e2 (F_1.other W2 (Or.inr (slot_ne (Or.inr (hw _ (List.mem_of_getElem? (i := 33) rfl))) (Or.inr (hw _ (List.mem_of_getElem? (i := 31) rfl))) (by decide) (t := .long) (t' := .long) (by decide) (by decide)))) (E_a1.wr W2) (Or.inr ⟨(hw _ (List.mem_of_getElem? (i := 33) rfl)), rfl, hnm⟩) (hw _ (List.mem_of_getElem? (i := 24) rfl)) (ty := .long) (by decide) rfl rfl (g := (mkF m 11 #[.val (.ref a1), .val (.long q2), .second, .val (.long q3), .second] [(.long q3), (.ref a1)])) rfl rfl (hb hby d4_11)
  have Fw3 := (F_1.other W2 (Or.inr (slot_ne (Or.inr (hw _ (List.mem_of_getElem? (i := 33) rfl))) (Or.inr (hw _ (List.mem_of_getElem? (i := 31) rfl))) (by decide) (t := .long) (t' := .long) (by decide) (by decide)))).same W3
  have K3 : Keep h0 h3 [a1] := K2.wr W3 (Or.inl (by simp))
  have N3 := Fr.snoc X3 N2 g_a1
  refine own_step st3 ?_
  show own_Go p e below s _ _ _ (T3.setTop (mkF m 14 #[.val (.ref a1), .val (.long q2), .second, .val (.long q3), .second] []))
  exact own_retV X3 hx Bd.notSynchronized Bd.returns (hb hby d4_14) ⟨rfl, N3, by rw [e3]; exact K3, by rw [e3]; exact ((E_a1.wr W2).wr W3), by rw [e3]; exact (Fw2.other W3 (Or.inr (slot_ne (Or.inr (hw _ (List.mem_of_getElem? (i := 31) rfl))) (Or.inr (hw _ (List.mem_of_getElem? (i := 33) rfl))) (by decide) (t := .long) (t' := .long) (by decide) (by decide)))), by rw [e3]; exact Fw3⟩ (by decide) (by decide)
theorem d14_0 : decode prog_18_method_1_code 0 = .ok (.aload_n 0, 1) := by decide +kernel
theorem d14_1 : decode prog_18_method_1_code 1 = .ok (.invokespecial 1, 3) := by decide +kernel
theorem d14_4 : decode prog_18_method_1_code 4 = .ok (.aload_n 0, 1) := by decide +kernel
theorem d14_5 : decode prog_18_method_1_code 5 = .ok (.lload_n 1, 1) := by decide +kernel
theorem d14_6 : decode prog_18_method_1_code 6 = .ok (.putfield 7, 3) := by decide +kernel
theorem d14_9 : decode prog_18_method_1_code 9 = .ok (.aload_n 0, 1) := by decide +kernel
theorem d14_10 : decode prog_18_method_1_code 10 = .ok (.iload_n 3, 1) := by decide +kernel
theorem d14_11 : decode prog_18_method_1_code 11 = .ok (.putfield 13, 3) := by decide +kernel
theorem d14_14 : decode prog_18_method_1_code 14 = .ok (.aload_n 0, 1) := by decide +kernel
theorem d14_15 : decode prog_18_method_1_code 15 = .ok (.iload 4, 2) := by decide +kernel
theorem d14_17 : decode prog_18_method_1_code 17 = .ok (.putfield 17, 3) := by decide +kernel
theorem d14_20 : decode prog_18_method_1_code 20 = .ok (.return_, 1) := by decide +kernel
theorem pn_2 : plainName "com/example/lichen/lichen/continuous/Settlement$Outcome" = true := by first | (simp [plainName, overriddenIn]; done) | decide +kernel
theorem ef_14 (m : MethodId) (a1 : Addr) (q2 : Int64) (p3 : Int32) (p4 : Int32) : entryFrame m #[(.ref a1), (.long q2), (.int p3), (.int p4)] 5 = mkF m 0 #[.val (.ref a1), .val (.long q2), .second, .val (.int p3), .val (.int p4)] [] := by first | (simp [entryFrame, mkF, argsToLocals, Value.category]; done) | rfl
def Q14 (Z : State) (a1 : Addr) (q2 : Int64) (p3 : Int32) (p4 : Int32) (u0 : Value) (u1 : Value) (u2 : Value) (h0 : Heap) (n0 : Nat) (v : Option Value) (h : Heap) (L : List Loc) : Prop := v = none ∧ Fr n0 L ∧ Keep h0 h [a1] ∧ Exa Z h a1 "com/example/lichen/lichen/continuous/Settlement$Outcome" ∧ Fld Z h a1 "com/example/lichen/lichen/continuous/Settlement$Outcome" "retryAt" "J" (.long q2) ∧ Fld Z h a1 "com/example/lichen/lichen/continuous/Settlement$Outcome" "refusals" "I" (.int p3) ∧ Fld Z h a1 "com/example/lichen/lichen/continuous/Settlement$Outcome" "sent" "Z" (.int p4)
set_option maxRecDepth 65536 in
set_option maxHeartbeats 40000000 in
theorem rm14 (l : Launch) (Z : State) (a0 : Array Value) (hw : ∀ d ∈ tables_1, d.before a0 Z = true) (ws : List Jvm.Cond) (a1 : Addr) (q2 : Int64) (p3 : Int32) (p4 : Int32) (u0 : Value) (u1 : Value) (u2 : Value) (h0 : Heap) (n0 : Nat) (Z0 : n0 ≤ h0.size) (E_a1 : Exa Z h0 a1 "com/example/lichen/lichen/continuous/Settlement$Outcome") (F_0 : Fld Z h0 a1 "com/example/lichen/lichen/continuous/Settlement$Outcome" "retryAt" "J" u0) (F_1 : Fld Z h0 a1 "com/example/lichen/lichen/continuous/Settlement$Outcome" "refusals" "I" u1) (F_2 : Fld Z h0 a1 "com/example/lichen/lichen/continuous/Settlement$Outcome" "sent" "Z" u2) (g_a1 : n0 ≤ a1) (hn_p4 : narrow .boolean (.int p4) = .int p4) (hf_p4 : fits .boolean (.int p4) = true) :
    MetFree l (⟨"com/example/lichen/lichen/continuous/Settlement$Outcome", "<init>", "(JIZ)V"⟩ : MethodName) (head1 (Jvm.Cond.code (⟨"com/example/lichen/lichen/continuous/Settlement$Outcome", "<init>", "(JIZ)V"⟩ : MethodName) prog_18_method_1_code 5 none :: ws) ({ frames := 1, cells := 0, slots := 0, locals := 12 } : Room)) (fun a U => a = #[(.ref a1), (.long q2), (.int p3), (.int p4)] ∧ Z.Warmed39 U.vm ∧ U.heap = h0) (fun _ _ _ _ _ => True) (fun _ U o U' => ∃ v L, o = .returned v ∧ Q14 Z a1 q2 p3 p4 u0 u1 u2 h0 n0 v U'.heap L ∧ FrameEnd U o U' L ({ frames := 1, cells := 0, slots := 0, locals := 12 } : Room).cells ({ frames := 1, cells := 0, slots := 0, locals := 12 } : Room).slots) := by
  refine MetFree.of_bodySF (plainFor_of_name pn_2) hisR ?_
  intro p e s m args below meth c s₁ Bd hml0 hP hK
  obtain ⟨rfl, hZ, hh⟩ := hP
  have hx := Bd.exec
  have hby := Bd.bytes
  have hml : c.maxLocals = 5 := hml0
  have hown : s.vm.findClass "com/example/lichen/lichen/continuous/Settlement$Outcome" = some m.cls := findClass_of_methodNamed Bd.named
  have hnm := (name_of_methodNamed Bd.named Bd.method).1
  have X0 : Stand p l e ({ frames := 1, cells := 0, slots := 0, locals := 12 } : Room) s m #[(.ref a1), (.long q2), (.int p3), (.int p4)] below meth c s₁ [] 0 0 := Stand.of_body Bd
  have e0 : s₁.heap = h0 := by rw [← hh, Bd.state]; rfl
  have N0 := Fr.nil n0
  skip
  show own_Go p e below s (Q14 Z a1 q2 p3 p4 u0 u1 u2 h0 n0) ({ frames := 1, cells := 0, slots := 0, locals := 12 } : Room).cells ({ frames := 1, cells := 0, slots := 0, locals := 12 } : Room).slots _
  refine own_step (B := s₁.setTop (mkF m 0 #[.val (.ref a1), .val (.long q2), .second, .val (.int p3), .val (.int p4)] [])) (fun t k => castTop (ef_14 m a1 q2 p3 p4) k) ?_
  have KK0 : Keep h0 h0 [a1] := Keep.refl h0 _
  refine own_step (B := s₁.setTop (mkF m 1 #[.val (.ref a1), .val (.long q2), .second, .val (.int p3), .val (.int p4)] [(.ref a1)])) (fun t k => ?_) ?_
  · show Steps p.tables e below (s₁.setTop (mkF m 0 #[.val (.ref a1), .val (.long q2), .second, .val (.int p3), .val (.int p4)] [])) _
    refine XS.aloadN X0.here hx rfl (hb hby d14_0) rfl rfl ?_
    exact k
  obtain ⟨T1, X1, e1, st1⟩ := initO X0 hx hZ hown (hw _ (List.mem_of_getElem? (i := 126) rfl)) (hw _ (List.mem_of_getElem? (i := 7) rfl)) (hw _ (List.mem_of_getElem? (i := 8) rfl)) e0 (g := (mkF m 1 #[.val (.ref a1), .val (.long q2), .second, .val (.int p3), .val (.int p4)] [(.ref a1)])) rfl (by rw [hml]; rfl) rfl (hb hby d14_1) (by decide) (W := 0) (by show 2 * 0 + _ ≤ _; exact Nat.le_of_eq rfl) (by decide)
  refine own_step st1 ?_
  show own_Go p e below s _ _ _ (T1.setTop (mkF m 4 #[.val (.ref a1), .val (.long q2), .second, .val (.int p3), .val (.int p4)] []))
  refine own_step (B := T1.setTop (mkF m 6 #[.val (.ref a1), .val (.long q2), .second, .val (.int p3), .val (.int p4)] [(.long q2), (.ref a1)])) (fun t k => ?_) ?_
  · show Steps p.tables e below (T1.setTop (mkF m 4 #[.val (.ref a1), .val (.long q2), .second, .val (.int p3), .val (.int p4)] [])) _
    refine XS.aloadN X1.here hx rfl (hb hby d14_4) rfl rfl ?_
    show Steps p.tables e below (T1.setTop (mkF m 5 #[.val (.ref a1), .val (.long q2), .second, .val (.int p3), .val (.int p4)] [(.ref a1)])) _
    refine XS.lloadN X1.here hx rfl (hb hby d14_5) rfl ?_
    exact k
  obtain ⟨T2, h2, X2, e2, W2, st2⟩ := putF X1 hx hZ hown (host := "") (Or.inl (hw _ (List.mem_of_getElem? (i := 127) rfl))) Via.refl e1 F_0 E_a1 (Or.inr ⟨(hw _ (List.mem_of_getElem? (i := 128) rfl)), rfl, hnm⟩) (hw _ (List.mem_of_getElem? (i := 121) rfl)) (ty := .long) (by decide) rfl rfl (g := (mkF m 6 #[.val (.ref a1), .val (.long q2), .second, .val (.int p3), .val (.int p4)] [(.long q2), (.ref a1)])) rfl rfl (hb hby d14_6)
  have Fw2 := F_0.same W2
  have K2 : Keep h0 h2 [a1] := KK0.wr W2 (Or.inl (by simp))
  have N2 := Fr.snoc X2 N0 g_a1
  refine own_step st2 ?_
  show own_Go p e below s _ _ _ (T2.setTop (mkF m 9 #[.val (.ref a1), .val (.long q2), .second, .val (.int p3), .val (.int p4)] []))
  refine own_step (B := T2.setTop (mkF m 11 #[.val (.ref a1), .val (.long q2), .second, .val (.int p3), .val (.int p4)] [(.int p3), (.ref a1)])) (fun t k => ?_) ?_
  · show Steps p.tables e below (T2.setTop (mkF m 9 #[.val (.ref a1), .val (.long q2), .second, .val (.int p3), .val (.int p4)] [])) _
    refine XS.aloadN X2.here hx rfl (hb hby d14_9) rfl rfl ?_
    show Steps p.tables e below (T2.setTop (mkF m 10 #[.val (.ref a1), .val (.long q2), .second, .val (.int p3), .val (.int p4)] [(.ref a1)])) _
    refine XS.iloadN X2.here hx rfl (hb hby d14_10) rfl ?_
    exact k
  obtain ⟨T3, h3, X3, e3, W3, st3⟩ := putF X2 hx hZ hown (host := "") (Or.inl (hw _ (List.mem_of_getElem? (i := 129) rfl))) Via.refl e2 (F_1.other W2 (Or.inr (slot_ne (Or.inr (hw _ (List.mem_of_getElem? (i := 130) rfl))) (Or.inr (hw _ (List.mem_of_getElem? (i := 128) rfl))) (by decide) (t := .int) (t' := .long) (by decide) (by decide)))) (E_a1.wr W2) (Or.inr ⟨(hw _ (List.mem_of_getElem? (i := 130) rfl)), rfl, hnm⟩) (hw _ (List.mem_of_getElem? (i := 121) rfl)) (ty := .int) (by decide) rfl rfl (g := (mkF m 11 #[.val (.ref a1), .val (.long q2), .second, .val (.int p3), .val (.int p4)] [(.int p3), (.ref a1)])) rfl rfl (hb hby d14_11)
  have Fw3 := (F_1.other W2 (Or.inr (slot_ne (Or.inr (hw _ (List.mem_of_getElem? (i := 130) rfl))) (Or.inr (hw _ (List.mem_of_getElem? (i := 128) rfl))) (by decide) (t := .int) (t' := .long) (by decide) (by decide)))).same W3
  have K3 : Keep h0 h3 [a1] := K2.wr W3 (Or.inl (by simp))
  have N3 := Fr.snoc X3 N2 g_a1
  refine own_step st3 ?_
  show own_Go p e below s _ _ _ (T3.setTop (mkF m 14 #[.val (.ref a1), .val (.long q2), .second, .val (.int p3), .val (.int p4)] []))
  refine own_step (B := T3.setTop (mkF m 17 #[.val (.ref a1), .val (.long q2), .second, .val (.int p3), .val (.int p4)] [(.int p4), (.ref a1)])) (fun t k => ?_) ?_
  · show Steps p.tables e below (T3.setTop (mkF m 14 #[.val (.ref a1), .val (.long q2), .second, .val (.int p3), .val (.int p4)] [])) _
    refine XS.aloadN X3.here hx rfl (hb hby d14_14) rfl rfl ?_
    show Steps p.tables e below (T3.setTop (mkF m 15 #[.val (.ref a1), .val (.long q2), .second, .val (.int p3), .val (.int p4)] [(.ref a1)])) _
    refine XS.iload X3.here hx rfl (hb hby d14_15) rfl ?_
    exact k
  obtain ⟨T4, h4, X4, e4, W4, st4⟩ := putFN X3 hx hZ hown (hw _ (List.mem_of_getElem? (i := 131) rfl)) Via.refl e3 ((F_2.other W2 (Or.inr (slot_ne (Or.inr (hw _ (List.mem_of_getElem? (i := 132) rfl))) (Or.inr (hw _ (List.mem_of_getElem? (i := 128) rfl))) (by decide) (t := .boolean) (t' := .long) (by decide) (by decide)))).other W3 (Or.inr (slot_ne (Or.inr (hw _ (List.mem_of_getElem? (i := 132) rfl))) (Or.inr (hw _ (List.mem_of_getElem? (i := 130) rfl))) (by decide) (t := .boolean) (t' := .int) (by decide) (by decide)))) ((E_a1.wr W2).wr W3) (Or.inr ⟨(hw _ (List.mem_of_getElem? (i := 132) rfl)), rfl, hnm⟩) (hw _ (List.mem_of_getElem? (i := 121) rfl)) (ty := .boolean) (v' := (.int p4)) (by decide) hn_p4 hf_p4 (g := (mkF m 17 #[.val (.ref a1), .val (.long q2), .second, .val (.int p3), .val (.int p4)] [(.int p4), (.ref a1)])) rfl rfl (hb hby d14_17)
  have Fw4 := ((F_2.other W2 (Or.inr (slot_ne (Or.inr (hw _ (List.mem_of_getElem? (i := 132) rfl))) (Or.inr (hw _ (List.mem_of_getElem? (i := 128) rfl))) (by decide) (t := .boolean) (t' := .long) (by decide) (by decide)))).other W3 (Or.inr (slot_ne (Or.inr (hw _ (List.mem_of_getElem? (i := 132) rfl))) (Or.inr (hw _ (List.mem_of_getElem? (i := 130) rfl))) (by decide) (t := .boolean) (t' := .int) (by decide) (by decide)))).same W4
  have K4 : Keep h0 h4 [a1] := K3.wr W4 (Or.inl (by simp))
  have N4 := Fr.snoc X4 N3 g_a1
  refine own_step st4 ?_
  show own_Go p e below s _ _ _ (T4.setTop (mkF m 20 #[.val (.ref a1), .val (.long q2), .second, .val (.int p3), .val (.int p4)] []))
  exact own_retV X4 hx Bd.notSynchronized Bd.returns (hb hby d14_20) ⟨rfl, N4, by rw [e4]; exact K4, by rw [e4]; exact (((E_a1.wr W2).wr W3).wr W4), by rw [e4]; exact ((Fw2.other W3 (Or.inr (slot_ne (Or.inr (hw _ (List.mem_of_getElem? (i := 128) rfl))) (Or.inr (hw _ (List.mem_of_getElem? (i := 130) rfl))) (by decide) (t := .long) (t' := .int) (by decide) (by decide)))).other W4 (Or.inr (slot_ne (Or.inr (hw _ (List.mem_of_getElem? (i := 128) rfl))) (Or.inr (hw _ (List.mem_of_getElem? (i := 132) rfl))) (by decide) (t := .long) (t' := .boolean) (by decide) (by decide)))), by rw [e4]; exact (Fw3.other W4 (Or.inr (slot_ne (Or.inr (hw _ (List.mem_of_getElem? (i := 130) rfl))) (Or.inr (hw _ (List.mem_of_getElem? (i := 132) rfl))) (by decide) (t := .int) (t' := .boolean) (by decide) (by decide)))), by rw [e4]; exact Fw4⟩ (by decide) (by decide)
theorem d3_0 : decode jdk_29_method_61_code 0 = .ok (.lload_n 0, 1) := by decide +kernel
theorem d3_1 : decode jdk_29_method_61_code 1 = .ok (.lconst 0, 1) := by decide +kernel
theorem d3_2 : decode jdk_29_method_61_code 2 = .ok (.lcmp, 1) := by decide +kernel
theorem d3_3 : decode jdk_29_method_61_code 3 = .ok (.ifCond .ge 8, 3) := by decide +kernel
theorem d3_6 : decode jdk_29_method_61_code 6 = .ok (.lload_n 0, 1) := by decide +kernel
theorem d3_7 : decode jdk_29_method_61_code 7 = .ok (.lneg, 1) := by decide +kernel
theorem d3_8 : decode jdk_29_method_61_code 8 = .ok (.goto 4, 3) := by decide +kernel
theorem d3_11 : decode jdk_29_method_61_code 11 = .ok (.lload_n 0, 1) := by decide +kernel
theorem d3_12 : decode jdk_29_method_61_code 12 = .ok (.lreturn, 1) := by decide +kernel
theorem ef_3 (m : MethodId) (q1 : Int64) : entryFrame m #[(.long q1)] 2 = mkF m 0 #[.val (.long q1), .second] [] := by first | (simp [entryFrame, mkF, argsToLocals, Value.category]; done) | rfl
def Q3 (Z : State) (q1 : Int64)  (h0 : Heap) (n0 : Nat) (v : Option Value) (h : Heap) (L : List Loc) : Prop := v = some (.long (if q1 < (0 : Int64) then -q1 else q1)) ∧ Fr n0 L ∧ h = h0
set_option maxRecDepth 65536 in
set_option maxHeartbeats 40000000 in
theorem rm3 (l : Launch) (Z : State) (a0 : Array Value) (hw : ∀ d ∈ tables_1, d.before a0 Z = true) (ws : List Jvm.Cond) (q1 : Int64)  (h0 : Heap) (n0 : Nat) (Z0 : n0 ≤ h0.size) :
    MetFree l (⟨"java/lang/Math", "abs", "(J)J"⟩ : MethodName) (head1 (Jvm.Cond.code (⟨"java/lang/Math", "abs", "(J)J"⟩ : MethodName) jdk_29_method_61_code 2 (some .long) :: ws) ({ frames := 0, cells := 0, slots := 0, locals := 0 } : Room)) (fun a U => a = #[(.long q1)] ∧ Z.Warmed39 U.vm ∧ U.heap = h0) (fun _ _ _ _ _ => True) (fun _ U o U' => ∃ v L, o = .returned v ∧ Q3 Z q1  h0 n0 v U'.heap L ∧ FrameEnd U o U' L ({ frames := 0, cells := 0, slots := 0, locals := 0 } : Room).cells ({ frames := 0, cells := 0, slots := 0, locals := 0 } : Room).slots) := by
  refine MetFree.of_bodySF (Jvm.Free.JP.mathPlain rfl (by decide +kernel)) hisR ?_
  intro p e s m args below meth c s₁ Bd hml0 hP hK
  obtain ⟨rfl, hZ, hh⟩ := hP
  have hx := Bd.exec
  have hby := Bd.bytes
  have hml : c.maxLocals = 2 := hml0
  have hown : s.vm.findClass "java/lang/Math" = some m.cls := findClass_of_methodNamed Bd.named
  have hnm := (name_of_methodNamed Bd.named Bd.method).1
  have X0 : Stand p l e ({ frames := 0, cells := 0, slots := 0, locals := 0 } : Room) s m #[(.long q1)] below meth c s₁ [] 0 0 := Stand.of_body Bd
  have e0 : s₁.heap = h0 := by rw [← hh, Bd.state]; rfl
  have N0 := Fr.nil n0
  skip
  show own_Go p e below s (Q3 Z q1  h0 n0) ({ frames := 0, cells := 0, slots := 0, locals := 0 } : Room).cells ({ frames := 0, cells := 0, slots := 0, locals := 0 } : Room).slots _
  refine own_step (B := s₁.setTop (mkF m 0 #[.val (.long q1), .second] [])) (fun t k => castTop (ef_3 m q1) k) ?_
  refine own_step (B := s₁.setTop (mkF m 3 #[.val (.long q1), .second] [(.int (lcmpW q1 (0 : Int64)))])) (fun t k => ?_) ?_
  · show Steps p.tables e below (s₁.setTop (mkF m 0 #[.val (.long q1), .second] [])) _
    refine XS.lloadN X0.here hx rfl (hb hby d3_0) rfl ?_
    show Steps p.tables e below (s₁.setTop (mkF m 1 #[.val (.long q1), .second] [(.long q1)])) _
    refine XS.lconst X0.here hx rfl (hb hby d3_1) ?_
    show Steps p.tables e below (s₁.setTop (mkF m 2 #[.val (.long q1), .second] [(.long (0 : Int64)), (.long q1)])) _
    refine XS.lcmp X0.here hx rfl (hb hby d3_2) rfl ?_
    exact k
  by_cases hc3 : q1 < (0 : Int64)
  · refine own_step (B := s₁.setTop (mkF m 12 #[.val (.long q1), .second] [(.long (-q1))])) (fun t k => ?_) ?_
    · show Steps p.tables e below (s₁.setTop (mkF m 3 #[.val (.long q1), .second] [(.int (lcmpW q1 (0 : Int64)))])) _
      refine XS.ifNo X0.here hx rfl (hb hby d3_3) rfl ((if0 _ _).trans (tlt ((lw_lt _ _).mpr hc3)).2.1) ?_
      show Steps p.tables e below (s₁.setTop (mkF m 6 #[.val (.long q1), .second] [])) _
      refine XS.lloadN X0.here hx rfl (hb hby d3_6) rfl ?_
      show Steps p.tables e below (s₁.setTop (mkF m 7 #[.val (.long q1), .second] [(.long q1)])) _
      refine XS.lneg X0.here hx rfl (hb hby d3_7) rfl ?_
      show Steps p.tables e below (s₁.setTop (mkF m 8 #[.val (.long q1), .second] [(.long (-q1))])) _
      refine XS.goto X0.here hx rfl (pc0 := 8) (pc' := 12) rfl (hb hby d3_8) (by decide) (by decide) ?_
      exact k
    exact own_retJ X0 hx Bd.notSynchronized Bd.returns (hb hby d3_12) ⟨by simp [hc3], N0, e0⟩ (by decide) (by decide)
  · refine own_step (B := s₁.setTop (mkF m 12 #[.val (.long q1), .second] [(.long q1)])) (fun t k => ?_) ?_
    · show Steps p.tables e below (s₁.setTop (mkF m 3 #[.val (.long q1), .second] [(.int (lcmpW q1 (0 : Int64)))])) _
      refine XS.ifYes X0.here hx rfl (pc0 := 3) (pc' := 11) rfl (hb hby d3_3) rfl ((if0 _ _).trans (flt (fun q => hc3 ((lw_lt _ _).mp q))).2.1) (by decide) (by decide) ?_
      show Steps p.tables e below (s₁.setTop (mkF m 11 #[.val (.long q1), .second] [])) _
      refine XS.lloadN X0.here hx rfl (hb hby d3_11) rfl ?_
      exact k
    exact own_retJ X0 hx Bd.notSynchronized Bd.returns (hb hby d3_12) ⟨by simp [hc3], N0, e0⟩ (by decide) (by decide)
theorem d10_0 : decode jdk_31_method_10_code 0 = .ok (.aload_n 0, 1) := by decide +kernel
theorem d10_1 : decode jdk_31_method_10_code 1 = .ok (.ifnonnull 11, 3) := by decide +kernel
theorem d10_4 : decode jdk_31_method_10_code 4 = .ok (.new 84, 3) := by decide +kernel
theorem d10_7 : decode jdk_31_method_10_code 7 = .ok (.dup, 1) := by decide +kernel
theorem d10_8 : decode jdk_31_method_10_code 8 = .ok (.invokespecial 86, 3) := by decide +kernel
theorem d10_11 : decode jdk_31_method_10_code 11 = .ok (.athrow, 1) := by decide +kernel
theorem d10_12 : decode jdk_31_method_10_code 12 = .ok (.aload_n 0, 1) := by decide +kernel
theorem d10_13 : decode jdk_31_method_10_code 13 = .ok (.areturn, 1) := by decide +kernel
theorem pn_3 : plainName "java/util/Objects" = true := by first | (simp [plainName, overriddenIn]; done) | decide +kernel
theorem ef_10 (m : MethodId) (a1 : Addr) : entryFrame m #[(.ref a1)] 1 = mkF m 0 #[.val (.ref a1)] [] := by first | (simp [entryFrame, mkF, argsToLocals, Value.category]; done) | rfl
def Q10 (Z : State) (a1 : Addr)  (h0 : Heap) (n0 : Nat) (v : Option Value) (h : Heap) (L : List Loc) : Prop := v = some (.ref a1) ∧ Fr n0 L ∧ h = h0
set_option maxRecDepth 65536 in
set_option maxHeartbeats 40000000 in
theorem rm10 (l : Launch) (Z : State) (a0 : Array Value) (hw : ∀ d ∈ tables_1, d.before a0 Z = true) (ws : List Jvm.Cond) (a1 : Addr)  (h0 : Heap) (n0 : Nat) (Z0 : n0 ≤ h0.size) :
    MetFree l (⟨"java/util/Objects", "requireNonNull", "(Ljava/lang/Object;)Ljava/lang/Object;"⟩ : MethodName) (head1 (Jvm.Cond.code (⟨"java/util/Objects", "requireNonNull", "(Ljava/lang/Object;)Ljava/lang/Object;"⟩ : MethodName) jdk_31_method_10_code 1 (some (.object "java/lang/Object")) :: ws) ({ frames := 0, cells := 0, slots := 0, locals := 0 } : Room)) (fun a U => a = #[(.ref a1)] ∧ Z.Warmed39 U.vm ∧ U.heap = h0) (fun _ _ _ _ _ => True) (fun _ U o U' => ∃ v L, o = .returned v ∧ Q10 Z a1  h0 n0 v U'.heap L ∧ FrameEnd U o U' L ({ frames := 0, cells := 0, slots := 0, locals := 0 } : Room).cells ({ frames := 0, cells := 0, slots := 0, locals := 0 } : Room).slots) := by
  refine MetFree.of_bodySF (plainFor_of_name pn_3) hisR ?_
  intro p e s m args below meth c s₁ Bd hml0 hP hK
  obtain ⟨rfl, hZ, hh⟩ := hP
  have hx := Bd.exec
  have hby := Bd.bytes
  have hml : c.maxLocals = 1 := hml0
  have hown : s.vm.findClass "java/util/Objects" = some m.cls := findClass_of_methodNamed Bd.named
  have hnm := (name_of_methodNamed Bd.named Bd.method).1
  have X0 : Stand p l e ({ frames := 0, cells := 0, slots := 0, locals := 0 } : Room) s m #[(.ref a1)] below meth c s₁ [] 0 0 := Stand.of_body Bd
  have e0 : s₁.heap = h0 := by rw [← hh, Bd.state]; rfl
  have N0 := Fr.nil n0
  skip
  show own_Go p e below s (Q10 Z a1  h0 n0) ({ frames := 0, cells := 0, slots := 0, locals := 0 } : Room).cells ({ frames := 0, cells := 0, slots := 0, locals := 0 } : Room).slots _
  refine own_step (B := s₁.setTop (mkF m 0 #[.val (.ref a1)] [])) (fun t k => castTop (ef_10 m a1) k) ?_
  refine own_step (B := s₁.setTop (mkF m 13 #[.val (.ref a1)] [(.ref a1)])) (fun t k => ?_) ?_
  · show Steps p.tables e below (s₁.setTop (mkF m 0 #[.val (.ref a1)] [])) _
    refine XS.aloadN X0.here hx rfl (hb hby d10_0) rfl rfl ?_
    show Steps p.tables e below (s₁.setTop (mkF m 1 #[.val (.ref a1)] [(.ref a1)])) _
    refine XS.ifnonnullYes X0.here hx rfl (pc0 := 1) (pc' := 12) rfl (hb hby d10_1) rfl (by decide) (by decide) ?_
    show Steps p.tables e below (s₁.setTop (mkF m 12 #[.val (.ref a1)] [])) _
    refine XS.aloadN X0.here hx rfl (hb hby d10_12) rfl rfl ?_
    exact k
  exact own_retR X0 hx Bd.notSynchronized Bd.returns rfl rfl (hb hby d10_13) ⟨rfl, N0, e0⟩ (by decide) (by decide)
theorem d7_0 : decode jdk_46_method_1_code 0 = .ok (.aload_n 0, 1) := by decide +kernel
theorem d7_1 : decode jdk_46_method_1_code 1 = .ok (.invokespecial 1, 3) := by decide +kernel
theorem d7_4 : decode jdk_46_method_1_code 4 = .ok (.return_, 1) := by decide +kernel
theorem pn_4 : plainName "java/util/ImmutableCollections$AbstractImmutableList" = true := by first | (simp [plainName, overriddenIn]; done) | decide +kernel
theorem d8_0 : decode jdk_47_method_1_code 0 = .ok (.aload_n 0, 1) := by decide +kernel
theorem d8_1 : decode jdk_47_method_1_code 1 = .ok (.invokespecial 1, 3) := by decide +kernel
theorem d8_4 : decode jdk_47_method_1_code 4 = .ok (.return_, 1) := by decide +kernel
theorem pn_5 : plainName "java/util/ImmutableCollections$AbstractImmutableCollection" = true := by first | (simp [plainName, overriddenIn]; done) | decide +kernel
theorem d9_0 : decode jdk_22_method_1_code 0 = .ok (.aload_n 0, 1) := by decide +kernel
theorem d9_1 : decode jdk_22_method_1_code 1 = .ok (.invokespecial 1, 3) := by decide +kernel
theorem d9_4 : decode jdk_22_method_1_code 4 = .ok (.return_, 1) := by decide +kernel
theorem pn_6 : plainName "java/util/AbstractCollection" = true := by first | (simp [plainName, overriddenIn]; done) | decide +kernel
theorem ef_9 (m : MethodId) (a1 : Addr) : entryFrame m #[(.ref a1)] 1 = mkF m 0 #[.val (.ref a1)] [] := by first | (simp [entryFrame, mkF, argsToLocals, Value.category]; done) | rfl
def Q9 (Z : State) (a1 : Addr)  (h0 : Heap) (n0 : Nat) (v : Option Value) (h : Heap) (L : List Loc) : Prop := v = none ∧ Fr n0 L ∧ h = h0
set_option maxRecDepth 65536 in
set_option maxHeartbeats 40000000 in
theorem rm9 (l : Launch) (Z : State) (a0 : Array Value) (hw : ∀ d ∈ tables_1, d.before a0 Z = true) (ws : List Jvm.Cond) (a1 : Addr)  (h0 : Heap) (n0 : Nat) (Z0 : n0 ≤ h0.size) :
    MetFree l (⟨"java/util/AbstractCollection", "<init>", "()V"⟩ : MethodName) (head1 (Jvm.Cond.code (⟨"java/util/AbstractCollection", "<init>", "()V"⟩ : MethodName) jdk_22_method_1_code 1 none :: ws) ({ frames := 1, cells := 0, slots := 0, locals := 12 } : Room)) (fun a U => a = #[(.ref a1)] ∧ Z.Warmed39 U.vm ∧ U.heap = h0) (fun _ _ _ _ _ => True) (fun _ U o U' => ∃ v L, o = .returned v ∧ Q9 Z a1  h0 n0 v U'.heap L ∧ FrameEnd U o U' L ({ frames := 1, cells := 0, slots := 0, locals := 12 } : Room).cells ({ frames := 1, cells := 0, slots := 0, locals := 12 } : Room).slots) := by
  refine MetFree.of_bodySF (plainFor_of_name pn_6) hisR ?_
  intro p e s m args below meth c s₁ Bd hml0 hP hK
  obtain ⟨rfl, hZ, hh⟩ := hP
  have hx := Bd.exec
  have hby := Bd.bytes
  have hml : c.maxLocals = 1 := hml0
  have hown : s.vm.findClass "java/util/AbstractCollection" = some m.cls := findClass_of_methodNamed Bd.named
  have hnm := (name_of_methodNamed Bd.named Bd.method).1
  have X0 : Stand p l e ({ frames := 1, cells := 0, slots := 0, locals := 12 } : Room) s m #[(.ref a1)] below meth c s₁ [] 0 0 := Stand.of_body Bd
  have e0 : s₁.heap = h0 := by rw [← hh, Bd.state]; rfl
  have N0 := Fr.nil n0
  skip
  show own_Go p e below s (Q9 Z a1  h0 n0) ({ frames := 1, cells := 0, slots := 0, locals := 12 } : Room).cells ({ frames := 1, cells := 0, slots := 0, locals := 12 } : Room).slots _
  refine own_step (B := s₁.setTop (mkF m 0 #[.val (.ref a1)] [])) (fun t k => castTop (ef_9 m a1) k) ?_
  refine own_step (B := s₁.setTop (mkF m 1 #[.val (.ref a1)] [(.ref a1)])) (fun t k => ?_) ?_
  · show Steps p.tables e below (s₁.setTop (mkF m 0 #[.val (.ref a1)] [])) _
    refine XS.aloadN X0.here hx rfl (hb hby d9_0) rfl rfl ?_
    exact k
  obtain ⟨T1, X1, e1, st1⟩ := initO X0 hx hZ hown (hw _ (List.mem_of_getElem? (i := 63) rfl)) (hw _ (List.mem_of_getElem? (i := 7) rfl)) (hw _ (List.mem_of_getElem? (i := 8) rfl)) e0 (g := (mkF m 1 #[.val (.ref a1)] [(.ref a1)])) rfl (by rw [hml]; rfl) rfl (hb hby d9_1) (by decide) (W := 0) (by show 2 * 0 + _ ≤ _; exact Nat.le_of_eq rfl) (by decide)
  refine own_step st1 ?_
  show own_Go p e below s _ _ _ (T1.setTop (mkF m 4 #[.val (.ref a1)] []))
  exact own_retV X1 hx Bd.notSynchronized Bd.returns (hb hby d9_4) ⟨rfl, N0, e1⟩ (by decide) (by decide)
theorem ef_8 (m : MethodId) (a1 : Addr) : entryFrame m #[(.ref a1)] 1 = mkF m 0 #[.val (.ref a1)] [] := by first | (simp [entryFrame, mkF, argsToLocals, Value.category]; done) | rfl
def Q8 (Z : State) (a1 : Addr)  (h0 : Heap) (n0 : Nat) (v : Option Value) (h : Heap) (L : List Loc) : Prop := v = none ∧ Fr n0 L ∧ h = h0
set_option maxRecDepth 65536 in
set_option maxHeartbeats 40000000 in
theorem rm8 (l : Launch) (Z : State) (a0 : Array Value) (hw : ∀ d ∈ tables_1, d.before a0 Z = true) (ws : List Jvm.Cond) (a1 : Addr)  (h0 : Heap) (n0 : Nat) (Z0 : n0 ≤ h0.size) :
    MetFree l (⟨"java/util/ImmutableCollections$AbstractImmutableCollection", "<init>", "()V"⟩ : MethodName) (head1 (Jvm.Cond.code (⟨"java/util/ImmutableCollections$AbstractImmutableCollection", "<init>", "()V"⟩ : MethodName) jdk_47_method_1_code 1 none :: ws) ({ frames := 2, cells := 0, slots := 0, locals := 24 } : Room)) (fun a U => a = #[(.ref a1)] ∧ Z.Warmed39 U.vm ∧ U.heap = h0) (fun _ _ _ _ _ => True) (fun _ U o U' => ∃ v L, o = .returned v ∧ Q8 Z a1  h0 n0 v U'.heap L ∧ FrameEnd U o U' L ({ frames := 2, cells := 0, slots := 0, locals := 24 } : Room).cells ({ frames := 2, cells := 0, slots := 0, locals := 24 } : Room).slots) := by
  refine MetFree.of_bodySF (plainFor_of_name pn_5) hisR ?_
  intro p e s m args below meth c s₁ Bd hml0 hP hK
  obtain ⟨rfl, hZ, hh⟩ := hP
  have hx := Bd.exec
  have hby := Bd.bytes
  have hml : c.maxLocals = 1 := hml0
  have hown : s.vm.findClass "java/util/ImmutableCollections$AbstractImmutableCollection" = some m.cls := findClass_of_methodNamed Bd.named
  have hnm := (name_of_methodNamed Bd.named Bd.method).1
  have X0 : Stand p l e ({ frames := 2, cells := 0, slots := 0, locals := 24 } : Room) s m #[(.ref a1)] below meth c s₁ [] 0 0 := Stand.of_body Bd
  have e0 : s₁.heap = h0 := by rw [← hh, Bd.state]; rfl
  have N0 := Fr.nil n0
  skip
  show own_Go p e below s (Q8 Z a1  h0 n0) ({ frames := 2, cells := 0, slots := 0, locals := 24 } : Room).cells ({ frames := 2, cells := 0, slots := 0, locals := 24 } : Room).slots _
  refine own_step (B := s₁.setTop (mkF m 0 #[.val (.ref a1)] [])) (fun t k => castTop (ef_8 m a1) k) ?_
  refine own_step (B := s₁.setTop (mkF m 1 #[.val (.ref a1)] [(.ref a1)])) (fun t k => ?_) ?_
  · show Steps p.tables e below (s₁.setTop (mkF m 0 #[.val (.ref a1)] [])) _
    refine XS.aloadN X0.here hx rfl (hb hby d8_0) rfl rfl ?_
    exact k
  obtain ⟨_, _, ⟨T1, L1, k1, n1⟩, -, X1, ⟨Lc1, hQ1, l1, y1, z1⟩, st1⟩ := X0.specialBack hx (y := (⟨"java/util/AbstractCollection", "<init>", "()V"⟩ : MethodName)) rfl hown (mvT hZ (hw _ (List.mem_of_getElem? (i := 57) rfl))) (mvT hZ (hw _ (List.mem_of_getElem? (i := 58) rfl))) (mvT hZ (hw _ (List.mem_of_getElem? (i := 62) rfl))) (by decide) (backOf (W := 0) (rm9 l Z a0 hw [] a1  h0 n0 Z0 ) hZ (hw _ (List.mem_of_getElem? (i := 62) rfl)) (hw _ (List.mem_of_getElem? (i := 61) rfl)) (by decide) (by decide)) (g := (mkF m 1 #[.val (.ref a1)] [(.ref a1)])) rfl (by rw [hml]; rfl) (Steps.refl _) (a := a1) (argsL := []) (rest := []) (lenOf pd_0 rfl) rfl (by show 2 * 0 + _ ≤ _; exact Nat.le_of_eq rfl) (hb hby d8_1) (fun _ _ => ⟨rfl, e0, (by decide : 0 + 0 ≤ _), (by decide : 0 + 0 ≤ _)⟩)
  dsimp only [Pt.U, Pt.locs, Pt.cells, Pt.slots] at X1 l1 y1 z1 st1 hQ1
  subst l1 y1 z1
  obtain ⟨rfl, N1q, e1⟩ := hQ1
  have N1 := Fr.app N0 N1q
  refine own_via st1 ?_
  show own_Go p e below s _ _ _ (T1.setTop (mkF m 4 #[.val (.ref a1)] []))
  exact own_retV X1 hx Bd.notSynchronized Bd.returns (hb hby d8_4) ⟨rfl, N1, e1⟩ (by decide) (by decide)
theorem ef_7 (m : MethodId) (a1 : Addr) : entryFrame m #[(.ref a1)] 1 = mkF m 0 #[.val (.ref a1)] [] := by first | (simp [entryFrame, mkF, argsToLocals, Value.category]; done) | rfl
def Q7 (Z : State) (a1 : Addr)  (h0 : Heap) (n0 : Nat) (v : Option Value) (h : Heap) (L : List Loc) : Prop := v = none ∧ Fr n0 L ∧ h = h0
set_option maxRecDepth 65536 in
set_option maxHeartbeats 40000000 in
theorem rm7 (l : Launch) (Z : State) (a0 : Array Value) (hw : ∀ d ∈ tables_1, d.before a0 Z = true) (ws : List Jvm.Cond) (a1 : Addr)  (h0 : Heap) (n0 : Nat) (Z0 : n0 ≤ h0.size) :
    MetFree l (⟨"java/util/ImmutableCollections$AbstractImmutableList", "<init>", "()V"⟩ : MethodName) (head1 (Jvm.Cond.code (⟨"java/util/ImmutableCollections$AbstractImmutableList", "<init>", "()V"⟩ : MethodName) jdk_46_method_1_code 1 none :: ws) ({ frames := 3, cells := 0, slots := 0, locals := 36 } : Room)) (fun a U => a = #[(.ref a1)] ∧ Z.Warmed39 U.vm ∧ U.heap = h0) (fun _ _ _ _ _ => True) (fun _ U o U' => ∃ v L, o = .returned v ∧ Q7 Z a1  h0 n0 v U'.heap L ∧ FrameEnd U o U' L ({ frames := 3, cells := 0, slots := 0, locals := 36 } : Room).cells ({ frames := 3, cells := 0, slots := 0, locals := 36 } : Room).slots) := by
  refine MetFree.of_bodySF (plainFor_of_name pn_4) hisR ?_
  intro p e s m args below meth c s₁ Bd hml0 hP hK
  obtain ⟨rfl, hZ, hh⟩ := hP
  have hx := Bd.exec
  have hby := Bd.bytes
  have hml : c.maxLocals = 1 := hml0
  have hown : s.vm.findClass "java/util/ImmutableCollections$AbstractImmutableList" = some m.cls := findClass_of_methodNamed Bd.named
  have hnm := (name_of_methodNamed Bd.named Bd.method).1
  have X0 : Stand p l e ({ frames := 3, cells := 0, slots := 0, locals := 36 } : Room) s m #[(.ref a1)] below meth c s₁ [] 0 0 := Stand.of_body Bd
  have e0 : s₁.heap = h0 := by rw [← hh, Bd.state]; rfl
  have N0 := Fr.nil n0
  skip
  show own_Go p e below s (Q7 Z a1  h0 n0) ({ frames := 3, cells := 0, slots := 0, locals := 36 } : Room).cells ({ frames := 3, cells := 0, slots := 0, locals := 36 } : Room).slots _
  refine own_step (B := s₁.setTop (mkF m 0 #[.val (.ref a1)] [])) (fun t k => castTop (ef_7 m a1) k) ?_
  refine own_step (B := s₁.setTop (mkF m 1 #[.val (.ref a1)] [(.ref a1)])) (fun t k => ?_) ?_
  · show Steps p.tables e below (s₁.setTop (mkF m 0 #[.val (.ref a1)] [])) _
    refine XS.aloadN X0.here hx rfl (hb hby d7_0) rfl rfl ?_
    exact k
  obtain ⟨_, _, ⟨T1, L1, k1, n1⟩, -, X1, ⟨Lc1, hQ1, l1, y1, z1⟩, st1⟩ := X0.specialBack hx (y := (⟨"java/util/ImmutableCollections$AbstractImmutableCollection", "<init>", "()V"⟩ : MethodName)) rfl hown (mvT hZ (hw _ (List.mem_of_getElem? (i := 51) rfl))) (mvT hZ (hw _ (List.mem_of_getElem? (i := 52) rfl))) (mvT hZ (hw _ (List.mem_of_getElem? (i := 56) rfl))) (by decide) (backOf (W := 0) (rm8 l Z a0 hw [] a1  h0 n0 Z0 ) hZ (hw _ (List.mem_of_getElem? (i := 56) rfl)) (hw _ (List.mem_of_getElem? (i := 55) rfl)) (by decide) (by decide)) (g := (mkF m 1 #[.val (.ref a1)] [(.ref a1)])) rfl (by rw [hml]; rfl) (Steps.refl _) (a := a1) (argsL := []) (rest := []) (lenOf pd_0 rfl) rfl (by show 2 * 0 + _ ≤ _; exact Nat.le_of_eq rfl) (hb hby d7_1) (fun _ _ => ⟨rfl, e0, (by decide : 0 + 0 ≤ _), (by decide : 0 + 0 ≤ _)⟩)
  dsimp only [Pt.U, Pt.locs, Pt.cells, Pt.slots] at X1 l1 y1 z1 st1 hQ1
  subst l1 y1 z1
  obtain ⟨rfl, N1q, e1⟩ := hQ1
  have N1 := Fr.app N0 N1q
  refine own_via st1 ?_
  show own_Go p e below s _ _ _ (T1.setTop (mkF m 4 #[.val (.ref a1)] []))
  exact own_retV X1 hx Bd.notSynchronized Bd.returns (hb hby d7_4) ⟨rfl, N1, e1⟩ (by decide) (by decide)
theorem d6_0 : decode jdk_44_method_1_code 0 = .ok (.aload_n 0, 1) := by decide +kernel
theorem d6_1 : decode jdk_44_method_1_code 1 = .ok (.invokespecial 1, 3) := by decide +kernel
theorem d6_4 : decode jdk_44_method_1_code 4 = .ok (.aload_n 0, 1) := by decide +kernel
theorem d6_5 : decode jdk_44_method_1_code 5 = .ok (.aload_n 1, 1) := by decide +kernel
theorem d6_6 : decode jdk_44_method_1_code 6 = .ok (.invokestatic 7, 3) := by decide +kernel
theorem d6_9 : decode jdk_44_method_1_code 9 = .ok (.putfield 13, 3) := by decide +kernel
theorem d6_12 : decode jdk_44_method_1_code 12 = .ok (.aload_n 0, 1) := by decide +kernel
theorem d6_13 : decode jdk_44_method_1_code 13 = .ok (.getstatic 19, 3) := by decide +kernel
theorem d6_16 : decode jdk_44_method_1_code 16 = .ok (.putfield 24, 3) := by decide +kernel
theorem d6_19 : decode jdk_44_method_1_code 19 = .ok (.return_, 1) := by decide +kernel
theorem pd_7 : parseMethodDescriptor "(Ljava/lang/Object;)Ljava/lang/Object;" = some ⟨[(.object "java/lang/Object")], some (.object "java/lang/Object")⟩ := by decide +kernel
theorem pn_8 : plainName "java/util/ImmutableCollections$List12" = true := by first | (simp [plainName, overriddenIn]; done) | decide +kernel
theorem ef_6 (m : MethodId) (a1 : Addr) (a2 : Addr) : entryFrame m #[(.ref a1), (.ref a2)] 2 = mkF m 0 #[.val (.ref a1), .val (.ref a2)] [] := by first | (simp [entryFrame, mkF, argsToLocals, Value.category]; done) | rfl
def Q6 (Z : State) (a1 : Addr) (a2 : Addr) (u0 : Value) (u1 : Value) (em : Addr) (h0 : Heap) (n0 : Nat) (v : Option Value) (h : Heap) (L : List Loc) : Prop := v = none ∧ Fr n0 L ∧ Keep h0 h [a1] ∧ Exa Z h a1 "java/util/ImmutableCollections$List12" ∧ Fld Z h a1 "java/util/ImmutableCollections$List12" "e1" "Ljava/lang/Object;" (.ref em)
set_option maxRecDepth 65536 in
set_option maxHeartbeats 40000000 in
theorem rm6 (l : Launch) (Z : State) (a0 : Array Value) (hw : ∀ d ∈ tables_1, d.before a0 Z = true) (ws : List Jvm.Cond) (a1 : Addr) (a2 : Addr) (u0 : Value) (u1 : Value) (em : Addr) (h0 : Heap) (n0 : Nat) (Z0 : n0 ≤ h0.size) (E_a1 : Exa Z h0 a1 "java/util/ImmutableCollections$List12") (F_0 : Fld Z h0 a1 "java/util/ImmutableCollections$List12" "e0" "Ljava/lang/Object;" u0) (F_1 : Fld Z h0 a1 "java/util/ImmutableCollections$List12" "e1" "Ljava/lang/Object;" u1) (g_a1 : n0 ≤ a1) (S_E : Sta Z h0 "java/util/ImmutableCollections" "EMPTY" "Ljava/lang/Object;" (.ref em)) :
    MetFree l (⟨"java/util/ImmutableCollections$List12", "<init>", "(Ljava/lang/Object;)V"⟩ : MethodName) (head1 (Jvm.Cond.code (⟨"java/util/ImmutableCollections$List12", "<init>", "(Ljava/lang/Object;)V"⟩ : MethodName) jdk_44_method_1_code 2 none :: ws) ({ frames := 4, cells := 0, slots := 0, locals := 48 } : Room)) (fun a U => a = #[(.ref a1), (.ref a2)] ∧ Z.Warmed39 U.vm ∧ U.heap = h0) (fun _ _ _ _ _ => True) (fun _ U o U' => ∃ v L, o = .returned v ∧ Q6 Z a1 a2 u0 u1 em h0 n0 v U'.heap L ∧ FrameEnd U o U' L ({ frames := 4, cells := 0, slots := 0, locals := 48 } : Room).cells ({ frames := 4, cells := 0, slots := 0, locals := 48 } : Room).slots) := by
  refine MetFree.of_bodySF (plainFor_of_name pn_8) hisR ?_
  intro p e s m args below meth c s₁ Bd hml0 hP hK
  obtain ⟨rfl, hZ, hh⟩ := hP
  have hx := Bd.exec
  have hby := Bd.bytes
  have hml : c.maxLocals = 2 := hml0
  have hown : s.vm.findClass "java/util/ImmutableCollections$List12" = some m.cls := findClass_of_methodNamed Bd.named
  have hnm := (name_of_methodNamed Bd.named Bd.method).1
  have X0 : Stand p l e ({ frames := 4, cells := 0, slots := 0, locals := 48 } : Room) s m #[(.ref a1), (.ref a2)] below meth c s₁ [] 0 0 := Stand.of_body Bd
  have e0 : s₁.heap = h0 := by rw [← hh, Bd.state]; rfl
  have N0 := Fr.nil n0
  skip
  show own_Go p e below s (Q6 Z a1 a2 u0 u1 em h0 n0) ({ frames := 4, cells := 0, slots := 0, locals := 48 } : Room).cells ({ frames := 4, cells := 0, slots := 0, locals := 48 } : Room).slots _
  refine own_step (B := s₁.setTop (mkF m 0 #[.val (.ref a1), .val (.ref a2)] [])) (fun t k => castTop (ef_6 m a1 a2) k) ?_
  have KK0 : Keep h0 h0 [a1] := Keep.refl h0 _
  refine own_step (B := s₁.setTop (mkF m 1 #[.val (.ref a1), .val (.ref a2)] [(.ref a1)])) (fun t k => ?_) ?_
  · show Steps p.tables e below (s₁.setTop (mkF m 0 #[.val (.ref a1), .val (.ref a2)] [])) _
    refine XS.aloadN X0.here hx rfl (hb hby d6_0) rfl rfl ?_
    exact k
  obtain ⟨_, _, ⟨T1, L1, k1, n1⟩, -, X1, ⟨Lc1, hQ1, l1, y1, z1⟩, st1⟩ := X0.specialBack hx (y := (⟨"java/util/ImmutableCollections$AbstractImmutableList", "<init>", "()V"⟩ : MethodName)) rfl hown (mvT hZ (hw _ (List.mem_of_getElem? (i := 45) rfl))) (mvT hZ (hw _ (List.mem_of_getElem? (i := 46) rfl))) (mvT hZ (hw _ (List.mem_of_getElem? (i := 50) rfl))) (by decide) (backOf (W := 0) (rm7 l Z a0 hw [] a1  h0 n0 Z0 ) hZ (hw _ (List.mem_of_getElem? (i := 50) rfl)) (hw _ (List.mem_of_getElem? (i := 49) rfl)) (by decide) (by decide)) (g := (mkF m 1 #[.val (.ref a1), .val (.ref a2)] [(.ref a1)])) rfl (by rw [hml]; rfl) (Steps.refl _) (a := a1) (argsL := []) (rest := []) (lenOf pd_0 rfl) rfl (by show 2 * 0 + _ ≤ _; exact Nat.le_of_eq rfl) (hb hby d6_1) (fun _ _ => ⟨rfl, e0, (by decide : 0 + 0 ≤ _), (by decide : 0 + 0 ≤ _)⟩)
  dsimp only [Pt.U, Pt.locs, Pt.cells, Pt.slots] at X1 l1 y1 z1 st1 hQ1
  subst l1 y1 z1
  obtain ⟨rfl, N1q, e1⟩ := hQ1
  have N1 := Fr.app N0 N1q
  refine own_via st1 ?_
  show own_Go p e below s _ _ _ (T1.setTop (mkF m 4 #[.val (.ref a1), .val (.ref a2)] []))
  refine own_step (B := T1.setTop (mkF m 6 #[.val (.ref a1), .val (.ref a2)] [(.ref a2), (.ref a1)])) (fun t k => ?_) ?_
  · show Steps p.tables e below (T1.setTop (mkF m 4 #[.val (.ref a1), .val (.ref a2)] [])) _
    refine XS.aloadN X1.here hx rfl (hb hby d6_4) rfl rfl ?_
    show Steps p.tables e below (T1.setTop (mkF m 5 #[.val (.ref a1), .val (.ref a2)] [(.ref a1)])) _
    refine XS.aloadN X1.here hx rfl (hb hby d6_5) rfl rfl ?_
    exact k
  obtain ⟨_, _, ⟨T2, L2, k2, n2⟩, -, X2, ⟨Lc2, hQ2, l2, y2, z2⟩, st2⟩ := Jvm.LawKit.callS X1 hx (y := (⟨"java/util/Objects", "requireNonNull", "(Ljava/lang/Object;)Ljava/lang/Object;"⟩ : MethodName)) hown (mvT hZ (hw _ (List.mem_of_getElem? (i := 64) rfl))) (mvT hZ (hw _ (List.mem_of_getElem? (i := 65) rfl))) (mvT hZ (hw _ (List.mem_of_getElem? (i := 66) rfl))) (mvT hZ (hw _ (List.mem_of_getElem? (i := 67) rfl))) (by decide) (backOf (W := 1) (rm10 l Z a0 hw [] a2  h0 n0 Z0 ) hZ (hw _ (List.mem_of_getElem? (i := 67) rfl)) (hw _ (List.mem_of_getElem? (i := 66) rfl)) (by decide) (by decide)) (g := (mkF m 6 #[.val (.ref a1), .val (.ref a2)] [(.ref a2), (.ref a1)])) rfl (by rw [hml]; rfl) (argsL := [(.ref a2)]) (rest := [(.ref a1)]) (lenOf pd_7 rfl) rfl (by show 2 * 0 + _ ≤ _; exact Nat.le_of_eq rfl) (hb hby d6_6) (fun _ _ => ⟨rfl, e1, (by decide : 0 + 0 ≤ _), (by decide : 0 + 0 ≤ _)⟩)
  dsimp only [Pt.U, Pt.locs, Pt.cells, Pt.slots] at X2 l2 y2 z2 st2 hQ2
  subst l2 y2 z2
  obtain ⟨rfl, N2q, e2⟩ := hQ2
  have N2 := Fr.app N1 N2q
  refine own_step st2 ?_
  show own_Go p e below s _ _ _ (T2.setTop (mkF m 9 #[.val (.ref a1), .val (.ref a2)] [(.ref a2), (.ref a1)]))
  obtain ⟨T3, h3, X3, e3, W3, st3⟩ := putF X2 hx hZ hown (host := "") (Or.inl (hw _ (List.mem_of_getElem? (i := 68) rfl))) Via.refl e2 F_0 E_a1 (Or.inr ⟨(hw _ (List.mem_of_getElem? (i := 69) rfl)), rfl, hnm⟩) (hw _ (List.mem_of_getElem? (i := 39) rfl)) (ty := (.object "java/lang/Object")) (by decide) rfl rfl (g := (mkF m 9 #[.val (.ref a1), .val (.ref a2)] [(.ref a2), (.ref a1)])) rfl rfl (hb hby d6_9)
  have Fw3 := F_0.same W3
  have K3 : Keep h0 h3 [a1] := KK0.wr W3 (Or.inl (by simp))
  have N3 := Fr.snoc X3 N2 g_a1
  refine own_step st3 ?_
  show own_Go p e below s _ _ _ (T3.setTop (mkF m 12 #[.val (.ref a1), .val (.ref a2)] []))
  refine own_step (B := T3.setTop (mkF m 13 #[.val (.ref a1), .val (.ref a2)] [(.ref a1)])) (fun t k => ?_) ?_
  · show Steps p.tables e below (T3.setTop (mkF m 12 #[.val (.ref a1), .val (.ref a2)] [])) _
    refine XS.aloadN X3.here hx rfl (hb hby d6_12) rfl rfl ?_
    exact k
  obtain ⟨T4, X4, e4, st4⟩ := getS2 X3 hx hZ hown (Or.inr (hw _ (List.mem_of_getElem? (i := 70) rfl))) Via.refl e3 (S_E.wr W3) (g := (mkF m 13 #[.val (.ref a1), .val (.ref a2)] [(.ref a1)])) rfl (hb hby d6_13)
  refine own_step st4 ?_
  show own_Go p e below s _ _ _ (T4.setTop (mkF m 16 #[.val (.ref a1), .val (.ref a2)] [(.ref em), (.ref a1)]))
  obtain ⟨T5, h5, X5, e5, W5, st5⟩ := putF X4 hx hZ hown (host := "") (Or.inl (hw _ (List.mem_of_getElem? (i := 72) rfl))) Via.refl e4 (F_1.other W3 (Or.inr (slot_ne (Or.inr (hw _ (List.mem_of_getElem? (i := 73) rfl))) (Or.inr (hw _ (List.mem_of_getElem? (i := 69) rfl))) (by decide) (t := (.object "java/lang/Object")) (t' := (.object "java/lang/Object")) (by decide) (by decide)))) (E_a1.wr W3) (Or.inr ⟨(hw _ (List.mem_of_getElem? (i := 73) rfl)), rfl, hnm⟩) (hw _ (List.mem_of_getElem? (i := 39) rfl)) (ty := (.object "java/lang/Object")) (by decide) rfl rfl (g := (mkF m 16 #[.val (.ref a1), .val (.ref a2)] [(.ref em), (.ref a1)])) rfl rfl (hb hby d6_16)
  have Fw5 := (F_1.other W3 (Or.inr (slot_ne (Or.inr (hw _ (List.mem_of_getElem? (i := 73) rfl))) (Or.inr (hw _ (List.mem_of_getElem? (i := 69) rfl))) (by decide) (t := (.object "java/lang/Object")) (t' := (.object "java/lang/Object")) (by decide) (by decide)))).same W5
  have K5 : Keep h0 h5 [a1] := K3.wr W5 (Or.inl (by simp))
  have N5 := Fr.snoc X5 N3 g_a1
  refine own_step st5 ?_
  show own_Go p e below s _ _ _ (T5.setTop (mkF m 19 #[.val (.ref a1), .val (.ref a2)] []))
  exact own_retV X5 hx Bd.notSynchronized Bd.returns (hb hby d6_19) ⟨rfl, N5, by rw [e5]; exact K5, by rw [e5]; exact ((E_a1.wr W3).wr W5), by rw [e5]; exact Fw5⟩ (by decide) (by decide)
theorem d5_0 : decode jdk_40_method_37_code 0 = .ok (.new 96, 3) := by decide +kernel
theorem d5_3 : decode jdk_40_method_37_code 3 = .ok (.dup, 1) := by decide +kernel
theorem d5_4 : decode jdk_40_method_37_code 4 = .ok (.aload_n 0, 1) := by decide +kernel
theorem d5_5 : decode jdk_40_method_37_code 5 = .ok (.invokespecial 98, 3) := by decide +kernel
theorem d5_8 : decode jdk_40_method_37_code 8 = .ok (.areturn, 1) := by decide +kernel
theorem pd_9 : parseMethodDescriptor "(Ljava/lang/Object;)V" = some ⟨[(.object "java/lang/Object")], none⟩ := by decide +kernel
theorem pn_10 : plainName "java/util/List" = true := by first | (simp [plainName, overriddenIn]; done) | decide +kernel
theorem ef_5 (m : MethodId) (a1 : Addr) : entryFrame m #[(.ref a1)] 1 = mkF m 0 #[.val (.ref a1)] [] := by first | (simp [entryFrame, mkF, argsToLocals, Value.category]; done) | rfl
def Q5 (Z : State) (a1 : Addr) (em : Addr) (h0 : Heap) (n0 : Nat) (v : Option Value) (h : Heap) (L : List Loc) : Prop := ∃ r, v = some (.ref r) ∧ Fr n0 L ∧ Keep h0 h [] ∧ h0.size ≤ r ∧ Exa Z h r "java/util/ImmutableCollections$List12" ∧ Fld Z h r "java/util/ImmutableCollections$List12" "e1" "Ljava/lang/Object;" (.ref em)
set_option maxRecDepth 65536 in
set_option maxHeartbeats 40000000 in
theorem rm5 (l : Launch) (Z : State) (a0 : Array Value) (hw : ∀ d ∈ tables_1, d.before a0 Z = true) (ws : List Jvm.Cond) (a1 : Addr) (em : Addr) (h0 : Heap) (n0 : Nat) (Z0 : n0 ≤ h0.size) (S_E : Sta Z h0 "java/util/ImmutableCollections" "EMPTY" "Ljava/lang/Object;" (.ref em)) :
    MetFree l (⟨"java/util/List", "of", "(Ljava/lang/Object;)Ljava/util/List;"⟩ : MethodName) (head1 (Jvm.Cond.code (⟨"java/util/List", "of", "(Ljava/lang/Object;)Ljava/util/List;"⟩ : MethodName) jdk_40_method_37_code 1 (some (.object "java/util/List")) :: ws) ({ frames := 5, cells := 1, slots := 2, locals := 62 } : Room)) (fun a U => a = #[(.ref a1)] ∧ Z.Warmed39 U.vm ∧ U.heap = h0) (fun _ _ _ _ _ => True) (fun _ U o U' => ∃ v L, o = .returned v ∧ Q5 Z a1 em h0 n0 v U'.heap L ∧ FrameEnd U o U' L ({ frames := 5, cells := 1, slots := 2, locals := 62 } : Room).cells ({ frames := 5, cells := 1, slots := 2, locals := 62 } : Room).slots) := by
  refine MetFree.of_bodySF (plainFor_of_name pn_10) hisR ?_
  intro p e s m args below meth c s₁ Bd hml0 hP hK
  obtain ⟨rfl, hZ, hh⟩ := hP
  have hx := Bd.exec
  have hby := Bd.bytes
  have hml : c.maxLocals = 1 := hml0
  have hown : s.vm.findClass "java/util/List" = some m.cls := findClass_of_methodNamed Bd.named
  have hnm := (name_of_methodNamed Bd.named Bd.method).1
  have X0 : Stand p l e ({ frames := 5, cells := 1, slots := 2, locals := 62 } : Room) s m #[(.ref a1)] below meth c s₁ [] 0 0 := Stand.of_body Bd
  have e0 : s₁.heap = h0 := by rw [← hh, Bd.state]; rfl
  have N0 := Fr.nil n0
  skip
  show own_Go p e below s (Q5 Z a1 em h0 n0) ({ frames := 5, cells := 1, slots := 2, locals := 62 } : Room).cells ({ frames := 5, cells := 1, slots := 2, locals := 62 } : Room).slots _
  refine own_step (B := s₁.setTop (mkF m 0 #[.val (.ref a1)] [])) (fun t k => castTop (ef_5 m a1) k) ?_
  have KK0 : Keep h0 h0 [] := Keep.refl h0 _
  obtain ⟨T1, h1, X1, e1, E1, A1, D1, -, st1⟩ := newO X0 hx hZ hown (hw _ (List.mem_of_getElem? (i := 38) rfl)) (hw _ (List.mem_of_getElem? (i := 39) rfl)) (hw _ (List.mem_of_getElem? (i := 40) rfl)) e0 (g := (mkF m 0 #[.val (.ref a1)] [])) rfl (hb hby d5_0) (by decide) (by decide)
  obtain ⟨b1, g1⟩ : ∃ z, z = h0.size := ⟨_, rfl⟩
  rw [← g1] at A1 D1 st1
  have g_b1 : n0 ≤ b1 := Nat.le_trans Z0 (Nat.le_of_eq g1.symm)
  have sz_b1 : h0.size ≤ b1 := Nat.le_trans KK0.1 (Nat.le_of_eq g1.symm)
  have K1 : Keep h0 h1 [] := KK0.ext E1
  have F_e0_b1 : Fld Z h1 b1 "java/util/ImmutableCollections$List12" "e0" "Ljava/lang/Object;" .null := D1 (Or.inr (hw _ (List.mem_of_getElem? (i := 69) rfl))) (ty := (.object "java/lang/Object")) (by decide)
  have F_e1_b1 : Fld Z h1 b1 "java/util/ImmutableCollections$List12" "e1" "Ljava/lang/Object;" .null := D1 (Or.inr (hw _ (List.mem_of_getElem? (i := 73) rfl))) (ty := (.object "java/lang/Object")) (by decide)
  refine own_step st1 ?_
  show own_Go p e below s _ _ _ (T1.setTop (mkF m 3 #[.val (.ref a1)] [(.ref b1)]))
  refine own_step (B := T1.setTop (mkF m 5 #[.val (.ref a1)] [(.ref a1), (.ref b1), (.ref b1)])) (fun t k => ?_) ?_
  · show Steps p.tables e below (T1.setTop (mkF m 3 #[.val (.ref a1)] [(.ref b1)])) _
    refine XS.dup X1.here hx rfl (hb hby d5_3) rfl rfl ?_
    show Steps p.tables e below (T1.setTop (mkF m 4 #[.val (.ref a1)] [(.ref b1), (.ref b1)])) _
    refine XS.aloadN X1.here hx rfl (hb hby d5_4) rfl rfl ?_
    exact k
  obtain ⟨_, _, ⟨T2, L2, k2, n2⟩, -, X2, ⟨Lc2, hQ2, l2, y2, z2⟩, st2⟩ := X1.specialBack hx (y := (⟨"java/util/ImmutableCollections$List12", "<init>", "(Ljava/lang/Object;)V"⟩ : MethodName)) rfl hown (mvT hZ (hw _ (List.mem_of_getElem? (i := 41) rfl))) (mvT hZ (hw _ (List.mem_of_getElem? (i := 42) rfl))) (mvT hZ (hw _ (List.mem_of_getElem? (i := 44) rfl))) (by decide) (backOf (W := 1) (rm6 l Z a0 hw [] b1 a1 _ _ em h1 n0 (Nat.le_trans Z0 E1.1) A1 F_e0_b1 F_e1_b1 g_b1 (S_E.ext E1)) hZ (hw _ (List.mem_of_getElem? (i := 44) rfl)) (hw _ (List.mem_of_getElem? (i := 40) rfl)) (by decide) (by decide)) (g := (mkF m 5 #[.val (.ref a1)] [(.ref a1), (.ref b1), (.ref b1)])) rfl (by rw [hml]; rfl) (Steps.refl _) (a := b1) (argsL := [(.ref a1)]) (rest := [(.ref b1)]) (lenOf pd_9 rfl) rfl (by show 2 * 0 + _ ≤ _; exact Nat.le_of_eq rfl) (hb hby d5_5) (fun _ _ => ⟨rfl, e1, (by decide : 1 + 0 ≤ _), (by decide : 2 + 0 ≤ _)⟩)
  dsimp only [Pt.U, Pt.locs, Pt.cells, Pt.slots] at X2 l2 y2 z2 st2 hQ2
  subst l2 y2 z2
  obtain ⟨rfl, N2q, K2, Ex2, Fx2⟩ := hQ2
  have N2 := Fr.app N0 N2q
  refine own_via st2 ?_
  show own_Go p e below s _ _ _ (T2.setTop (mkF m 8 #[.val (.ref a1)] [(.ref b1)]))
  have KK2 : Keep h0 T2.heap [] := K1.trans K2 (allS (Or.inr sz_b1) all0)
  exact own_retR X2 hx Bd.notSynchronized Bd.returns rfl rfl (hb hby d5_8) ⟨b1, rfl, N2, KK2, sz_b1, Ex2, Fx2⟩ (by decide) (by decide)
theorem d13_0 : decode jdk_44_method_3_code 0 = .ok (.aload_n 0, 1) := by decide +kernel
theorem d13_1 : decode jdk_44_method_3_code 1 = .ok (.getfield 24, 3) := by decide +kernel
theorem d13_4 : decode jdk_44_method_3_code 4 = .ok (.getstatic 19, 3) := by decide +kernel
theorem d13_7 : decode jdk_44_method_3_code 7 = .ok (.if_acmp .eq 7, 3) := by decide +kernel
theorem d13_10 : decode jdk_44_method_3_code 10 = .ok (.iconst 2, 1) := by decide +kernel
theorem d13_11 : decode jdk_44_method_3_code 11 = .ok (.goto 4, 3) := by decide +kernel
theorem d13_14 : decode jdk_44_method_3_code 14 = .ok (.iconst 1, 1) := by decide +kernel
theorem d13_15 : decode jdk_44_method_3_code 15 = .ok (.ireturn, 1) := by decide +kernel
theorem ef_13 (m : MethodId) (a1 : Addr) : entryFrame m #[(.ref a1)] 1 = mkF m 0 #[.val (.ref a1)] [] := by first | (simp [entryFrame, mkF, argsToLocals, Value.category]; done) | rfl
def Q13 (Z : State) (a1 : Addr) (em : Addr) (h0 : Heap) (n0 : Nat) (v : Option Value) (h : Heap) (L : List Loc) : Prop := v = some (.int (1 : Int32)) ∧ Fr n0 L ∧ h = h0
set_option maxRecDepth 65536 in
set_option maxHeartbeats 40000000 in
theorem rm13 (l : Launch) (Z : State) (a0 : Array Value) (hw : ∀ d ∈ tables_1, d.before a0 Z = true) (ws : List Jvm.Cond) (a1 : Addr) (em : Addr) (h0 : Heap) (n0 : Nat) (Z0 : n0 ≤ h0.size) (F_1 : Fld Z h0 a1 "java/util/ImmutableCollections$List12" "e1" "Ljava/lang/Object;" (.ref em)) (S_E : Sta Z h0 "java/util/ImmutableCollections" "EMPTY" "Ljava/lang/Object;" (.ref em)) :
    MetFree l (⟨"java/util/ImmutableCollections$List12", "size", "()I"⟩ : MethodName) (head1 (Jvm.Cond.code (⟨"java/util/ImmutableCollections$List12", "size", "()I"⟩ : MethodName) jdk_44_method_3_code 1 (some .int) :: ws) ({ frames := 0, cells := 0, slots := 0, locals := 0 } : Room)) (fun a U => a = #[(.ref a1)] ∧ Z.Warmed39 U.vm ∧ U.heap = h0) (fun _ _ _ _ _ => True) (fun _ U o U' => ∃ v L, o = .returned v ∧ Q13 Z a1 em h0 n0 v U'.heap L ∧ FrameEnd U o U' L ({ frames := 0, cells := 0, slots := 0, locals := 0 } : Room).cells ({ frames := 0, cells := 0, slots := 0, locals := 0 } : Room).slots) := by
  refine MetFree.of_bodySF (plainFor_of_name pn_8) hisR ?_
  intro p e s m args below meth c s₁ Bd hml0 hP hK
  obtain ⟨rfl, hZ, hh⟩ := hP
  have hx := Bd.exec
  have hby := Bd.bytes
  have hml : c.maxLocals = 1 := hml0
  have hown : s.vm.findClass "java/util/ImmutableCollections$List12" = some m.cls := findClass_of_methodNamed Bd.named
  have hnm := (name_of_methodNamed Bd.named Bd.method).1
  have X0 : Stand p l e ({ frames := 0, cells := 0, slots := 0, locals := 0 } : Room) s m #[(.ref a1)] below meth c s₁ [] 0 0 := Stand.of_body Bd
  have e0 : s₁.heap = h0 := by rw [← hh, Bd.state]; rfl
  have N0 := Fr.nil n0
  skip
  show own_Go p e below s (Q13 Z a1 em h0 n0) ({ frames := 0, cells := 0, slots := 0, locals := 0 } : Room).cells ({ frames := 0, cells := 0, slots := 0, locals := 0 } : Room).slots _
  refine own_step (B := s₁.setTop (mkF m 0 #[.val (.ref a1)] [])) (fun t k => castTop (ef_13 m a1) k) ?_
  refine own_step (B := s₁.setTop (mkF m 1 #[.val (.ref a1)] [(.ref a1)])) (fun t k => ?_) ?_
  · show Steps p.tables e below (s₁.setTop (mkF m 0 #[.val (.ref a1)] [])) _
    refine XS.aloadN X0.here hx rfl (hb hby d13_0) rfl rfl ?_
    exact k
  obtain ⟨T1, X1, e1, st1⟩ := getF X0 hx hZ hown (host := "") (Or.inl (hw _ (List.mem_of_getElem? (i := 72) rfl))) Via.refl e0 F_1 (g := (mkF m 1 #[.val (.ref a1)] [(.ref a1)])) rfl rfl (hb hby d13_1)
  refine own_step st1 ?_
  show own_Go p e below s _ _ _ (T1.setTop (mkF m 4 #[.val (.ref a1)] [(.ref em)]))
  obtain ⟨T2, X2, e2, st2⟩ := getS2 X1 hx hZ hown (Or.inr (hw _ (List.mem_of_getElem? (i := 70) rfl))) Via.refl e1 S_E (g := (mkF m 4 #[.val (.ref a1)] [(.ref em)])) rfl (hb hby d13_4)
  refine own_step st2 ?_
  show own_Go p e below s _ _ _ (T2.setTop (mkF m 7 #[.val (.ref a1)] [(.ref em), (.ref em)]))
  refine own_step (B := T2.setTop (mkF m 15 #[.val (.ref a1)] [(.int (1 : Int32))])) (fun t k => ?_) ?_
  · show Steps p.tables e below (T2.setTop (mkF m 7 #[.val (.ref a1)] [(.ref em), (.ref em)])) _
    refine Jvm.RoadKit.acmp (g := (mkF m 7 #[.val (.ref a1)] [(.ref em), (.ref em)])) X2 hx rfl rfl rfl (pc0 := 7) (pc' := 14) (same := true) rfl (hb hby d13_7) rfl (decide_eq_true rfl) (by decide) (by decide) ?_
    show Steps p.tables e below (T2.setTop (mkF m 14 #[.val (.ref a1)] [])) _
    refine XS.iconst X2.here hx rfl (hb hby d13_14) ?_
    exact k
  exact own_retI X2 hx Bd.notSynchronized Bd.returns (hb hby d13_15) ⟨rfl, N0, e2⟩ (by decide) (by decide)
theorem d1_0 : decode prog_19_method_1_code 0 = .ok (.aload_n 0, 1) := by decide +kernel
theorem d1_1 : decode prog_19_method_1_code 1 = .ok (.invokespecial 1, 3) := by decide +kernel
theorem d1_4 : decode prog_19_method_1_code 4 = .ok (.aload_n 0, 1) := by decide +kernel
theorem d1_5 : decode prog_19_method_1_code 5 = .ok (.lload_n 1, 1) := by decide +kernel
theorem d1_6 : decode prog_19_method_1_code 6 = .ok (.putfield 7, 3) := by decide +kernel
theorem d1_9 : decode prog_19_method_1_code 9 = .ok (.aload_n 0, 1) := by decide +kernel
theorem d1_10 : decode prog_19_method_1_code 10 = .ok (.lload_n 3, 1) := by decide +kernel
theorem d1_11 : decode prog_19_method_1_code 11 = .ok (.putfield 13, 3) := by decide +kernel
theorem d1_14 : decode prog_19_method_1_code 14 = .ok (.aload_n 0, 1) := by decide +kernel
theorem d1_15 : decode prog_19_method_1_code 15 = .ok (.lload 5, 2) := by decide +kernel
theorem d1_17 : decode prog_19_method_1_code 17 = .ok (.putfield 16, 3) := by decide +kernel
theorem d1_20 : decode prog_19_method_1_code 20 = .ok (.aload_n 0, 1) := by decide +kernel
theorem d1_21 : decode prog_19_method_1_code 21 = .ok (.iload 7, 2) := by decide +kernel
theorem d1_23 : decode prog_19_method_1_code 23 = .ok (.putfield 19, 3) := by decide +kernel
theorem d1_26 : decode prog_19_method_1_code 26 = .ok (.aload_n 0, 1) := by decide +kernel
theorem d1_27 : decode prog_19_method_1_code 27 = .ok (.aload 8, 2) := by decide +kernel
theorem d1_29 : decode prog_19_method_1_code 29 = .ok (.putfield 23, 3) := by decide +kernel
theorem d1_32 : decode prog_19_method_1_code 32 = .ok (.lload 5, 2) := by decide +kernel
theorem d1_34 : decode prog_19_method_1_code 34 = .ok (.invokestatic 27, 3) := by decide +kernel
theorem d1_37 : decode prog_19_method_1_code 37 = .ok (.lstore 9, 2) := by decide +kernel
theorem d1_39 : decode prog_19_method_1_code 39 = .ok (.aload_n 0, 1) := by decide +kernel
theorem d1_40 : decode prog_19_method_1_code 40 = .ok (.aload 8, 2) := by decide +kernel
theorem d1_42 : decode prog_19_method_1_code 42 = .ok (.ifnonnull 19, 3) := by decide +kernel
theorem d1_45 : decode prog_19_method_1_code 45 = .ok (.new 33, 3) := by decide +kernel
theorem d1_48 : decode prog_19_method_1_code 48 = .ok (.dup, 1) := by decide +kernel
theorem d1_49 : decode prog_19_method_1_code 49 = .ok (.lload_n 3, 1) := by decide +kernel
theorem d1_50 : decode prog_19_method_1_code 50 = .ok (.lload 9, 2) := by decide +kernel
theorem d1_52 : decode prog_19_method_1_code 52 = .ok (.invokespecial 35, 3) := by decide +kernel
theorem d1_55 : decode prog_19_method_1_code 55 = .ok (.invokestatic 38, 3) := by decide +kernel
theorem d1_58 : decode prog_19_method_1_code 58 = .ok (.goto 15, 3) := by decide +kernel
theorem d1_61 : decode prog_19_method_1_code 61 = .ok (.aload 8, 2) := by decide +kernel
theorem d1_63 : decode prog_19_method_1_code 63 = .ok (.lload_n 3, 1) := by decide +kernel
theorem d1_64 : decode prog_19_method_1_code 64 = .ok (.lload_n 3, 1) := by decide +kernel
theorem d1_65 : decode prog_19_method_1_code 65 = .ok (.lload 9, 2) := by decide +kernel
theorem d1_67 : decode prog_19_method_1_code 67 = .ok (.invokestatic 44, 3) := by decide +kernel
theorem d1_70 : decode prog_19_method_1_code 70 = .ok (.invokevirtual 48, 3) := by decide +kernel
theorem d1_73 : decode prog_19_method_1_code 73 = .ok (.putfield 54, 3) := by decide +kernel
theorem d1_76 : decode prog_19_method_1_code 76 = .ok (.return_, 1) := by decide +kernel
theorem pd_11 : parseMethodDescriptor "(J)J" = some ⟨[.long], some .long⟩ := by decide +kernel
theorem pd_12 : parseMethodDescriptor "(JJ)V" = some ⟨[.long, .long], none⟩ := by decide +kernel
theorem pd_13 : parseMethodDescriptor "(Ljava/lang/Object;)Ljava/util/List;" = some ⟨[(.object "java/lang/Object")], some (.object "java/util/List")⟩ := by decide +kernel
theorem pn_14 : plainName "com/example/lichen/lichen/continuous/Span" = true := by first | (simp [plainName, overriddenIn]; done) | decide +kernel
theorem ef_1 (m : MethodId) (a1 : Addr) (q2 : Int64) (q3 : Int64) (q4 : Int64) (p5 : Int32) : entryFrame m #[(.ref a1), (.long q2), (.long q3), (.long q4), (.int p5), .null] 11 = mkF m 0 #[.val (.ref a1), .val (.long q2), .second, .val (.long q3), .second, .val (.long q4), .second, .val (.int p5), .val .null, .unset, .unset] [] := by first | (simp [entryFrame, mkF, argsToLocals, Value.category]; done) | rfl
def Q1 (Z : State) (a1 : Addr) (q2 : Int64) (q3 : Int64) (q4 : Int64) (p5 : Int32) (u0 : Value) (u1 : Value) (u2 : Value) (u3 : Value) (u4 : Value) (u5 : Value) (em : Addr) (h0 : Heap) (n0 : Nat) (v : Option Value) (h : Heap) (L : List Loc) : Prop := v = none ∧ Fr n0 L ∧ Keep h0 h [a1] ∧ Exa Z h a1 "com/example/lichen/lichen/continuous/Span" ∧ ∃ r, Fld Z h a1 "com/example/lichen/lichen/continuous/Span" "slices" "Ljava/util/List;" (.ref r) ∧ Exa Z h r "java/util/ImmutableCollections$List12" ∧ Fld Z h r "java/util/ImmutableCollections$List12" "e1" "Ljava/lang/Object;" (.ref em)
set_option maxRecDepth 65536 in
set_option maxHeartbeats 40000000 in
theorem rm1 (l : Launch) (Z : State) (a0 : Array Value) (hw : ∀ d ∈ tables_1, d.before a0 Z = true) (ws : List Jvm.Cond) (a1 : Addr) (q2 : Int64) (q3 : Int64) (q4 : Int64) (p5 : Int32) (u0 : Value) (u1 : Value) (u2 : Value) (u3 : Value) (u4 : Value) (u5 : Value) (em : Addr) (h0 : Heap) (n0 : Nat) (Z0 : n0 ≤ h0.size) (E_a1 : Exa Z h0 a1 "com/example/lichen/lichen/continuous/Span") (F_0 : Fld Z h0 a1 "com/example/lichen/lichen/continuous/Span" "usageId" "J" u0) (F_1 : Fld Z h0 a1 "com/example/lichen/lichen/continuous/Span" "start" "J" u1) (F_2 : Fld Z h0 a1 "com/example/lichen/lichen/continuous/Span" "duration" "J" u2) (F_3 : Fld Z h0 a1 "com/example/lichen/lichen/continuous/Span" "measures" "I" u3) (F_4 : Fld Z h0 a1 "com/example/lichen/lichen/continuous/Span" "granularity" "Lcom/example/lichen/lichen/bucket/Granularity;" u4) (F_5 : Fld Z h0 a1 "com/example/lichen/lichen/continuous/Span" "slices" "Ljava/util/List;" u5) (g_a1 : n0 ≤ a1) (S_E : Sta Z h0 "java/util/ImmutableCollections" "EMPTY" "Ljava/lang/Object;" (.ref em)) :
    MetFree l (⟨"com/example/lichen/lichen/continuous/Span", "<init>", "(JJJILcom/example/lichen/lichen/bucket/Granularity;)V"⟩ : MethodName) (head1 (Jvm.Cond.code (⟨"com/example/lichen/lichen/continuous/Span", "<init>", "(JJJILcom/example/lichen/lichen/bucket/Granularity;)V"⟩ : MethodName) prog_19_method_1_code 11 none :: ws) ({ frames := 6, cells := 2, slots := 4, locals := 75 } : Room)) (fun a U => a = #[(.ref a1), (.long q2), (.long q3), (.long q4), (.int p5), .null] ∧ Z.Warmed39 U.vm ∧ U.heap = h0) (fun _ _ _ _ _ => True) (fun _ U o U' => ∃ v L, o = .returned v ∧ Q1 Z a1 q2 q3 q4 p5 u0 u1 u2 u3 u4 u5 em h0 n0 v U'.heap L ∧ FrameEnd U o U' L ({ frames := 6, cells := 2, slots := 4, locals := 75 } : Room).cells ({ frames := 6, cells := 2, slots := 4, locals := 75 } : Room).slots) := by
  refine MetFree.of_bodySF (plainFor_of_name pn_14) hisR ?_
  intro p e s m args below meth c s₁ Bd hml0 hP hK
  obtain ⟨rfl, hZ, hh⟩ := hP
  have hx := Bd.exec
  have hby := Bd.bytes
  have hml : c.maxLocals = 11 := hml0
  have hown : s.vm.findClass "com/example/lichen/lichen/continuous/Span" = some m.cls := findClass_of_methodNamed Bd.named
  have hnm := (name_of_methodNamed Bd.named Bd.method).1
  have X0 : Stand p l e ({ frames := 6, cells := 2, slots := 4, locals := 75 } : Room) s m #[(.ref a1), (.long q2), (.long q3), (.long q4), (.int p5), .null] below meth c s₁ [] 0 0 := Stand.of_body Bd
  have e0 : s₁.heap = h0 := by rw [← hh, Bd.state]; rfl
  have N0 := Fr.nil n0
  skip
  show own_Go p e below s (Q1 Z a1 q2 q3 q4 p5 u0 u1 u2 u3 u4 u5 em h0 n0) ({ frames := 6, cells := 2, slots := 4, locals := 75 } : Room).cells ({ frames := 6, cells := 2, slots := 4, locals := 75 } : Room).slots _
  refine own_step (B := s₁.setTop (mkF m 0 #[.val (.ref a1), .val (.long q2), .second, .val (.long q3), .second, .val (.long q4), .second, .val (.int p5), .val .null, .unset, .unset] [])) (fun t k => castTop (ef_1 m a1 q2 q3 q4 p5) k) ?_
  have KK0 : Keep h0 h0 [a1] := Keep.refl h0 _
  refine own_step (B := s₁.setTop (mkF m 1 #[.val (.ref a1), .val (.long q2), .second, .val (.long q3), .second, .val (.long q4), .second, .val (.int p5), .val .null, .unset, .unset] [(.ref a1)])) (fun t k => ?_) ?_
  · show Steps p.tables e below (s₁.setTop (mkF m 0 #[.val (.ref a1), .val (.long q2), .second, .val (.long q3), .second, .val (.long q4), .second, .val (.int p5), .val .null, .unset, .unset] [])) _
    refine XS.aloadN X0.here hx rfl (hb hby d1_0) rfl rfl ?_
    exact k
  obtain ⟨T1, X1, e1, st1⟩ := initO X0 hx hZ hown (hw _ (List.mem_of_getElem? (i := 6) rfl)) (hw _ (List.mem_of_getElem? (i := 7) rfl)) (hw _ (List.mem_of_getElem? (i := 8) rfl)) e0 (g := (mkF m 1 #[.val (.ref a1), .val (.long q2), .second, .val (.long q3), .second, .val (.long q4), .second, .val (.int p5), .val .null, .unset, .unset] [(.ref a1)])) rfl (by rw [hml]; rfl) rfl (hb hby d1_1) (by decide) (W := 0) (by show 2 * 0 + _ ≤ _; exact Nat.le_of_eq rfl) (by decide)
  refine own_step st1 ?_
  show own_Go p e below s _ _ _ (T1.setTop (mkF m 4 #[.val (.ref a1), .val (.long q2), .second, .val (.long q3), .second, .val (.long q4), .second, .val (.int p5), .val .null, .unset, .unset] []))
  refine own_step (B := T1.setTop (mkF m 6 #[.val (.ref a1), .val (.long q2), .second, .val (.long q3), .second, .val (.long q4), .second, .val (.int p5), .val .null, .unset, .unset] [(.long q2), (.ref a1)])) (fun t k => ?_) ?_
  · show Steps p.tables e below (T1.setTop (mkF m 4 #[.val (.ref a1), .val (.long q2), .second, .val (.long q3), .second, .val (.long q4), .second, .val (.int p5), .val .null, .unset, .unset] [])) _
    refine XS.aloadN X1.here hx rfl (hb hby d1_4) rfl rfl ?_
    show Steps p.tables e below (T1.setTop (mkF m 5 #[.val (.ref a1), .val (.long q2), .second, .val (.long q3), .second, .val (.long q4), .second, .val (.int p5), .val .null, .unset, .unset] [(.ref a1)])) _
    refine XS.lloadN X1.here hx rfl (hb hby d1_5) rfl ?_
    exact k
  obtain ⟨T2, h2, X2, e2, W2, st2⟩ := putF X1 hx hZ hown (host := "") (Or.inl (hw _ (List.mem_of_getElem? (i := 9) rfl))) Via.refl e1 F_0 E_a1 (Or.inr ⟨(hw _ (List.mem_of_getElem? (i := 10) rfl)), rfl, hnm⟩) (hw _ (List.mem_of_getElem? (i := 1) rfl)) (ty := .long) (by decide) rfl rfl (g := (mkF m 6 #[.val (.ref a1), .val (.long q2), .second, .val (.long q3), .second, .val (.long q4), .second, .val (.int p5), .val .null, .unset, .unset] [(.long q2), (.ref a1)])) rfl rfl (hb hby d1_6)
  have Fw2 := F_0.same W2
  have K2 : Keep h0 h2 [a1] := KK0.wr W2 (Or.inl (by simp))
  have N2 := Fr.snoc X2 N0 g_a1
  refine own_step st2 ?_
  show own_Go p e below s _ _ _ (T2.setTop (mkF m 9 #[.val (.ref a1), .val (.long q2), .second, .val (.long q3), .second, .val (.long q4), .second, .val (.int p5), .val .null, .unset, .unset] []))
  refine own_step (B := T2.setTop (mkF m 11 #[.val (.ref a1), .val (.long q2), .second, .val (.long q3), .second, .val (.long q4), .second, .val (.int p5), .val .null, .unset, .unset] [(.long q3), (.ref a1)])) (fun t k => ?_) ?_
  · show Steps p.tables e below (T2.setTop (mkF m 9 #[.val (.ref a1), .val (.long q2), .second, .val (.long q3), .second, .val (.long q4), .second, .val (.int p5), .val .null, .unset, .unset] [])) _
    refine XS.aloadN X2.here hx rfl (hb hby d1_9) rfl rfl ?_
    show Steps p.tables e below (T2.setTop (mkF m 10 #[.val (.ref a1), .val (.long q2), .second, .val (.long q3), .second, .val (.long q4), .second, .val (.int p5), .val .null, .unset, .unset] [(.ref a1)])) _
    refine XS.lloadN X2.here hx rfl (hb hby d1_10) rfl ?_
    exact k
  obtain ⟨T3, h3, X3, e3, W3, st3⟩ := putF X2 hx hZ hown (host := "") (Or.inl (hw _ (List.mem_of_getElem? (i := 11) rfl))) Via.refl e2 (F_1.other W2 (Or.inr (slot_ne (Or.inr (hw _ (List.mem_of_getElem? (i := 12) rfl))) (Or.inr (hw _ (List.mem_of_getElem? (i := 10) rfl))) (by decide) (t := .long) (t' := .long) (by decide) (by decide)))) (E_a1.wr W2) (Or.inr ⟨(hw _ (List.mem_of_getElem? (i := 12) rfl)), rfl, hnm⟩) (hw _ (List.mem_of_getElem? (i := 1) rfl)) (ty := .long) (by decide) rfl rfl (g := (mkF m 11 #[.val (.ref a1), .val (.long q2), .second, .val (.long q3), .second, .val (.long q4), .second, .val (.int p5), .val .null, .unset, .unset] [(.long q3), (.ref a1)])) rfl rfl (hb hby d1_11)
  have Fw3 := (F_1.other W2 (Or.inr (slot_ne (Or.inr (hw _ (List.mem_of_getElem? (i := 12) rfl))) (Or.inr (hw _ (List.mem_of_getElem? (i := 10) rfl))) (by decide) (t := .long) (t' := .long) (by decide) (by decide)))).same W3
  have K3 : Keep h0 h3 [a1] := K2.wr W3 (Or.inl (by simp))
  have N3 := Fr.snoc X3 N2 g_a1
  refine own_step st3 ?_
  show own_Go p e below s _ _ _ (T3.setTop (mkF m 14 #[.val (.ref a1), .val (.long q2), .second, .val (.long q3), .second, .val (.long q4), .second, .val (.int p5), .val .null, .unset, .unset] []))
  refine own_step (B := T3.setTop (mkF m 17 #[.val (.ref a1), .val (.long q2), .second, .val (.long q3), .second, .val (.long q4), .second, .val (.int p5), .val .null, .unset, .unset] [(.long q4), (.ref a1)])) (fun t k => ?_) ?_
  · show Steps p.tables e below (T3.setTop (mkF m 14 #[.val (.ref a1), .val (.long q2), .second, .val (.long q3), .second, .val (.long q4), .second, .val (.int p5), .val .null, .unset, .unset] [])) _
    refine XS.aloadN X3.here hx rfl (hb hby d1_14) rfl rfl ?_
    show Steps p.tables e below (T3.setTop (mkF m 15 #[.val (.ref a1), .val (.long q2), .second, .val (.long q3), .second, .val (.long q4), .second, .val (.int p5), .val .null, .unset, .unset] [(.ref a1)])) _
    refine XS.lload X3.here hx rfl (hb hby d1_15) rfl ?_
    exact k
  obtain ⟨T4, h4, X4, e4, W4, st4⟩ := putF X3 hx hZ hown (host := "") (Or.inl (hw _ (List.mem_of_getElem? (i := 13) rfl))) Via.refl e3 ((F_2.other W2 (Or.inr (slot_ne (Or.inr (hw _ (List.mem_of_getElem? (i := 14) rfl))) (Or.inr (hw _ (List.mem_of_getElem? (i := 10) rfl))) (by decide) (t := .long) (t' := .long) (by decide) (by decide)))).other W3 (Or.inr (slot_ne (Or.inr (hw _ (List.mem_of_getElem? (i := 14) rfl))) (Or.inr (hw _ (List.mem_of_getElem? (i := 12) rfl))) (by decide) (t := .long) (t' := .long) (by decide) (by decide)))) ((E_a1.wr W2).wr W3) (Or.inr ⟨(hw _ (List.mem_of_getElem? (i := 14) rfl)), rfl, hnm⟩) (hw _ (List.mem_of_getElem? (i := 1) rfl)) (ty := .long) (by decide) rfl rfl (g := (mkF m 17 #[.val (.ref a1), .val (.long q2), .second, .val (.long q3), .second, .val (.long q4), .second, .val (.int p5), .val .null, .unset, .unset] [(.long q4), (.ref a1)])) rfl rfl (hb hby d1_17)
  have Fw4 := ((F_2.other W2 (Or.inr (slot_ne (Or.inr (hw _ (List.mem_of_getElem? (i := 14) rfl))) (Or.inr (hw _ (List.mem_of_getElem? (i := 10) rfl))) (by decide) (t := .long) (t' := .long) (by decide) (by decide)))).other W3 (Or.inr (slot_ne (Or.inr (hw _ (List.mem_of_getElem? (i := 14) rfl))) (Or.inr (hw _ (List.mem_of_getElem? (i := 12) rfl))) (by decide) (t := .long) (t' := .long) (by decide) (by decide)))).same W4
  have K4 : Keep h0 h4 [a1] := K3.wr W4 (Or.inl (by simp))
  have N4 := Fr.snoc X4 N3 g_a1
  refine own_step st4 ?_
  show own_Go p e below s _ _ _ (T4.setTop (mkF m 20 #[.val (.ref a1), .val (.long q2), .second, .val (.long q3), .second, .val (.long q4), .second, .val (.int p5), .val .null, .unset, .unset] []))
  refine own_step (B := T4.setTop (mkF m 23 #[.val (.ref a1), .val (.long q2), .second, .val (.long q3), .second, .val (.long q4), .second, .val (.int p5), .val .null, .unset, .unset] [(.int p5), (.ref a1)])) (fun t k => ?_) ?_
  · show Steps p.tables e below (T4.setTop (mkF m 20 #[.val (.ref a1), .val (.long q2), .second, .val (.long q3), .second, .val (.long q4), .second, .val (.int p5), .val .null, .unset, .unset] [])) _
    refine XS.aloadN X4.here hx rfl (hb hby d1_20) rfl rfl ?_
    show Steps p.tables e below (T4.setTop (mkF m 21 #[.val (.ref a1), .val (.long q2), .second, .val (.long q3), .second, .val (.long q4), .second, .val (.int p5), .val .null, .unset, .unset] [(.ref a1)])) _
    refine XS.iload X4.here hx rfl (hb hby d1_21) rfl ?_
    exact k
  obtain ⟨T5, h5, X5, e5, W5, st5⟩ := putF X4 hx hZ hown (host := "") (Or.inl (hw _ (List.mem_of_getElem? (i := 15) rfl))) Via.refl e4 (((F_3.other W2 (Or.inr (slot_ne (Or.inr (hw _ (List.mem_of_getElem? (i := 16) rfl))) (Or.inr (hw _ (List.mem_of_getElem? (i := 10) rfl))) (by decide) (t := .int) (t' := .long) (by decide) (by decide)))).other W3 (Or.inr (slot_ne (Or.inr (hw _ (List.mem_of_getElem? (i := 16) rfl))) (Or.inr (hw _ (List.mem_of_getElem? (i := 12) rfl))) (by decide) (t := .int) (t' := .long) (by decide) (by decide)))).other W4 (Or.inr (slot_ne (Or.inr (hw _ (List.mem_of_getElem? (i := 16) rfl))) (Or.inr (hw _ (List.mem_of_getElem? (i := 14) rfl))) (by decide) (t := .int) (t' := .long) (by decide) (by decide)))) (((E_a1.wr W2).wr W3).wr W4) (Or.inr ⟨(hw _ (List.mem_of_getElem? (i := 16) rfl)), rfl, hnm⟩) (hw _ (List.mem_of_getElem? (i := 1) rfl)) (ty := .int) (by decide) rfl rfl (g := (mkF m 23 #[.val (.ref a1), .val (.long q2), .second, .val (.long q3), .second, .val (.long q4), .second, .val (.int p5), .val .null, .unset, .unset] [(.int p5), (.ref a1)])) rfl rfl (hb hby d1_23)
  have Fw5 := (((F_3.other W2 (Or.inr (slot_ne (Or.inr (hw _ (List.mem_of_getElem? (i := 16) rfl))) (Or.inr (hw _ (List.mem_of_getElem? (i := 10) rfl))) (by decide) (t := .int) (t' := .long) (by decide) (by decide)))).other W3 (Or.inr (slot_ne (Or.inr (hw _ (List.mem_of_getElem? (i := 16) rfl))) (Or.inr (hw _ (List.mem_of_getElem? (i := 12) rfl))) (by decide) (t := .int) (t' := .long) (by decide) (by decide)))).other W4 (Or.inr (slot_ne (Or.inr (hw _ (List.mem_of_getElem? (i := 16) rfl))) (Or.inr (hw _ (List.mem_of_getElem? (i := 14) rfl))) (by decide) (t := .int) (t' := .long) (by decide) (by decide)))).same W5
  have K5 : Keep h0 h5 [a1] := K4.wr W5 (Or.inl (by simp))
  have N5 := Fr.snoc X5 N4 g_a1
  refine own_step st5 ?_
  show own_Go p e below s _ _ _ (T5.setTop (mkF m 26 #[.val (.ref a1), .val (.long q2), .second, .val (.long q3), .second, .val (.long q4), .second, .val (.int p5), .val .null, .unset, .unset] []))
  refine own_step (B := T5.setTop (mkF m 29 #[.val (.ref a1), .val (.long q2), .second, .val (.long q3), .second, .val (.long q4), .second, .val (.int p5), .val .null, .unset, .unset] [.null, (.ref a1)])) (fun t k => ?_) ?_
  · show Steps p.tables e below (T5.setTop (mkF m 26 #[.val (.ref a1), .val (.long q2), .second, .val (.long q3), .second, .val (.long q4), .second, .val (.int p5), .val .null, .unset, .unset] [])) _
    refine XS.aloadN X5.here hx rfl (hb hby d1_26) rfl rfl ?_
    show Steps p.tables e below (T5.setTop (mkF m 27 #[.val (.ref a1), .val (.long q2), .second, .val (.long q3), .second, .val (.long q4), .second, .val (.int p5), .val .null, .unset, .unset] [(.ref a1)])) _
    refine XS.aload X5.here hx rfl (hb hby d1_27) rfl rfl ?_
    exact k
  obtain ⟨T6, h6, X6, e6, W6, st6⟩ := putF X5 hx hZ hown (host := "") (Or.inl (hw _ (List.mem_of_getElem? (i := 17) rfl))) Via.refl e5 ((((F_4.other W2 (Or.inr (slot_ne (Or.inr (hw _ (List.mem_of_getElem? (i := 18) rfl))) (Or.inr (hw _ (List.mem_of_getElem? (i := 10) rfl))) (by decide) (t := (.object "com/example/lichen/lichen/bucket/Granularity")) (t' := .long) (by decide) (by decide)))).other W3 (Or.inr (slot_ne (Or.inr (hw _ (List.mem_of_getElem? (i := 18) rfl))) (Or.inr (hw _ (List.mem_of_getElem? (i := 12) rfl))) (by decide) (t := (.object "com/example/lichen/lichen/bucket/Granularity")) (t' := .long) (by decide) (by decide)))).other W4 (Or.inr (slot_ne (Or.inr (hw _ (List.mem_of_getElem? (i := 18) rfl))) (Or.inr (hw _ (List.mem_of_getElem? (i := 14) rfl))) (by decide) (t := (.object "com/example/lichen/lichen/bucket/Granularity")) (t' := .long) (by decide) (by decide)))).other W5 (Or.inr (slot_ne (Or.inr (hw _ (List.mem_of_getElem? (i := 18) rfl))) (Or.inr (hw _ (List.mem_of_getElem? (i := 16) rfl))) (by decide) (t := (.object "com/example/lichen/lichen/bucket/Granularity")) (t' := .int) (by decide) (by decide)))) ((((E_a1.wr W2).wr W3).wr W4).wr W5) (Or.inr ⟨(hw _ (List.mem_of_getElem? (i := 18) rfl)), rfl, hnm⟩) (hw _ (List.mem_of_getElem? (i := 1) rfl)) (ty := (.object "com/example/lichen/lichen/bucket/Granularity")) (by decide) rfl rfl (g := (mkF m 29 #[.val (.ref a1), .val (.long q2), .second, .val (.long q3), .second, .val (.long q4), .second, .val (.int p5), .val .null, .unset, .unset] [.null, (.ref a1)])) rfl rfl (hb hby d1_29)
  have Fw6 := ((((F_4.other W2 (Or.inr (slot_ne (Or.inr (hw _ (List.mem_of_getElem? (i := 18) rfl))) (Or.inr (hw _ (List.mem_of_getElem? (i := 10) rfl))) (by decide) (t := (.object "com/example/lichen/lichen/bucket/Granularity")) (t' := .long) (by decide) (by decide)))).other W3 (Or.inr (slot_ne (Or.inr (hw _ (List.mem_of_getElem? (i := 18) rfl))) (Or.inr (hw _ (List.mem_of_getElem? (i := 12) rfl))) (by decide) (t := (.object "com/example/lichen/lichen/bucket/Granularity")) (t' := .long) (by decide) (by decide)))).other W4 (Or.inr (slot_ne (Or.inr (hw _ (List.mem_of_getElem? (i := 18) rfl))) (Or.inr (hw _ (List.mem_of_getElem? (i := 14) rfl))) (by decide) (t := (.object "com/example/lichen/lichen/bucket/Granularity")) (t' := .long) (by decide) (by decide)))).other W5 (Or.inr (slot_ne (Or.inr (hw _ (List.mem_of_getElem? (i := 18) rfl))) (Or.inr (hw _ (List.mem_of_getElem? (i := 16) rfl))) (by decide) (t := (.object "com/example/lichen/lichen/bucket/Granularity")) (t' := .int) (by decide) (by decide)))).same W6
  have K6 : Keep h0 h6 [a1] := K5.wr W6 (Or.inl (by simp))
  have N6 := Fr.snoc X6 N5 g_a1
  refine own_step st6 ?_
  show own_Go p e below s _ _ _ (T6.setTop (mkF m 32 #[.val (.ref a1), .val (.long q2), .second, .val (.long q3), .second, .val (.long q4), .second, .val (.int p5), .val .null, .unset, .unset] []))
  refine own_step (B := T6.setTop (mkF m 34 #[.val (.ref a1), .val (.long q2), .second, .val (.long q3), .second, .val (.long q4), .second, .val (.int p5), .val .null, .unset, .unset] [(.long q4)])) (fun t k => ?_) ?_
  · show Steps p.tables e below (T6.setTop (mkF m 32 #[.val (.ref a1), .val (.long q2), .second, .val (.long q3), .second, .val (.long q4), .second, .val (.int p5), .val .null, .unset, .unset] [])) _
    refine XS.lload X6.here hx rfl (hb hby d1_32) rfl ?_
    exact k
  obtain ⟨_, _, ⟨T7, L7, k7, n7⟩, -, X7, ⟨Lc7, hQ7, l7, y7, z7⟩, st7⟩ := Jvm.LawKit.callS X6 hx (y := (⟨"java/lang/Math", "abs", "(J)J"⟩ : MethodName)) hown (mvT hZ (hw _ (List.mem_of_getElem? (i := 19) rfl))) (mvT hZ (hw _ (List.mem_of_getElem? (i := 20) rfl))) (mvT hZ (hw _ (List.mem_of_getElem? (i := 21) rfl))) (mvT hZ (hw _ (List.mem_of_getElem? (i := 22) rfl))) (by decide) (backOf (W := 0) (rm3 l Z a0 hw [] q4  h6 n0 (Nat.le_trans (Nat.le_trans (Nat.le_trans (Nat.le_trans (Nat.le_trans Z0 (Keep.of_wr W2).1) (Keep.of_wr W3).1) (Keep.of_wr W4).1) (Keep.of_wr W5).1) (Keep.of_wr W6).1) ) hZ (hw _ (List.mem_of_getElem? (i := 22) rfl)) (hw _ (List.mem_of_getElem? (i := 21) rfl)) (by decide) (by decide)) (g := (mkF m 34 #[.val (.ref a1), .val (.long q2), .second, .val (.long q3), .second, .val (.long q4), .second, .val (.int p5), .val .null, .unset, .unset] [(.long q4)])) rfl (by rw [hml]; rfl) (argsL := [(.long q4)]) (rest := []) (lenOf pd_11 rfl) rfl (by show 2 * 0 + _ ≤ _; exact Nat.le_of_eq rfl) (hb hby d1_34) (fun _ _ => ⟨rfl, e6, (by decide : 0 + 0 ≤ _), (by decide : 0 + 0 ≤ _)⟩)
  dsimp only [Pt.U, Pt.locs, Pt.cells, Pt.slots] at X7 l7 y7 z7 st7 hQ7
  subst l7 y7 z7
  obtain ⟨rfl, N7q, e7⟩ := hQ7
  have N7 := Fr.app N6 N7q
  refine own_step st7 ?_
  show own_Go p e below s _ _ _ (T7.setTop (mkF m 37 #[.val (.ref a1), .val (.long q2), .second, .val (.long q3), .second, .val (.long q4), .second, .val (.int p5), .val .null, .unset, .unset] [(.long (if q4 < (0 : Int64) then -q4 else q4))]))
  refine own_step (B := T7.setTop (mkF m 45 #[.val (.ref a1), .val (.long q2), .second, .val (.long q3), .second, .val (.long q4), .second, .val (.int p5), .val .null, .val (.long (if q4 < (0 : Int64) then -q4 else q4)), .second] [(.ref a1)])) (fun t k => ?_) ?_
  · show Steps p.tables e below (T7.setTop (mkF m 37 #[.val (.ref a1), .val (.long q2), .second, .val (.long q3), .second, .val (.long q4), .second, .val (.int p5), .val .null, .unset, .unset] [(.long (if q4 < (0 : Int64) then -q4 else q4))])) _
    refine XS.lstore X7.here hx rfl (hb hby d1_37) rfl (l' := #[.val (.ref a1), .val (.long q2), .second, .val (.long q3), .second, .val (.long q4), .second, .val (.int p5), .val .null, .val (.long (if q4 < (0 : Int64) then -q4 else q4)), .second]) rfl ?_
    show Steps p.tables e below (T7.setTop (mkF m 39 #[.val (.ref a1), .val (.long q2), .second, .val (.long q3), .second, .val (.long q4), .second, .val (.int p5), .val .null, .val (.long (if q4 < (0 : Int64) then -q4 else q4)), .second] [])) _
    refine XS.aloadN X7.here hx rfl (hb hby d1_39) rfl rfl ?_
    show Steps p.tables e below (T7.setTop (mkF m 40 #[.val (.ref a1), .val (.long q2), .second, .val (.long q3), .second, .val (.long q4), .second, .val (.int p5), .val .null, .val (.long (if q4 < (0 : Int64) then -q4 else q4)), .second] [(.ref a1)])) _
    refine XS.aload X7.here hx rfl (hb hby d1_40) rfl rfl ?_
    show Steps p.tables e below (T7.setTop (mkF m 42 #[.val (.ref a1), .val (.long q2), .second, .val (.long q3), .second, .val (.long q4), .second, .val (.int p5), .val .null, .val (.long (if q4 < (0 : Int64) then -q4 else q4)), .second] [.null, (.ref a1)])) _
    refine XS.ifnonnullNo X7.here hx rfl (hb hby d1_42) rfl ?_
    exact k
  obtain ⟨T8, h8, X8, e8, E8, A8, D8, -, st8⟩ := newO X7 hx hZ hown (hw _ (List.mem_of_getElem? (i := 23) rfl)) (hw _ (List.mem_of_getElem? (i := 24) rfl)) (hw _ (List.mem_of_getElem? (i := 25) rfl)) e7 (g := (mkF m 45 #[.val (.ref a1), .val (.long q2), .second, .val (.long q3), .second, .val (.long q4), .second, .val (.int p5), .val .null, .val (.long (if q4 < (0 : Int64) then -q4 else q4)), .second] [(.ref a1)])) rfl (hb hby d1_45) (by decide) (by decide)
  obtain ⟨b8, g8⟩ : ∃ z, z = h6.size := ⟨_, rfl⟩
  rw [← g8] at A8 D8 st8
  have g_b8 : n0 ≤ b8 := Nat.le_trans (Nat.le_trans (Nat.le_trans (Nat.le_trans (Nat.le_trans (Nat.le_trans Z0 (Keep.of_wr W2).1) (Keep.of_wr W3).1) (Keep.of_wr W4).1) (Keep.of_wr W5).1) (Keep.of_wr W6).1) (Nat.le_of_eq g8.symm)
  have ne_a1_b8 : a1 ≠ b8 := Nat.ne_of_lt (Nat.lt_of_lt_of_le (((((E_a1.wr W2).wr W3).wr W4).wr W5).wr W6).lt (Nat.le_of_eq g8.symm))
  have sz_b8 : h0.size ≤ b8 := Nat.le_trans K6.1 (Nat.le_of_eq g8.symm)
  have K8 : Keep h0 h8 [a1] := K6.ext E8
  have F_bucketStart_b8 : Fld Z h8 b8 "com/example/lichen/lichen/bucket/Slice" "bucketStart" "J" (.long (0 : Int64)) := D8 (Or.inr (hw _ (List.mem_of_getElem? (i := 31) rfl))) (ty := .long) (by decide)
  have F_millis_b8 : Fld Z h8 b8 "com/example/lichen/lichen/bucket/Slice" "millis" "J" (.long (0 : Int64)) := D8 (Or.inr (hw _ (List.mem_of_getElem? (i := 33) rfl))) (ty := .long) (by decide)
  refine own_step st8 ?_
  show own_Go p e below s _ _ _ (T8.setTop (mkF m 48 #[.val (.ref a1), .val (.long q2), .second, .val (.long q3), .second, .val (.long q4), .second, .val (.int p5), .val .null, .val (.long (if q4 < (0 : Int64) then -q4 else q4)), .second] [(.ref b8), (.ref a1)]))
  refine own_step (B := T8.setTop (mkF m 52 #[.val (.ref a1), .val (.long q2), .second, .val (.long q3), .second, .val (.long q4), .second, .val (.int p5), .val .null, .val (.long (if q4 < (0 : Int64) then -q4 else q4)), .second] [(.long (if q4 < (0 : Int64) then -q4 else q4)), (.long q3), (.ref b8), (.ref b8), (.ref a1)])) (fun t k => ?_) ?_
  · show Steps p.tables e below (T8.setTop (mkF m 48 #[.val (.ref a1), .val (.long q2), .second, .val (.long q3), .second, .val (.long q4), .second, .val (.int p5), .val .null, .val (.long (if q4 < (0 : Int64) then -q4 else q4)), .second] [(.ref b8), (.ref a1)])) _
    refine XS.dup X8.here hx rfl (hb hby d1_48) rfl rfl ?_
    show Steps p.tables e below (T8.setTop (mkF m 49 #[.val (.ref a1), .val (.long q2), .second, .val (.long q3), .second, .val (.long q4), .second, .val (.int p5), .val .null, .val (.long (if q4 < (0 : Int64) then -q4 else q4)), .second] [(.ref b8), (.ref b8), (.ref a1)])) _
    refine XS.lloadN X8.here hx rfl (hb hby d1_49) rfl ?_
    show Steps p.tables e below (T8.setTop (mkF m 50 #[.val (.ref a1), .val (.long q2), .second, .val (.long q3), .second, .val (.long q4), .second, .val (.int p5), .val .null, .val (.long (if q4 < (0 : Int64) then -q4 else q4)), .second] [(.long q3), (.ref b8), (.ref b8), (.ref a1)])) _
    refine XS.lload X8.here hx rfl (hb hby d1_50) rfl ?_
    exact k
  obtain ⟨_, _, ⟨T9, L9, k9, n9⟩, -, X9, ⟨Lc9, hQ9, l9, y9, z9⟩, st9⟩ := X8.specialBack hx (y := (⟨"com/example/lichen/lichen/bucket/Slice", "<init>", "(JJ)V"⟩ : MethodName)) rfl hown (mvT hZ (hw _ (List.mem_of_getElem? (i := 26) rfl))) (mvT hZ (hw _ (List.mem_of_getElem? (i := 27) rfl))) (mvT hZ (hw _ (List.mem_of_getElem? (i := 28) rfl))) (by decide) (backOf (W := 2) (rm4 l Z a0 hw [] b8 q3 (if q4 < (0 : Int64) then -q4 else q4) _ _ h8 n0 (Nat.le_trans (Nat.le_trans (Nat.le_trans (Nat.le_trans (Nat.le_trans (Nat.le_trans Z0 (Keep.of_wr W2).1) (Keep.of_wr W3).1) (Keep.of_wr W4).1) (Keep.of_wr W5).1) (Keep.of_wr W6).1) E8.1) A8 F_bucketStart_b8 F_millis_b8 g_b8) hZ (hw _ (List.mem_of_getElem? (i := 28) rfl)) (hw _ (List.mem_of_getElem? (i := 25) rfl)) (by decide) (by decide)) (g := (mkF m 52 #[.val (.ref a1), .val (.long q2), .second, .val (.long q3), .second, .val (.long q4), .second, .val (.int p5), .val .null, .val (.long (if q4 < (0 : Int64) then -q4 else q4)), .second] [(.long (if q4 < (0 : Int64) then -q4 else q4)), (.long q3), (.ref b8), (.ref b8), (.ref a1)])) rfl (by rw [hml]; rfl) (Steps.refl _) (a := b8) (argsL := [(.long q3), (.long (if q4 < (0 : Int64) then -q4 else q4))]) (rest := [(.ref b8), (.ref a1)]) (lenOf pd_12 rfl) rfl (by show 2 * 0 + _ ≤ _; exact Nat.le_of_eq rfl) (hb hby d1_52) (fun _ _ => ⟨rfl, e8, (by decide : 1 + 0 ≤ _), (by decide : 2 + 0 ≤ _)⟩)
  dsimp only [Pt.U, Pt.locs, Pt.cells, Pt.slots] at X9 l9 y9 z9 st9 hQ9
  subst l9 y9 z9
  obtain ⟨rfl, N9q, K9, Ex9, Fa9, Fb9⟩ := hQ9
  have N9 := Fr.app N7 N9q
  refine own_via st9 ?_
  show own_Go p e below s _ _ _ (T9.setTop (mkF m 55 #[.val (.ref a1), .val (.long q2), .second, .val (.long q3), .second, .val (.long q4), .second, .val (.int p5), .val .null, .val (.long (if q4 < (0 : Int64) then -q4 else q4)), .second] [(.ref b8), (.ref a1)]))
  have KK9 : Keep h0 T9.heap [a1] := K8.trans K9 (allS (Or.inr sz_b8) all0)
  obtain ⟨_, _, ⟨T10, L10, k10, n10⟩, -, X10, ⟨Lc10, hQ10, l10, y10, z10⟩, st10⟩ := Jvm.LawKit.callS X9 hx (y := (⟨"java/util/List", "of", "(Ljava/lang/Object;)Ljava/util/List;"⟩ : MethodName)) hown (mvT hZ (hw _ (List.mem_of_getElem? (i := 34) rfl))) (mvT hZ (hw _ (List.mem_of_getElem? (i := 35) rfl))) (mvT hZ (hw _ (List.mem_of_getElem? (i := 36) rfl))) (mvT hZ (hw _ (List.mem_of_getElem? (i := 37) rfl))) (by decide) (backOf (W := 1) (rm5 l Z a0 hw [] b8 em T9.heap n0 (Nat.le_trans (Nat.le_trans (Nat.le_trans (Nat.le_trans (Nat.le_trans (Nat.le_trans (Nat.le_trans Z0 (Keep.of_wr W2).1) (Keep.of_wr W3).1) (Keep.of_wr W4).1) (Keep.of_wr W5).1) (Keep.of_wr W6).1) E8.1) K9.1) (own_staKeep ((((((S_E.wr W2).wr W3).wr W4).wr W5).wr W6).ext E8) K9 (nsS (Exa.nostat A8) ns0))) hZ (hw _ (List.mem_of_getElem? (i := 37) rfl)) (hw _ (List.mem_of_getElem? (i := 36) rfl)) (by decide) (by decide)) (g := (mkF m 55 #[.val (.ref a1), .val (.long q2), .second, .val (.long q3), .second, .val (.long q4), .second, .val (.int p5), .val .null, .val (.long (if q4 < (0 : Int64) then -q4 else q4)), .second] [(.ref b8), (.ref a1)])) rfl (by rw [hml]; rfl) (argsL := [(.ref b8)]) (rest := [(.ref a1)]) (lenOf pd_13 rfl) rfl (by show 2 * 0 + _ ≤ _; exact Nat.le_of_eq rfl) (hb hby d1_55) (fun _ _ => ⟨rfl, rfl, (by decide : 1 + 1 ≤ _), (by decide : 2 + 2 ≤ _)⟩)
  dsimp only [Pt.U, Pt.locs, Pt.cells, Pt.slots] at X10 l10 y10 z10 st10 hQ10
  subst l10 y10 z10
  obtain ⟨r10, rfl, N10q, K10, sr10, Er10, Fr10⟩ := hQ10
  have N10 := Fr.app N9 N10q
  refine own_step st10 ?_
  show own_Go p e below s _ _ _ (T10.setTop (mkF m 58 #[.val (.ref a1), .val (.long q2), .second, .val (.long q3), .second, .val (.long q4), .second, .val (.int p5), .val .null, .val (.long (if q4 < (0 : Int64) then -q4 else q4)), .second] [(.ref r10), (.ref a1)]))
  have ne_a1_r : a1 ≠ r10 := Nat.ne_of_lt (Nat.lt_of_lt_of_le (((((((E_a1.wr W2).wr W3).wr W4).wr W5).wr W6).ext E8).keep K9).lt sr10)
  have KK10 : Keep h0 T10.heap [a1] := KK9.trans K10 all0
  refine own_step (B := T10.setTop (mkF m 73 #[.val (.ref a1), .val (.long q2), .second, .val (.long q3), .second, .val (.long q4), .second, .val (.int p5), .val .null, .val (.long (if q4 < (0 : Int64) then -q4 else q4)), .second] [(.ref r10), (.ref a1)])) (fun t k => ?_) ?_
  · show Steps p.tables e below (T10.setTop (mkF m 58 #[.val (.ref a1), .val (.long q2), .second, .val (.long q3), .second, .val (.long q4), .second, .val (.int p5), .val .null, .val (.long (if q4 < (0 : Int64) then -q4 else q4)), .second] [(.ref r10), (.ref a1)])) _
    refine XS.goto X10.here hx rfl (pc0 := 58) (pc' := 73) rfl (hb hby d1_58) (by decide) (by decide) ?_
    exact k
  obtain ⟨T11, h11, X11, e11, W11, st11⟩ := putF X10 hx hZ hown (host := "") (Or.inl (hw _ (List.mem_of_getElem? (i := 74) rfl))) Via.refl rfl ((((((((F_5.other W2 (Or.inr (slot_ne (Or.inr (hw _ (List.mem_of_getElem? (i := 75) rfl))) (Or.inr (hw _ (List.mem_of_getElem? (i := 10) rfl))) (by decide) (t := (.object "java/util/List")) (t' := .long) (by decide) (by decide)))).other W3 (Or.inr (slot_ne (Or.inr (hw _ (List.mem_of_getElem? (i := 75) rfl))) (Or.inr (hw _ (List.mem_of_getElem? (i := 12) rfl))) (by decide) (t := (.object "java/util/List")) (t' := .long) (by decide) (by decide)))).other W4 (Or.inr (slot_ne (Or.inr (hw _ (List.mem_of_getElem? (i := 75) rfl))) (Or.inr (hw _ (List.mem_of_getElem? (i := 14) rfl))) (by decide) (t := (.object "java/util/List")) (t' := .long) (by decide) (by decide)))).other W5 (Or.inr (slot_ne (Or.inr (hw _ (List.mem_of_getElem? (i := 75) rfl))) (Or.inr (hw _ (List.mem_of_getElem? (i := 16) rfl))) (by decide) (t := (.object "java/util/List")) (t' := .int) (by decide) (by decide)))).other W6 (Or.inr (slot_ne (Or.inr (hw _ (List.mem_of_getElem? (i := 75) rfl))) (Or.inr (hw _ (List.mem_of_getElem? (i := 18) rfl))) (by decide) (t := (.object "java/util/List")) (t' := (.object "com/example/lichen/lichen/bucket/Granularity")) (by decide) (by decide)))).ext E8).keep K9 (ninS ne_a1_b8 nin0)).keep K10 nin0) ((((((((E_a1.wr W2).wr W3).wr W4).wr W5).wr W6).ext E8).keep K9).keep K10) (Or.inr ⟨(hw _ (List.mem_of_getElem? (i := 75) rfl)), rfl, hnm⟩) (hw _ (List.mem_of_getElem? (i := 1) rfl)) (ty := (.object "java/util/List")) (by decide) rfl rfl (g := (mkF m 73 #[.val (.ref a1), .val (.long q2), .second, .val (.long q3), .second, .val (.long q4), .second, .val (.int p5), .val .null, .val (.long (if q4 < (0 : Int64) then -q4 else q4)), .second] [(.ref r10), (.ref a1)])) rfl rfl (hb hby d1_73)
  have Fw11 := ((((((((F_5.other W2 (Or.inr (slot_ne (Or.inr (hw _ (List.mem_of_getElem? (i := 75) rfl))) (Or.inr (hw _ (List.mem_of_getElem? (i := 10) rfl))) (by decide) (t := (.object "java/util/List")) (t' := .long) (by decide) (by decide)))).other W3 (Or.inr (slot_ne (Or.inr (hw _ (List.mem_of_getElem? (i := 75) rfl))) (Or.inr (hw _ (List.mem_of_getElem? (i := 12) rfl))) (by decide) (t := (.object "java/util/List")) (t' := .long) (by decide) (by decide)))).other W4 (Or.inr (slot_ne (Or.inr (hw _ (List.mem_of_getElem? (i := 75) rfl))) (Or.inr (hw _ (List.mem_of_getElem? (i := 14) rfl))) (by decide) (t := (.object "java/util/List")) (t' := .long) (by decide) (by decide)))).other W5 (Or.inr (slot_ne (Or.inr (hw _ (List.mem_of_getElem? (i := 75) rfl))) (Or.inr (hw _ (List.mem_of_getElem? (i := 16) rfl))) (by decide) (t := (.object "java/util/List")) (t' := .int) (by decide) (by decide)))).other W6 (Or.inr (slot_ne (Or.inr (hw _ (List.mem_of_getElem? (i := 75) rfl))) (Or.inr (hw _ (List.mem_of_getElem? (i := 18) rfl))) (by decide) (t := (.object "java/util/List")) (t' := (.object "com/example/lichen/lichen/bucket/Granularity")) (by decide) (by decide)))).ext E8).keep K9 (ninS ne_a1_b8 nin0)).keep K10 nin0).same W11
  have K11 : Keep h0 h11 [a1] := KK10.wr W11 (Or.inl (by simp))
  have N11 := Fr.snoc X11 N10 g_a1
  refine own_step st11 ?_
  show own_Go p e below s _ _ _ (T11.setTop (mkF m 76 #[.val (.ref a1), .val (.long q2), .second, .val (.long q3), .second, .val (.long q4), .second, .val (.int p5), .val .null, .val (.long (if q4 < (0 : Int64) then -q4 else q4)), .second] []))
  exact own_retV X11 hx Bd.notSynchronized Bd.returns (hb hby d1_76) ⟨rfl, N11, by rw [e11]; exact K11, by rw [e11]; exact (((((((((E_a1.wr W2).wr W3).wr W4).wr W5).wr W6).ext E8).keep K9).keep K10).wr W11), r10, by rw [e11]; exact Fw11, by rw [e11]; exact (Er10.wr W11), by rw [e11]; exact (Fr10.other W11 (Or.inl (Ne.symm ne_a1_r)))⟩ (by decide) (by decide)
theorem d12_0 : decode prog_19_method_9_code 0 = .ok (.aload_n 0, 1) := by decide +kernel
theorem d12_1 : decode prog_19_method_9_code 1 = .ok (.getfield 54, 3) := by decide +kernel
theorem d12_4 : decode prog_19_method_9_code 4 = .ok (.invokeinterface 78 1, 5) := by decide +kernel
theorem d12_9 : decode prog_19_method_9_code 9 = .ok (.ireturn, 1) := by decide +kernel
theorem pd_15 : parseMethodDescriptor "()I" = some ⟨[], some .int⟩ := by decide +kernel
theorem ef_12 (m : MethodId) (a1 : Addr) : entryFrame m #[(.ref a1)] 1 = mkF m 0 #[.val (.ref a1)] [] := by first | (simp [entryFrame, mkF, argsToLocals, Value.category]; done) | rfl
def Q12 (Z : State) (a1 : Addr) (r : Addr) (em : Addr) (h0 : Heap) (n0 : Nat) (v : Option Value) (h : Heap) (L : List Loc) : Prop := v = some (.int (1 : Int32)) ∧ Fr n0 L ∧ h = h0
set_option maxRecDepth 65536 in
set_option maxHeartbeats 40000000 in
theorem rm12 (l : Launch) (Z : State) (a0 : Array Value) (hw : ∀ d ∈ tables_1, d.before a0 Z = true) (ws : List Jvm.Cond) (a1 : Addr) (r : Addr) (em : Addr) (h0 : Heap) (n0 : Nat) (Z0 : n0 ≤ h0.size) (P_0 : Fld Z h0 a1 "com/example/lichen/lichen/continuous/Span" "slices" "Ljava/util/List;" (.ref r)) (P_1 : Exa Z h0 r "java/util/ImmutableCollections$List12") (P_2 : Fld Z h0 r "java/util/ImmutableCollections$List12" "e1" "Ljava/lang/Object;" (.ref em)) (S_E : Sta Z h0 "java/util/ImmutableCollections" "EMPTY" "Ljava/lang/Object;" (.ref em)) :
    MetFree l (⟨"com/example/lichen/lichen/continuous/Span", "intervals", "()I"⟩ : MethodName) (head1 (Jvm.Cond.code (⟨"com/example/lichen/lichen/continuous/Span", "intervals", "()I"⟩ : MethodName) prog_19_method_9_code 1 (some .int) :: ws) ({ frames := 1, cells := 0, slots := 0, locals := 12 } : Room)) (fun a U => a = #[(.ref a1)] ∧ Z.Warmed39 U.vm ∧ U.heap = h0) (fun _ _ _ _ _ => True) (fun _ U o U' => ∃ v L, o = .returned v ∧ Q12 Z a1 r em h0 n0 v U'.heap L ∧ FrameEnd U o U' L ({ frames := 1, cells := 0, slots := 0, locals := 12 } : Room).cells ({ frames := 1, cells := 0, slots := 0, locals := 12 } : Room).slots) := by
  refine MetFree.of_bodySF (plainFor_of_name pn_14) hisR ?_
  intro p e s m args below meth c s₁ Bd hml0 hP hK
  obtain ⟨rfl, hZ, hh⟩ := hP
  have hx := Bd.exec
  have hby := Bd.bytes
  have hml : c.maxLocals = 1 := hml0
  have hown : s.vm.findClass "com/example/lichen/lichen/continuous/Span" = some m.cls := findClass_of_methodNamed Bd.named
  have hnm := (name_of_methodNamed Bd.named Bd.method).1
  have X0 : Stand p l e ({ frames := 1, cells := 0, slots := 0, locals := 12 } : Room) s m #[(.ref a1)] below meth c s₁ [] 0 0 := Stand.of_body Bd
  have e0 : s₁.heap = h0 := by rw [← hh, Bd.state]; rfl
  have N0 := Fr.nil n0
  skip
  show own_Go p e below s (Q12 Z a1 r em h0 n0) ({ frames := 1, cells := 0, slots := 0, locals := 12 } : Room).cells ({ frames := 1, cells := 0, slots := 0, locals := 12 } : Room).slots _
  refine own_step (B := s₁.setTop (mkF m 0 #[.val (.ref a1)] [])) (fun t k => castTop (ef_12 m a1) k) ?_
  refine own_step (B := s₁.setTop (mkF m 1 #[.val (.ref a1)] [(.ref a1)])) (fun t k => ?_) ?_
  · show Steps p.tables e below (s₁.setTop (mkF m 0 #[.val (.ref a1)] [])) _
    refine XS.aloadN X0.here hx rfl (hb hby d12_0) rfl rfl ?_
    exact k
  obtain ⟨T1, X1, e1, st1⟩ := getF X0 hx hZ hown (host := "") (Or.inl (hw _ (List.mem_of_getElem? (i := 74) rfl))) Via.refl e0 P_0 (g := (mkF m 1 #[.val (.ref a1)] [(.ref a1)])) rfl rfl (hb hby d12_1)
  refine own_step st1 ?_
  show own_Go p e below s _ _ _ (T1.setTop (mkF m 4 #[.val (.ref a1)] [(.ref r)]))
  obtain ⟨cq2, kq2, q2a, q2b, q2c⟩ := isOf hZ e1 P_1
  obtain ⟨_, _, ⟨T2, L2, k2, n2⟩, -, X2, ⟨Lc2, hQ2, l2, y2, z2⟩, st2⟩ := X1.interfaceBack hx (xi := (⟨"java/util/List", "size", "()I"⟩ : MethodName)) (y := (⟨"java/util/ImmutableCollections$List12", "size", "()I"⟩ : MethodName)) hown (mvT hZ (hw _ (List.mem_of_getElem? (i := 104) rfl))) (mvT hZ (hw _ (List.mem_of_getElem? (i := 105) rfl))) (mvT hZ (hw _ (List.mem_of_getElem? (i := 106) rfl))) (mvT hZ (hw _ (List.mem_of_getElem? (i := 107) rfl))) (mvT hZ (hw _ (List.mem_of_getElem? (i := 108) rfl))) (mvT hZ (hw _ (List.mem_of_getElem? (i := 109) rfl))) (mvT hZ (hw _ (List.mem_of_getElem? (i := 110) rfl))) (mvT hZ (hw _ (List.mem_of_getElem? (i := 111) rfl))) (by decide) (backOf (W := 0) (rm13 l Z a0 hw [] r em h0 n0 Z0 P_2 S_E) hZ (hw _ (List.mem_of_getElem? (i := 112) rfl)) (hw _ (List.mem_of_getElem? (i := 40) rfl)) (by decide) (by decide)) q2a q2b q2c (g := (mkF m 4 #[.val (.ref a1)] [(.ref r)])) rfl (by rw [hml]; rfl) (Steps.refl _) (argsL := []) (rest := []) (lenOf pd_15 rfl) rfl (by show 2 * 0 + _ ≤ _; exact Nat.le_of_eq rfl) (hb hby d12_4) (fun _ _ => ⟨rfl, e1, (by decide : 0 + 0 ≤ _), (by decide : 0 + 0 ≤ _)⟩)
  dsimp only [Pt.U, Pt.locs, Pt.cells, Pt.slots] at X2 l2 y2 z2 st2 hQ2
  subst l2 y2 z2
  obtain ⟨rfl, N2q, e2⟩ := hQ2
  have N2 := Fr.app N0 N2q
  refine own_via st2 ?_
  show own_Go p e below s _ _ _ (T2.setTop (mkF m 9 #[.val (.ref a1)] [(.int (1 : Int32))]))
  exact own_retI X2 hx Bd.notSynchronized Bd.returns (hb hby d12_9) ⟨rfl, N2, e2⟩ (by decide) (by decide)
theorem d11_0 : decode prog_20_method_1_code 0 = .ok (.aload_n 0, 1) := by decide +kernel
theorem d11_1 : decode prog_20_method_1_code 1 = .ok (.invokespecial 1, 3) := by decide +kernel
theorem d11_4 : decode prog_20_method_1_code 4 = .ok (.aload_n 0, 1) := by decide +kernel
theorem d11_5 : decode prog_20_method_1_code 5 = .ok (.lload_n 1, 1) := by decide +kernel
theorem d11_6 : decode prog_20_method_1_code 6 = .ok (.putfield 7, 3) := by decide +kernel
theorem d11_9 : decode prog_20_method_1_code 9 = .ok (.aload_n 0, 1) := by decide +kernel
theorem d11_10 : decode prog_20_method_1_code 10 = .ok (.aload_n 3, 1) := by decide +kernel
theorem d11_11 : decode prog_20_method_1_code 11 = .ok (.putfield 13, 3) := by decide +kernel
theorem d11_14 : decode prog_20_method_1_code 14 = .ok (.aload_n 0, 1) := by decide +kernel
theorem d11_15 : decode prog_20_method_1_code 15 = .ok (.iload 4, 2) := by decide +kernel
theorem d11_17 : decode prog_20_method_1_code 17 = .ok (.putfield 17, 3) := by decide +kernel
theorem d11_20 : decode prog_20_method_1_code 20 = .ok (.aload_n 0, 1) := by decide +kernel
theorem d11_21 : decode prog_20_method_1_code 21 = .ok (.aload 5, 2) := by decide +kernel
theorem d11_23 : decode prog_20_method_1_code 23 = .ok (.putfield 21, 3) := by decide +kernel
theorem d11_26 : decode prog_20_method_1_code 26 = .ok (.aload_n 0, 1) := by decide +kernel
theorem d11_27 : decode prog_20_method_1_code 27 = .ok (.iload 6, 2) := by decide +kernel
theorem d11_29 : decode prog_20_method_1_code 29 = .ok (.putfield 25, 3) := by decide +kernel
theorem d11_32 : decode prog_20_method_1_code 32 = .ok (.aload_n 0, 1) := by decide +kernel
theorem d11_33 : decode prog_20_method_1_code 33 = .ok (.iload 7, 2) := by decide +kernel
theorem d11_35 : decode prog_20_method_1_code 35 = .ok (.putfield 28, 3) := by decide +kernel
theorem d11_38 : decode prog_20_method_1_code 38 = .ok (.aload_n 0, 1) := by decide +kernel
theorem d11_39 : decode prog_20_method_1_code 39 = .ok (.aload 8, 2) := by decide +kernel
theorem d11_41 : decode prog_20_method_1_code 41 = .ok (.putfield 32, 3) := by decide +kernel
theorem d11_44 : decode prog_20_method_1_code 44 = .ok (.aload_n 0, 1) := by decide +kernel
theorem d11_45 : decode prog_20_method_1_code 45 = .ok (.aload 9, 2) := by decide +kernel
theorem d11_47 : decode prog_20_method_1_code 47 = .ok (.putfield 36, 3) := by decide +kernel
theorem d11_50 : decode prog_20_method_1_code 50 = .ok (.aload_n 0, 1) := by decide +kernel
theorem d11_51 : decode prog_20_method_1_code 51 = .ok (.aload 5, 2) := by decide +kernel
theorem d11_53 : decode prog_20_method_1_code 53 = .ok (.invokevirtual 40, 3) := by decide +kernel
theorem d11_56 : decode prog_20_method_1_code 56 = .ok (.anewarray 46, 3) := by decide +kernel
theorem d11_59 : decode prog_20_method_1_code 59 = .ok (.putfield 48, 3) := by decide +kernel
theorem d11_62 : decode prog_20_method_1_code 62 = .ok (.aload_n 0, 1) := by decide +kernel
theorem d11_63 : decode prog_20_method_1_code 63 = .ok (.aload 5, 2) := by decide +kernel
theorem d11_65 : decode prog_20_method_1_code 65 = .ok (.invokevirtual 40, 3) := by decide +kernel
theorem d11_68 : decode prog_20_method_1_code 68 = .ok (.newarray .boolean, 2) := by decide +kernel
theorem d11_70 : decode prog_20_method_1_code 70 = .ok (.putfield 52, 3) := by decide +kernel
theorem d11_73 : decode prog_20_method_1_code 73 = .ok (.return_, 1) := by decide +kernel
theorem pn_16 : plainName "com/example/lichen/lichen/continuous/TakenSpan" = true := by first | (simp [plainName, overriddenIn]; done) | decide +kernel
theorem ef_11 (m : MethodId) (a1 : Addr) (q2 : Int64) (p4 : Int32) (a5 : Addr) (p6 : Int32) (p7 : Int32) : entryFrame m #[(.ref a1), (.long q2), .null, (.int p4), (.ref a5), (.int p6), (.int p7), .null, .null] 10 = mkF m 0 #[.val (.ref a1), .val (.long q2), .second, .val .null, .val (.int p4), .val (.ref a5), .val (.int p6), .val (.int p7), .val .null, .val .null] [] := by first | (simp [entryFrame, mkF, argsToLocals, Value.category]; done) | rfl
def Q11 (Z : State) (a1 : Addr) (q2 : Int64) (p4 : Int32) (a5 : Addr) (p6 : Int32) (p7 : Int32) (u0 : Value) (u1 : Value) (u2 : Value) (u3 : Value) (u4 : Value) (u5 : Value) (u6 : Value) (u7 : Value) (u8 : Value) (u9 : Value) (r : Addr) (em : Addr) (h0 : Heap) (n0 : Nat) (v : Option Value) (h : Heap) (L : List Loc) : Prop := v = none ∧ Fr n0 L ∧ Keep h0 h [a1] ∧ Exa Z h a1 "com/example/lichen/lichen/continuous/TakenSpan" ∧ ∃ oa k, Fld Z h a1 "com/example/lichen/lichen/continuous/TakenSpan" "outcomes" "[Lcom/example/lichen/lichen/continuous/Settlement$Outcome;" (.ref oa) ∧ Arv Z h oa k (.object "com/example/lichen/lichen/continuous/Settlement$Outcome") (1 : Int32) [.null] .null ∧ Ovr Z k "com/example/lichen/lichen/continuous/Settlement$Outcome" ∧ h0.size ≤ oa ∧ Fld Z h a1 "com/example/lichen/lichen/continuous/TakenSpan" "settled" "Z" (.int (0 : Int32))
set_option maxRecDepth 65536 in
set_option maxHeartbeats 40000000 in
theorem rm11 (l : Launch) (Z : State) (a0 : Array Value) (hw : ∀ d ∈ tables_1, d.before a0 Z = true) (ws : List Jvm.Cond) (a1 : Addr) (q2 : Int64) (p4 : Int32) (a5 : Addr) (p6 : Int32) (p7 : Int32) (u0 : Value) (u1 : Value) (u2 : Value) (u3 : Value) (u4 : Value) (u5 : Value) (u6 : Value) (u7 : Value) (u8 : Value) (u9 : Value) (r : Addr) (em : Addr) (h0 : Heap) (n0 : Nat) (Z0 : n0 ≤ h0.size) (E_a1 : Exa Z h0 a1 "com/example/lichen/lichen/continuous/TakenSpan") (F_0 : Fld Z h0 a1 "com/example/lichen/lichen/continuous/TakenSpan" "id" "J" u0) (F_1 : Fld Z h0 a1 "com/example/lichen/lichen/continuous/TakenSpan" "documentId" "Ljava/lang/String;" u1) (F_2 : Fld Z h0 a1 "com/example/lichen/lichen/continuous/TakenSpan" "firstInterval" "I" u2) (F_3 : Fld Z h0 a1 "com/example/lichen/lichen/continuous/TakenSpan" "span" "Lcom/example/lichen/lichen/continuous/Span;" u3) (F_4 : Fld Z h0 a1 "com/example/lichen/lichen/continuous/TakenSpan" "refusals" "I" u4) (F_5 : Fld Z h0 a1 "com/example/lichen/lichen/continuous/TakenSpan" "sent" "Z" u5) (F_6 : Fld Z h0 a1 "com/example/lichen/lichen/continuous/TakenSpan" "target" "Lcom/example/lichen/lichen/usage/Target;" u6) (F_7 : Fld Z h0 a1 "com/example/lichen/lichen/continuous/TakenSpan" "startMeasurements" "Ljava/util/List;" u7) (F_8 : Fld Z h0 a1 "com/example/lichen/lichen/continuous/TakenSpan" "outcomes" "[Lcom/example/lichen/lichen/continuous/Settlement$Outcome;" u8) (F_9 : Fld Z h0 a1 "com/example/lichen/lichen/continuous/TakenSpan" "reached" "[Z" u9) (F_s : Fld Z h0 a1 "com/example/lichen/lichen/continuous/TakenSpan" "settled" "Z" (.int (0 : Int32))) (g_a1 : n0 ≤ a1) (E_sp : Exa Z h0 a5 "com/example/lichen/lichen/continuous/Span") (P_0 : Fld Z h0 a5 "com/example/lichen/lichen/continuous/Span" "slices" "Ljava/util/List;" (.ref r)) (P_1 : Exa Z h0 r "java/util/ImmutableCollections$List12") (P_2 : Fld Z h0 r "java/util/ImmutableCollections$List12" "e1" "Ljava/lang/Object;" (.ref em)) (S_E : Sta Z h0 "java/util/ImmutableCollections" "EMPTY" "Ljava/lang/Object;" (.ref em)) (hn_p7 : narrow .boolean (.int p7) = .int p7) (hf_p7 : fits .boolean (.int p7) = true) :
    MetFree l (⟨"com/example/lichen/lichen/continuous/TakenSpan", "<init>", "(JLjava/lang/String;ILcom/example/lichen/lichen/continuous/Span;IZLcom/example/lichen/lichen/usage/Target;Ljava/util/List;)V"⟩ : MethodName) (head1 (Jvm.Cond.code (⟨"com/example/lichen/lichen/continuous/TakenSpan", "<init>", "(JLjava/lang/String;ILcom/example/lichen/lichen/continuous/Span;IZLcom/example/lichen/lichen/usage/Target;Ljava/util/List;)V"⟩ : MethodName) prog_20_method_1_code 10 none :: ws) ({ frames := 2, cells := 2, slots := 2, locals := 25 } : Room)) (fun a U => a = #[(.ref a1), (.long q2), .null, (.int p4), (.ref a5), (.int p6), (.int p7), .null, .null] ∧ Z.Warmed39 U.vm ∧ U.heap = h0) (fun _ _ _ _ _ => True) (fun _ U o U' => ∃ v L, o = .returned v ∧ Q11 Z a1 q2 p4 a5 p6 p7 u0 u1 u2 u3 u4 u5 u6 u7 u8 u9 r em h0 n0 v U'.heap L ∧ FrameEnd U o U' L ({ frames := 2, cells := 2, slots := 2, locals := 25 } : Room).cells ({ frames := 2, cells := 2, slots := 2, locals := 25 } : Room).slots) := by
  refine MetFree.of_bodySF (plainFor_of_name pn_16) hisR ?_
  intro p e s m args below meth c s₁ Bd hml0 hP hK
  obtain ⟨rfl, hZ, hh⟩ := hP
  have hx := Bd.exec
  have hby := Bd.bytes
  have hml : c.maxLocals = 10 := hml0
  have hown : s.vm.findClass "com/example/lichen/lichen/continuous/TakenSpan" = some m.cls := findClass_of_methodNamed Bd.named
  have hnm := (name_of_methodNamed Bd.named Bd.method).1
  have X0 : Stand p l e ({ frames := 2, cells := 2, slots := 2, locals := 25 } : Room) s m #[(.ref a1), (.long q2), .null, (.int p4), (.ref a5), (.int p6), (.int p7), .null, .null] below meth c s₁ [] 0 0 := Stand.of_body Bd
  have e0 : s₁.heap = h0 := by rw [← hh, Bd.state]; rfl
  have N0 := Fr.nil n0
  skip
  show own_Go p e below s (Q11 Z a1 q2 p4 a5 p6 p7 u0 u1 u2 u3 u4 u5 u6 u7 u8 u9 r em h0 n0) ({ frames := 2, cells := 2, slots := 2, locals := 25 } : Room).cells ({ frames := 2, cells := 2, slots := 2, locals := 25 } : Room).slots _
  refine own_step (B := s₁.setTop (mkF m 0 #[.val (.ref a1), .val (.long q2), .second, .val .null, .val (.int p4), .val (.ref a5), .val (.int p6), .val (.int p7), .val .null, .val .null] [])) (fun t k => castTop (ef_11 m a1 q2 p4 a5 p6 p7) k) ?_
  have KK0 : Keep h0 h0 [a1] := Keep.refl h0 _
  refine own_step (B := s₁.setTop (mkF m 1 #[.val (.ref a1), .val (.long q2), .second, .val .null, .val (.int p4), .val (.ref a5), .val (.int p6), .val (.int p7), .val .null, .val .null] [(.ref a1)])) (fun t k => ?_) ?_
  · show Steps p.tables e below (s₁.setTop (mkF m 0 #[.val (.ref a1), .val (.long q2), .second, .val .null, .val (.int p4), .val (.ref a5), .val (.int p6), .val (.int p7), .val .null, .val .null] [])) _
    refine XS.aloadN X0.here hx rfl (hb hby d11_0) rfl rfl ?_
    exact k
  obtain ⟨T1, X1, e1, st1⟩ := initO X0 hx hZ hown (hw _ (List.mem_of_getElem? (i := 82) rfl)) (hw _ (List.mem_of_getElem? (i := 7) rfl)) (hw _ (List.mem_of_getElem? (i := 8) rfl)) e0 (g := (mkF m 1 #[.val (.ref a1), .val (.long q2), .second, .val .null, .val (.int p4), .val (.ref a5), .val (.int p6), .val (.int p7), .val .null, .val .null] [(.ref a1)])) rfl (by rw [hml]; rfl) rfl (hb hby d11_1) (by decide) (W := 0) (by show 2 * 0 + _ ≤ _; exact Nat.le_of_eq rfl) (by decide)
  refine own_step st1 ?_
  show own_Go p e below s _ _ _ (T1.setTop (mkF m 4 #[.val (.ref a1), .val (.long q2), .second, .val .null, .val (.int p4), .val (.ref a5), .val (.int p6), .val (.int p7), .val .null, .val .null] []))
  refine own_step (B := T1.setTop (mkF m 6 #[.val (.ref a1), .val (.long q2), .second, .val .null, .val (.int p4), .val (.ref a5), .val (.int p6), .val (.int p7), .val .null, .val .null] [(.long q2), (.ref a1)])) (fun t k => ?_) ?_
  · show Steps p.tables e below (T1.setTop (mkF m 4 #[.val (.ref a1), .val (.long q2), .second, .val .null, .val (.int p4), .val (.ref a5), .val (.int p6), .val (.int p7), .val .null, .val .null] [])) _
    refine XS.aloadN X1.here hx rfl (hb hby d11_4) rfl rfl ?_
    show Steps p.tables e below (T1.setTop (mkF m 5 #[.val (.ref a1), .val (.long q2), .second, .val .null, .val (.int p4), .val (.ref a5), .val (.int p6), .val (.int p7), .val .null, .val .null] [(.ref a1)])) _
    refine XS.lloadN X1.here hx rfl (hb hby d11_5) rfl ?_
    exact k
  obtain ⟨T2, h2, X2, e2, W2, st2⟩ := putF X1 hx hZ hown (host := "") (Or.inl (hw _ (List.mem_of_getElem? (i := 83) rfl))) Via.refl e1 F_0 E_a1 (Or.inr ⟨(hw _ (List.mem_of_getElem? (i := 84) rfl)), rfl, hnm⟩) (hw _ (List.mem_of_getElem? (i := 77) rfl)) (ty := .long) (by decide) rfl rfl (g := (mkF m 6 #[.val (.ref a1), .val (.long q2), .second, .val .null, .val (.int p4), .val (.ref a5), .val (.int p6), .val (.int p7), .val .null, .val .null] [(.long q2), (.ref a1)])) rfl rfl (hb hby d11_6)
  have Fw2 := F_0.same W2
  have K2 : Keep h0 h2 [a1] := KK0.wr W2 (Or.inl (by simp))
  have N2 := Fr.snoc X2 N0 g_a1
  refine own_step st2 ?_
  show own_Go p e below s _ _ _ (T2.setTop (mkF m 9 #[.val (.ref a1), .val (.long q2), .second, .val .null, .val (.int p4), .val (.ref a5), .val (.int p6), .val (.int p7), .val .null, .val .null] []))
  refine own_step (B := T2.setTop (mkF m 11 #[.val (.ref a1), .val (.long q2), .second, .val .null, .val (.int p4), .val (.ref a5), .val (.int p6), .val (.int p7), .val .null, .val .null] [.null, (.ref a1)])) (fun t k => ?_) ?_
  · show Steps p.tables e below (T2.setTop (mkF m 9 #[.val (.ref a1), .val (.long q2), .second, .val .null, .val (.int p4), .val (.ref a5), .val (.int p6), .val (.int p7), .val .null, .val .null] [])) _
    refine XS.aloadN X2.here hx rfl (hb hby d11_9) rfl rfl ?_
    show Steps p.tables e below (T2.setTop (mkF m 10 #[.val (.ref a1), .val (.long q2), .second, .val .null, .val (.int p4), .val (.ref a5), .val (.int p6), .val (.int p7), .val .null, .val .null] [(.ref a1)])) _
    refine XS.aloadN X2.here hx rfl (hb hby d11_10) rfl rfl ?_
    exact k
  obtain ⟨T3, h3, X3, e3, W3, st3⟩ := putF X2 hx hZ hown (host := "") (Or.inl (hw _ (List.mem_of_getElem? (i := 85) rfl))) Via.refl e2 (F_1.other W2 (Or.inr (slot_ne (Or.inr (hw _ (List.mem_of_getElem? (i := 86) rfl))) (Or.inr (hw _ (List.mem_of_getElem? (i := 84) rfl))) (by decide) (t := (.object "java/lang/String")) (t' := .long) (by decide) (by decide)))) (E_a1.wr W2) (Or.inr ⟨(hw _ (List.mem_of_getElem? (i := 86) rfl)), rfl, hnm⟩) (hw _ (List.mem_of_getElem? (i := 77) rfl)) (ty := (.object "java/lang/String")) (by decide) rfl rfl (g := (mkF m 11 #[.val (.ref a1), .val (.long q2), .second, .val .null, .val (.int p4), .val (.ref a5), .val (.int p6), .val (.int p7), .val .null, .val .null] [.null, (.ref a1)])) rfl rfl (hb hby d11_11)
  have Fw3 := (F_1.other W2 (Or.inr (slot_ne (Or.inr (hw _ (List.mem_of_getElem? (i := 86) rfl))) (Or.inr (hw _ (List.mem_of_getElem? (i := 84) rfl))) (by decide) (t := (.object "java/lang/String")) (t' := .long) (by decide) (by decide)))).same W3
  have K3 : Keep h0 h3 [a1] := K2.wr W3 (Or.inl (by simp))
  have N3 := Fr.snoc X3 N2 g_a1
  refine own_step st3 ?_
  show own_Go p e below s _ _ _ (T3.setTop (mkF m 14 #[.val (.ref a1), .val (.long q2), .second, .val .null, .val (.int p4), .val (.ref a5), .val (.int p6), .val (.int p7), .val .null, .val .null] []))
  refine own_step (B := T3.setTop (mkF m 17 #[.val (.ref a1), .val (.long q2), .second, .val .null, .val (.int p4), .val (.ref a5), .val (.int p6), .val (.int p7), .val .null, .val .null] [(.int p4), (.ref a1)])) (fun t k => ?_) ?_
  · show Steps p.tables e below (T3.setTop (mkF m 14 #[.val (.ref a1), .val (.long q2), .second, .val .null, .val (.int p4), .val (.ref a5), .val (.int p6), .val (.int p7), .val .null, .val .null] [])) _
    refine XS.aloadN X3.here hx rfl (hb hby d11_14) rfl rfl ?_
    show Steps p.tables e below (T3.setTop (mkF m 15 #[.val (.ref a1), .val (.long q2), .second, .val .null, .val (.int p4), .val (.ref a5), .val (.int p6), .val (.int p7), .val .null, .val .null] [(.ref a1)])) _
    refine XS.iload X3.here hx rfl (hb hby d11_15) rfl ?_
    exact k
  obtain ⟨T4, h4, X4, e4, W4, st4⟩ := putF X3 hx hZ hown (host := "") (Or.inl (hw _ (List.mem_of_getElem? (i := 87) rfl))) Via.refl e3 ((F_2.other W2 (Or.inr (slot_ne (Or.inr (hw _ (List.mem_of_getElem? (i := 88) rfl))) (Or.inr (hw _ (List.mem_of_getElem? (i := 84) rfl))) (by decide) (t := .int) (t' := .long) (by decide) (by decide)))).other W3 (Or.inr (slot_ne (Or.inr (hw _ (List.mem_of_getElem? (i := 88) rfl))) (Or.inr (hw _ (List.mem_of_getElem? (i := 86) rfl))) (by decide) (t := .int) (t' := (.object "java/lang/String")) (by decide) (by decide)))) ((E_a1.wr W2).wr W3) (Or.inr ⟨(hw _ (List.mem_of_getElem? (i := 88) rfl)), rfl, hnm⟩) (hw _ (List.mem_of_getElem? (i := 77) rfl)) (ty := .int) (by decide) rfl rfl (g := (mkF m 17 #[.val (.ref a1), .val (.long q2), .second, .val .null, .val (.int p4), .val (.ref a5), .val (.int p6), .val (.int p7), .val .null, .val .null] [(.int p4), (.ref a1)])) rfl rfl (hb hby d11_17)
  have Fw4 := ((F_2.other W2 (Or.inr (slot_ne (Or.inr (hw _ (List.mem_of_getElem? (i := 88) rfl))) (Or.inr (hw _ (List.mem_of_getElem? (i := 84) rfl))) (by decide) (t := .int) (t' := .long) (by decide) (by decide)))).other W3 (Or.inr (slot_ne (Or.inr (hw _ (List.mem_of_getElem? (i := 88) rfl))) (Or.inr (hw _ (List.mem_of_getElem? (i := 86) rfl))) (by decide) (t := .int) (t' := (.object "java/lang/String")) (by decide) (by decide)))).same W4
  have K4 : Keep h0 h4 [a1] := K3.wr W4 (Or.inl (by simp))
  have N4 := Fr.snoc X4 N3 g_a1
  refine own_step st4 ?_
  show own_Go p e below s _ _ _ (T4.setTop (mkF m 20 #[.val (.ref a1), .val (.long q2), .second, .val .null, .val (.int p4), .val (.ref a5), .val (.int p6), .val (.int p7), .val .null, .val .null] []))
  refine own_step (B := T4.setTop (mkF m 23 #[.val (.ref a1), .val (.long q2), .second, .val .null, .val (.int p4), .val (.ref a5), .val (.int p6), .val (.int p7), .val .null, .val .null] [(.ref a5), (.ref a1)])) (fun t k => ?_) ?_
  · show Steps p.tables e below (T4.setTop (mkF m 20 #[.val (.ref a1), .val (.long q2), .second, .val .null, .val (.int p4), .val (.ref a5), .val (.int p6), .val (.int p7), .val .null, .val .null] [])) _
    refine XS.aloadN X4.here hx rfl (hb hby d11_20) rfl rfl ?_
    show Steps p.tables e below (T4.setTop (mkF m 21 #[.val (.ref a1), .val (.long q2), .second, .val .null, .val (.int p4), .val (.ref a5), .val (.int p6), .val (.int p7), .val .null, .val .null] [(.ref a1)])) _
    refine XS.aload X4.here hx rfl (hb hby d11_21) rfl rfl ?_
    exact k
  obtain ⟨T5, h5, X5, e5, W5, st5⟩ := putF X4 hx hZ hown (host := "") (Or.inl (hw _ (List.mem_of_getElem? (i := 89) rfl))) Via.refl e4 (((F_3.other W2 (Or.inr (slot_ne (Or.inr (hw _ (List.mem_of_getElem? (i := 90) rfl))) (Or.inr (hw _ (List.mem_of_getElem? (i := 84) rfl))) (by decide) (t := (.object "com/example/lichen/lichen/continuous/Span")) (t' := .long) (by decide) (by decide)))).other W3 (Or.inr (slot_ne (Or.inr (hw _ (List.mem_of_getElem? (i := 90) rfl))) (Or.inr (hw _ (List.mem_of_getElem? (i := 86) rfl))) (by decide) (t := (.object "com/example/lichen/lichen/continuous/Span")) (t' := (.object "java/lang/String")) (by decide) (by decide)))).other W4 (Or.inr (slot_ne (Or.inr (hw _ (List.mem_of_getElem? (i := 90) rfl))) (Or.inr (hw _ (List.mem_of_getElem? (i := 88) rfl))) (by decide) (t := (.object "com/example/lichen/lichen/continuous/Span")) (t' := .int) (by decide) (by decide)))) (((E_a1.wr W2).wr W3).wr W4) (Or.inr ⟨(hw _ (List.mem_of_getElem? (i := 90) rfl)), rfl, hnm⟩) (hw _ (List.mem_of_getElem? (i := 77) rfl)) (ty := (.object "com/example/lichen/lichen/continuous/Span")) (by decide) rfl rfl (g := (mkF m 23 #[.val (.ref a1), .val (.long q2), .second, .val .null, .val (.int p4), .val (.ref a5), .val (.int p6), .val (.int p7), .val .null, .val .null] [(.ref a5), (.ref a1)])) rfl rfl (hb hby d11_23)
  have Fw5 := (((F_3.other W2 (Or.inr (slot_ne (Or.inr (hw _ (List.mem_of_getElem? (i := 90) rfl))) (Or.inr (hw _ (List.mem_of_getElem? (i := 84) rfl))) (by decide) (t := (.object "com/example/lichen/lichen/continuous/Span")) (t' := .long) (by decide) (by decide)))).other W3 (Or.inr (slot_ne (Or.inr (hw _ (List.mem_of_getElem? (i := 90) rfl))) (Or.inr (hw _ (List.mem_of_getElem? (i := 86) rfl))) (by decide) (t := (.object "com/example/lichen/lichen/continuous/Span")) (t' := (.object "java/lang/String")) (by decide) (by decide)))).other W4 (Or.inr (slot_ne (Or.inr (hw _ (List.mem_of_getElem? (i := 90) rfl))) (Or.inr (hw _ (List.mem_of_getElem? (i := 88) rfl))) (by decide) (t := (.object "com/example/lichen/lichen/continuous/Span")) (t' := .int) (by decide) (by decide)))).same W5
  have K5 : Keep h0 h5 [a1] := K4.wr W5 (Or.inl (by simp))
  have N5 := Fr.snoc X5 N4 g_a1
  refine own_step st5 ?_
  show own_Go p e below s _ _ _ (T5.setTop (mkF m 26 #[.val (.ref a1), .val (.long q2), .second, .val .null, .val (.int p4), .val (.ref a5), .val (.int p6), .val (.int p7), .val .null, .val .null] []))
  refine own_step (B := T5.setTop (mkF m 29 #[.val (.ref a1), .val (.long q2), .second, .val .null, .val (.int p4), .val (.ref a5), .val (.int p6), .val (.int p7), .val .null, .val .null] [(.int p6), (.ref a1)])) (fun t k => ?_) ?_
  · show Steps p.tables e below (T5.setTop (mkF m 26 #[.val (.ref a1), .val (.long q2), .second, .val .null, .val (.int p4), .val (.ref a5), .val (.int p6), .val (.int p7), .val .null, .val .null] [])) _
    refine XS.aloadN X5.here hx rfl (hb hby d11_26) rfl rfl ?_
    show Steps p.tables e below (T5.setTop (mkF m 27 #[.val (.ref a1), .val (.long q2), .second, .val .null, .val (.int p4), .val (.ref a5), .val (.int p6), .val (.int p7), .val .null, .val .null] [(.ref a1)])) _
    refine XS.iload X5.here hx rfl (hb hby d11_27) rfl ?_
    exact k
  obtain ⟨T6, h6, X6, e6, W6, st6⟩ := putF X5 hx hZ hown (host := "") (Or.inl (hw _ (List.mem_of_getElem? (i := 91) rfl))) Via.refl e5 ((((F_4.other W2 (Or.inr (slot_ne (Or.inr (hw _ (List.mem_of_getElem? (i := 92) rfl))) (Or.inr (hw _ (List.mem_of_getElem? (i := 84) rfl))) (by decide) (t := .int) (t' := .long) (by decide) (by decide)))).other W3 (Or.inr (slot_ne (Or.inr (hw _ (List.mem_of_getElem? (i := 92) rfl))) (Or.inr (hw _ (List.mem_of_getElem? (i := 86) rfl))) (by decide) (t := .int) (t' := (.object "java/lang/String")) (by decide) (by decide)))).other W4 (Or.inr (slot_ne (Or.inr (hw _ (List.mem_of_getElem? (i := 92) rfl))) (Or.inr (hw _ (List.mem_of_getElem? (i := 88) rfl))) (by decide) (t := .int) (t' := .int) (by decide) (by decide)))).other W5 (Or.inr (slot_ne (Or.inr (hw _ (List.mem_of_getElem? (i := 92) rfl))) (Or.inr (hw _ (List.mem_of_getElem? (i := 90) rfl))) (by decide) (t := .int) (t' := (.object "com/example/lichen/lichen/continuous/Span")) (by decide) (by decide)))) ((((E_a1.wr W2).wr W3).wr W4).wr W5) (Or.inr ⟨(hw _ (List.mem_of_getElem? (i := 92) rfl)), rfl, hnm⟩) (hw _ (List.mem_of_getElem? (i := 77) rfl)) (ty := .int) (by decide) rfl rfl (g := (mkF m 29 #[.val (.ref a1), .val (.long q2), .second, .val .null, .val (.int p4), .val (.ref a5), .val (.int p6), .val (.int p7), .val .null, .val .null] [(.int p6), (.ref a1)])) rfl rfl (hb hby d11_29)
  have Fw6 := ((((F_4.other W2 (Or.inr (slot_ne (Or.inr (hw _ (List.mem_of_getElem? (i := 92) rfl))) (Or.inr (hw _ (List.mem_of_getElem? (i := 84) rfl))) (by decide) (t := .int) (t' := .long) (by decide) (by decide)))).other W3 (Or.inr (slot_ne (Or.inr (hw _ (List.mem_of_getElem? (i := 92) rfl))) (Or.inr (hw _ (List.mem_of_getElem? (i := 86) rfl))) (by decide) (t := .int) (t' := (.object "java/lang/String")) (by decide) (by decide)))).other W4 (Or.inr (slot_ne (Or.inr (hw _ (List.mem_of_getElem? (i := 92) rfl))) (Or.inr (hw _ (List.mem_of_getElem? (i := 88) rfl))) (by decide) (t := .int) (t' := .int) (by decide) (by decide)))).other W5 (Or.inr (slot_ne (Or.inr (hw _ (List.mem_of_getElem? (i := 92) rfl))) (Or.inr (hw _ (List.mem_of_getElem? (i := 90) rfl))) (by decide) (t := .int) (t' := (.object "com/example/lichen/lichen/continuous/Span")) (by decide) (by decide)))).same W6
  have K6 : Keep h0 h6 [a1] := K5.wr W6 (Or.inl (by simp))
  have N6 := Fr.snoc X6 N5 g_a1
  refine own_step st6 ?_
  show own_Go p e below s _ _ _ (T6.setTop (mkF m 32 #[.val (.ref a1), .val (.long q2), .second, .val .null, .val (.int p4), .val (.ref a5), .val (.int p6), .val (.int p7), .val .null, .val .null] []))
  refine own_step (B := T6.setTop (mkF m 35 #[.val (.ref a1), .val (.long q2), .second, .val .null, .val (.int p4), .val (.ref a5), .val (.int p6), .val (.int p7), .val .null, .val .null] [(.int p7), (.ref a1)])) (fun t k => ?_) ?_
  · show Steps p.tables e below (T6.setTop (mkF m 32 #[.val (.ref a1), .val (.long q2), .second, .val .null, .val (.int p4), .val (.ref a5), .val (.int p6), .val (.int p7), .val .null, .val .null] [])) _
    refine XS.aloadN X6.here hx rfl (hb hby d11_32) rfl rfl ?_
    show Steps p.tables e below (T6.setTop (mkF m 33 #[.val (.ref a1), .val (.long q2), .second, .val .null, .val (.int p4), .val (.ref a5), .val (.int p6), .val (.int p7), .val .null, .val .null] [(.ref a1)])) _
    refine XS.iload X6.here hx rfl (hb hby d11_33) rfl ?_
    exact k
  obtain ⟨T7, h7, X7, e7, W7, st7⟩ := putFN X6 hx hZ hown (hw _ (List.mem_of_getElem? (i := 93) rfl)) Via.refl e6 (((((F_5.other W2 (Or.inr (slot_ne (Or.inr (hw _ (List.mem_of_getElem? (i := 94) rfl))) (Or.inr (hw _ (List.mem_of_getElem? (i := 84) rfl))) (by decide) (t := .boolean) (t' := .long) (by decide) (by decide)))).other W3 (Or.inr (slot_ne (Or.inr (hw _ (List.mem_of_getElem? (i := 94) rfl))) (Or.inr (hw _ (List.mem_of_getElem? (i := 86) rfl))) (by decide) (t := .boolean) (t' := (.object "java/lang/String")) (by decide) (by decide)))).other W4 (Or.inr (slot_ne (Or.inr (hw _ (List.mem_of_getElem? (i := 94) rfl))) (Or.inr (hw _ (List.mem_of_getElem? (i := 88) rfl))) (by decide) (t := .boolean) (t' := .int) (by decide) (by decide)))).other W5 (Or.inr (slot_ne (Or.inr (hw _ (List.mem_of_getElem? (i := 94) rfl))) (Or.inr (hw _ (List.mem_of_getElem? (i := 90) rfl))) (by decide) (t := .boolean) (t' := (.object "com/example/lichen/lichen/continuous/Span")) (by decide) (by decide)))).other W6 (Or.inr (slot_ne (Or.inr (hw _ (List.mem_of_getElem? (i := 94) rfl))) (Or.inr (hw _ (List.mem_of_getElem? (i := 92) rfl))) (by decide) (t := .boolean) (t' := .int) (by decide) (by decide)))) (((((E_a1.wr W2).wr W3).wr W4).wr W5).wr W6) (Or.inr ⟨(hw _ (List.mem_of_getElem? (i := 94) rfl)), rfl, hnm⟩) (hw _ (List.mem_of_getElem? (i := 77) rfl)) (ty := .boolean) (v' := (.int p7)) (by decide) hn_p7 hf_p7 (g := (mkF m 35 #[.val (.ref a1), .val (.long q2), .second, .val .null, .val (.int p4), .val (.ref a5), .val (.int p6), .val (.int p7), .val .null, .val .null] [(.int p7), (.ref a1)])) rfl rfl (hb hby d11_35)
  have Fw7 := (((((F_5.other W2 (Or.inr (slot_ne (Or.inr (hw _ (List.mem_of_getElem? (i := 94) rfl))) (Or.inr (hw _ (List.mem_of_getElem? (i := 84) rfl))) (by decide) (t := .boolean) (t' := .long) (by decide) (by decide)))).other W3 (Or.inr (slot_ne (Or.inr (hw _ (List.mem_of_getElem? (i := 94) rfl))) (Or.inr (hw _ (List.mem_of_getElem? (i := 86) rfl))) (by decide) (t := .boolean) (t' := (.object "java/lang/String")) (by decide) (by decide)))).other W4 (Or.inr (slot_ne (Or.inr (hw _ (List.mem_of_getElem? (i := 94) rfl))) (Or.inr (hw _ (List.mem_of_getElem? (i := 88) rfl))) (by decide) (t := .boolean) (t' := .int) (by decide) (by decide)))).other W5 (Or.inr (slot_ne (Or.inr (hw _ (List.mem_of_getElem? (i := 94) rfl))) (Or.inr (hw _ (List.mem_of_getElem? (i := 90) rfl))) (by decide) (t := .boolean) (t' := (.object "com/example/lichen/lichen/continuous/Span")) (by decide) (by decide)))).other W6 (Or.inr (slot_ne (Or.inr (hw _ (List.mem_of_getElem? (i := 94) rfl))) (Or.inr (hw _ (List.mem_of_getElem? (i := 92) rfl))) (by decide) (t := .boolean) (t' := .int) (by decide) (by decide)))).same W7
  have K7 : Keep h0 h7 [a1] := K6.wr W7 (Or.inl (by simp))
  have N7 := Fr.snoc X7 N6 g_a1
  refine own_step st7 ?_
  show own_Go p e below s _ _ _ (T7.setTop (mkF m 38 #[.val (.ref a1), .val (.long q2), .second, .val .null, .val (.int p4), .val (.ref a5), .val (.int p6), .val (.int p7), .val .null, .val .null] []))
  refine own_step (B := T7.setTop (mkF m 41 #[.val (.ref a1), .val (.long q2), .second, .val .null, .val (.int p4), .val (.ref a5), .val (.int p6), .val (.int p7), .val .null, .val .null] [.null, (.ref a1)])) (fun t k => ?_) ?_
  · show Steps p.tables e below (T7.setTop (mkF m 38 #[.val (.ref a1), .val (.long q2), .second, .val .null, .val (.int p4), .val (.ref a5), .val (.int p6), .val (.int p7), .val .null, .val .null] [])) _
    refine XS.aloadN X7.here hx rfl (hb hby d11_38) rfl rfl ?_
    show Steps p.tables e below (T7.setTop (mkF m 39 #[.val (.ref a1), .val (.long q2), .second, .val .null, .val (.int p4), .val (.ref a5), .val (.int p6), .val (.int p7), .val .null, .val .null] [(.ref a1)])) _
    refine XS.aload X7.here hx rfl (hb hby d11_39) rfl rfl ?_
    exact k
  obtain ⟨T8, h8, X8, e8, W8, st8⟩ := putF X7 hx hZ hown (host := "") (Or.inl (hw _ (List.mem_of_getElem? (i := 95) rfl))) Via.refl e7 ((((((F_6.other W2 (Or.inr (slot_ne (Or.inr (hw _ (List.mem_of_getElem? (i := 96) rfl))) (Or.inr (hw _ (List.mem_of_getElem? (i := 84) rfl))) (by decide) (t := (.object "com/example/lichen/lichen/usage/Target")) (t' := .long) (by decide) (by decide)))).other W3 (Or.inr (slot_ne (Or.inr (hw _ (List.mem_of_getElem? (i := 96) rfl))) (Or.inr (hw _ (List.mem_of_getElem? (i := 86) rfl))) (by decide) (t := (.object "com/example/lichen/lichen/usage/Target")) (t' := (.object "java/lang/String")) (by decide) (by decide)))).other W4 (Or.inr (slot_ne (Or.inr (hw _ (List.mem_of_getElem? (i := 96) rfl))) (Or.inr (hw _ (List.mem_of_getElem? (i := 88) rfl))) (by decide) (t := (.object "com/example/lichen/lichen/usage/Target")) (t' := .int) (by decide) (by decide)))).other W5 (Or.inr (slot_ne (Or.inr (hw _ (List.mem_of_getElem? (i := 96) rfl))) (Or.inr (hw _ (List.mem_of_getElem? (i := 90) rfl))) (by decide) (t := (.object "com/example/lichen/lichen/usage/Target")) (t' := (.object "com/example/lichen/lichen/continuous/Span")) (by decide) (by decide)))).other W6 (Or.inr (slot_ne (Or.inr (hw _ (List.mem_of_getElem? (i := 96) rfl))) (Or.inr (hw _ (List.mem_of_getElem? (i := 92) rfl))) (by decide) (t := (.object "com/example/lichen/lichen/usage/Target")) (t' := .int) (by decide) (by decide)))).other W7 (Or.inr (slot_ne (Or.inr (hw _ (List.mem_of_getElem? (i := 96) rfl))) (Or.inr (hw _ (List.mem_of_getElem? (i := 94) rfl))) (by decide) (t := (.object "com/example/lichen/lichen/usage/Target")) (t' := .boolean) (by decide) (by decide)))) ((((((E_a1.wr W2).wr W3).wr W4).wr W5).wr W6).wr W7) (Or.inr ⟨(hw _ (List.mem_of_getElem? (i := 96) rfl)), rfl, hnm⟩) (hw _ (List.mem_of_getElem? (i := 77) rfl)) (ty := (.object "com/example/lichen/lichen/usage/Target")) (by decide) rfl rfl (g := (mkF m 41 #[.val (.ref a1), .val (.long q2), .second, .val .null, .val (.int p4), .val (.ref a5), .val (.int p6), .val (.int p7), .val .null, .val .null] [.null, (.ref a1)])) rfl rfl (hb hby d11_41)
  have Fw8 := ((((((F_6.other W2 (Or.inr (slot_ne (Or.inr (hw _ (List.mem_of_getElem? (i := 96) rfl))) (Or.inr (hw _ (List.mem_of_getElem? (i := 84) rfl))) (by decide) (t := (.object "com/example/lichen/lichen/usage/Target")) (t' := .long) (by decide) (by decide)))).other W3 (Or.inr (slot_ne (Or.inr (hw _ (List.mem_of_getElem? (i := 96) rfl))) (Or.inr (hw _ (List.mem_of_getElem? (i := 86) rfl))) (by decide) (t := (.object "com/example/lichen/lichen/usage/Target")) (t' := (.object "java/lang/String")) (by decide) (by decide)))).other W4 (Or.inr (slot_ne (Or.inr (hw _ (List.mem_of_getElem? (i := 96) rfl))) (Or.inr (hw _ (List.mem_of_getElem? (i := 88) rfl))) (by decide) (t := (.object "com/example/lichen/lichen/usage/Target")) (t' := .int) (by decide) (by decide)))).other W5 (Or.inr (slot_ne (Or.inr (hw _ (List.mem_of_getElem? (i := 96) rfl))) (Or.inr (hw _ (List.mem_of_getElem? (i := 90) rfl))) (by decide) (t := (.object "com/example/lichen/lichen/usage/Target")) (t' := (.object "com/example/lichen/lichen/continuous/Span")) (by decide) (by decide)))).other W6 (Or.inr (slot_ne (Or.inr (hw _ (List.mem_of_getElem? (i := 96) rfl))) (Or.inr (hw _ (List.mem_of_getElem? (i := 92) rfl))) (by decide) (t := (.object "com/example/lichen/lichen/usage/Target")) (t' := .int) (by decide) (by decide)))).other W7 (Or.inr (slot_ne (Or.inr (hw _ (List.mem_of_getElem? (i := 96) rfl))) (Or.inr (hw _ (List.mem_of_getElem? (i := 94) rfl))) (by decide) (t := (.object "com/example/lichen/lichen/usage/Target")) (t' := .boolean) (by decide) (by decide)))).same W8
  have K8 : Keep h0 h8 [a1] := K7.wr W8 (Or.inl (by simp))
  have N8 := Fr.snoc X8 N7 g_a1
  refine own_step st8 ?_
  show own_Go p e below s _ _ _ (T8.setTop (mkF m 44 #[.val (.ref a1), .val (.long q2), .second, .val .null, .val (.int p4), .val (.ref a5), .val (.int p6), .val (.int p7), .val .null, .val .null] []))
  refine own_step (B := T8.setTop (mkF m 47 #[.val (.ref a1), .val (.long q2), .second, .val .null, .val (.int p4), .val (.ref a5), .val (.int p6), .val (.int p7), .val .null, .val .null] [.null, (.ref a1)])) (fun t k => ?_) ?_
  · show Steps p.tables e below (T8.setTop (mkF m 44 #[.val (.ref a1), .val (.long q2), .second, .val .null, .val (.int p4), .val (.ref a5), .val (.int p6), .val (.int p7), .val .null, .val .null] [])) _
    refine XS.aloadN X8.here hx rfl (hb hby d11_44) rfl rfl ?_
    show Steps p.tables e below (T8.setTop (mkF m 45 #[.val (.ref a1), .val (.long q2), .second, .val .null, .val (.int p4), .val (.ref a5), .val (.int p6), .val (.int p7), .val .null, .val .null] [(.ref a1)])) _
    refine XS.aload X8.here hx rfl (hb hby d11_45) rfl rfl ?_
    exact k
  obtain ⟨T9, h9, X9, e9, W9, st9⟩ := putF X8 hx hZ hown (host := "") (Or.inl (hw _ (List.mem_of_getElem? (i := 97) rfl))) Via.refl e8 (((((((F_7.other W2 (Or.inr (slot_ne (Or.inr (hw _ (List.mem_of_getElem? (i := 98) rfl))) (Or.inr (hw _ (List.mem_of_getElem? (i := 84) rfl))) (by decide) (t := (.object "java/util/List")) (t' := .long) (by decide) (by decide)))).other W3 (Or.inr (slot_ne (Or.inr (hw _ (List.mem_of_getElem? (i := 98) rfl))) (Or.inr (hw _ (List.mem_of_getElem? (i := 86) rfl))) (by decide) (t := (.object "java/util/List")) (t' := (.object "java/lang/String")) (by decide) (by decide)))).other W4 (Or.inr (slot_ne (Or.inr (hw _ (List.mem_of_getElem? (i := 98) rfl))) (Or.inr (hw _ (List.mem_of_getElem? (i := 88) rfl))) (by decide) (t := (.object "java/util/List")) (t' := .int) (by decide) (by decide)))).other W5 (Or.inr (slot_ne (Or.inr (hw _ (List.mem_of_getElem? (i := 98) rfl))) (Or.inr (hw _ (List.mem_of_getElem? (i := 90) rfl))) (by decide) (t := (.object "java/util/List")) (t' := (.object "com/example/lichen/lichen/continuous/Span")) (by decide) (by decide)))).other W6 (Or.inr (slot_ne (Or.inr (hw _ (List.mem_of_getElem? (i := 98) rfl))) (Or.inr (hw _ (List.mem_of_getElem? (i := 92) rfl))) (by decide) (t := (.object "java/util/List")) (t' := .int) (by decide) (by decide)))).other W7 (Or.inr (slot_ne (Or.inr (hw _ (List.mem_of_getElem? (i := 98) rfl))) (Or.inr (hw _ (List.mem_of_getElem? (i := 94) rfl))) (by decide) (t := (.object "java/util/List")) (t' := .boolean) (by decide) (by decide)))).other W8 (Or.inr (slot_ne (Or.inr (hw _ (List.mem_of_getElem? (i := 98) rfl))) (Or.inr (hw _ (List.mem_of_getElem? (i := 96) rfl))) (by decide) (t := (.object "java/util/List")) (t' := (.object "com/example/lichen/lichen/usage/Target")) (by decide) (by decide)))) (((((((E_a1.wr W2).wr W3).wr W4).wr W5).wr W6).wr W7).wr W8) (Or.inr ⟨(hw _ (List.mem_of_getElem? (i := 98) rfl)), rfl, hnm⟩) (hw _ (List.mem_of_getElem? (i := 77) rfl)) (ty := (.object "java/util/List")) (by decide) rfl rfl (g := (mkF m 47 #[.val (.ref a1), .val (.long q2), .second, .val .null, .val (.int p4), .val (.ref a5), .val (.int p6), .val (.int p7), .val .null, .val .null] [.null, (.ref a1)])) rfl rfl (hb hby d11_47)
  have Fw9 := (((((((F_7.other W2 (Or.inr (slot_ne (Or.inr (hw _ (List.mem_of_getElem? (i := 98) rfl))) (Or.inr (hw _ (List.mem_of_getElem? (i := 84) rfl))) (by decide) (t := (.object "java/util/List")) (t' := .long) (by decide) (by decide)))).other W3 (Or.inr (slot_ne (Or.inr (hw _ (List.mem_of_getElem? (i := 98) rfl))) (Or.inr (hw _ (List.mem_of_getElem? (i := 86) rfl))) (by decide) (t := (.object "java/util/List")) (t' := (.object "java/lang/String")) (by decide) (by decide)))).other W4 (Or.inr (slot_ne (Or.inr (hw _ (List.mem_of_getElem? (i := 98) rfl))) (Or.inr (hw _ (List.mem_of_getElem? (i := 88) rfl))) (by decide) (t := (.object "java/util/List")) (t' := .int) (by decide) (by decide)))).other W5 (Or.inr (slot_ne (Or.inr (hw _ (List.mem_of_getElem? (i := 98) rfl))) (Or.inr (hw _ (List.mem_of_getElem? (i := 90) rfl))) (by decide) (t := (.object "java/util/List")) (t' := (.object "com/example/lichen/lichen/continuous/Span")) (by decide) (by decide)))).other W6 (Or.inr (slot_ne (Or.inr (hw _ (List.mem_of_getElem? (i := 98) rfl))) (Or.inr (hw _ (List.mem_of_getElem? (i := 92) rfl))) (by decide) (t := (.object "java/util/List")) (t' := .int) (by decide) (by decide)))).other W7 (Or.inr (slot_ne (Or.inr (hw _ (List.mem_of_getElem? (i := 98) rfl))) (Or.inr (hw _ (List.mem_of_getElem? (i := 94) rfl))) (by decide) (t := (.object "java/util/List")) (t' := .boolean) (by decide) (by decide)))).other W8 (Or.inr (slot_ne (Or.inr (hw _ (List.mem_of_getElem? (i := 98) rfl))) (Or.inr (hw _ (List.mem_of_getElem? (i := 96) rfl))) (by decide) (t := (.object "java/util/List")) (t' := (.object "com/example/lichen/lichen/usage/Target")) (by decide) (by decide)))).same W9
  have K9 : Keep h0 h9 [a1] := K8.wr W9 (Or.inl (by simp))
  have N9 := Fr.snoc X9 N8 g_a1
  refine own_step st9 ?_
  show own_Go p e below s _ _ _ (T9.setTop (mkF m 50 #[.val (.ref a1), .val (.long q2), .second, .val .null, .val (.int p4), .val (.ref a5), .val (.int p6), .val (.int p7), .val .null, .val .null] []))
  refine own_step (B := T9.setTop (mkF m 53 #[.val (.ref a1), .val (.long q2), .second, .val .null, .val (.int p4), .val (.ref a5), .val (.int p6), .val (.int p7), .val .null, .val .null] [(.ref a5), (.ref a1)])) (fun t k => ?_) ?_
  · show Steps p.tables e below (T9.setTop (mkF m 50 #[.val (.ref a1), .val (.long q2), .second, .val .null, .val (.int p4), .val (.ref a5), .val (.int p6), .val (.int p7), .val .null, .val .null] [])) _
    refine XS.aloadN X9.here hx rfl (hb hby d11_50) rfl rfl ?_
    show Steps p.tables e below (T9.setTop (mkF m 51 #[.val (.ref a1), .val (.long q2), .second, .val .null, .val (.int p4), .val (.ref a5), .val (.int p6), .val (.int p7), .val .null, .val .null] [(.ref a1)])) _
    refine XS.aload X9.here hx rfl (hb hby d11_51) rfl rfl ?_
    exact k
  obtain ⟨cq10, kq10, q10a, q10b, q10c⟩ := isOf hZ e9 ((((((((E_sp.wr W2).wr W3).wr W4).wr W5).wr W6).wr W7).wr W8).wr W9)
  obtain ⟨_, _, ⟨T10, L10, k10, n10⟩, -, X10, ⟨Lc10, hQ10, l10, y10, z10⟩, st10⟩ := X9.virtualBack hx (y := (⟨"com/example/lichen/lichen/continuous/Span", "intervals", "()I"⟩ : MethodName)) (z := (⟨"com/example/lichen/lichen/continuous/Span", "intervals", "()I"⟩ : MethodName)) hown (mvT hZ (hw _ (List.mem_of_getElem? (i := 99) rfl))) (mvT hZ (hw _ (List.mem_of_getElem? (i := 100) rfl))) (notFace_of_selects (args := #[]) (mvT hZ (hw _ (List.mem_of_getElem? (i := 102) rfl)))) (mvT hZ (hw _ (List.mem_of_getElem? (i := 102) rfl))) (mvT hZ (hw _ (List.mem_of_getElem? (i := 101) rfl))) (by decide) (backOf (W := 1) (rm12 l Z a0 hw [] a5 r em h9 n0 (Nat.le_trans (Nat.le_trans (Nat.le_trans (Nat.le_trans (Nat.le_trans (Nat.le_trans (Nat.le_trans (Nat.le_trans Z0 (Keep.of_wr W2).1) (Keep.of_wr W3).1) (Keep.of_wr W4).1) (Keep.of_wr W5).1) (Keep.of_wr W6).1) (Keep.of_wr W7).1) (Keep.of_wr W8).1) (Keep.of_wr W9).1) ((((((((P_0.other W2 (Or.inl (Ne.symm (ne_exa E_a1 E_sp (by decide))))).other W3 (Or.inl (Ne.symm (ne_exa E_a1 E_sp (by decide))))).other W4 (Or.inl (Ne.symm (ne_exa E_a1 E_sp (by decide))))).other W5 (Or.inl (Ne.symm (ne_exa E_a1 E_sp (by decide))))).other W6 (Or.inl (Ne.symm (ne_exa E_a1 E_sp (by decide))))).other W7 (Or.inl (Ne.symm (ne_exa E_a1 E_sp (by decide))))).other W8 (Or.inl (Ne.symm (ne_exa E_a1 E_sp (by decide))))).other W9 (Or.inl (Ne.symm (ne_exa E_a1 E_sp (by decide))))) ((((((((P_1.wr W2).wr W3).wr W4).wr W5).wr W6).wr W7).wr W8).wr W9) ((((((((P_2.other W2 (Or.inl (Ne.symm (ne_exa E_a1 P_1 (by decide))))).other W3 (Or.inl (Ne.symm (ne_exa E_a1 P_1 (by decide))))).other W4 (Or.inl (Ne.symm (ne_exa E_a1 P_1 (by decide))))).other W5 (Or.inl (Ne.symm (ne_exa E_a1 P_1 (by decide))))).other W6 (Or.inl (Ne.symm (ne_exa E_a1 P_1 (by decide))))).other W7 (Or.inl (Ne.symm (ne_exa E_a1 P_1 (by decide))))).other W8 (Or.inl (Ne.symm (ne_exa E_a1 P_1 (by decide))))).other W9 (Or.inl (Ne.symm (ne_exa E_a1 P_1 (by decide))))) ((((((((S_E.wr W2).wr W3).wr W4).wr W5).wr W6).wr W7).wr W8).wr W9)) hZ (hw _ (List.mem_of_getElem? (i := 103) rfl)) (hw _ (List.mem_of_getElem? (i := 2) rfl)) (by decide) (by decide)) q10a q10c (g := (mkF m 53 #[.val (.ref a1), .val (.long q2), .second, .val .null, .val (.int p4), .val (.ref a5), .val (.int p6), .val (.int p7), .val .null, .val .null] [(.ref a5), (.ref a1)])) rfl (by rw [hml]; rfl) (Steps.refl _) (argsL := []) (rest := [(.ref a1)]) (lenOf pd_15 rfl) rfl (by show 2 * 0 + _ ≤ _; exact Nat.le_of_eq rfl) (hb hby d11_53) (fun _ _ => ⟨rfl, e9, (by decide : 0 + 0 ≤ _), (by decide : 0 + 0 ≤ _)⟩)
  dsimp only [Pt.U, Pt.locs, Pt.cells, Pt.slots] at X10 l10 y10 z10 st10 hQ10
  subst l10 y10 z10
  obtain ⟨rfl, N10q, e10⟩ := hQ10
  have N10 := Fr.app N9 N10q
  refine own_via st10 ?_
  show own_Go p e below s _ _ _ (T10.setTop (mkF m 56 #[.val (.ref a1), .val (.long q2), .second, .val .null, .val (.int p4), .val (.ref a5), .val (.int p6), .val (.int p7), .val .null, .val .null] [(.int (1 : Int32)), (.ref a1)]))
  obtain ⟨T11, h11, k11, X11, e11, E11, A11, O11, st11⟩ := newR X10 hx hZ hown (hw _ (List.mem_of_getElem? (i := 113) rfl)) (hw _ (List.mem_of_getElem? (i := 114) rfl)) e10 (g := (mkF m 56 #[.val (.ref a1), .val (.long q2), .second, .val .null, .val (.int p4), .val (.ref a5), .val (.int p6), .val (.int p7), .val .null, .val .null] [(.int (1 : Int32)), (.ref a1)])) rfl (hb hby d11_56) rfl (by decide) (cap := 1) (by decide) (by decide) (by decide) (by decide)
  obtain ⟨b11, g11⟩ : ∃ z, z = h9.size := ⟨_, rfl⟩
  rw [← g11] at A11 st11
  have g_b11 : n0 ≤ b11 := Nat.le_trans (Nat.le_trans (Nat.le_trans (Nat.le_trans (Nat.le_trans (Nat.le_trans (Nat.le_trans (Nat.le_trans (Nat.le_trans Z0 (Keep.of_wr W2).1) (Keep.of_wr W3).1) (Keep.of_wr W4).1) (Keep.of_wr W5).1) (Keep.of_wr W6).1) (Keep.of_wr W7).1) (Keep.of_wr W8).1) (Keep.of_wr W9).1) (Nat.le_of_eq g11.symm)
  have ne_a1_b11 : a1 ≠ b11 := Nat.ne_of_lt (Nat.lt_of_lt_of_le ((((((((E_a1.wr W2).wr W3).wr W4).wr W5).wr W6).wr W7).wr W8).wr W9).lt (Nat.le_of_eq g11.symm))
  have ne_a5_b11 : a5 ≠ b11 := Nat.ne_of_lt (Nat.lt_of_lt_of_le ((((((((E_sp.wr W2).wr W3).wr W4).wr W5).wr W6).wr W7).wr W8).wr W9).lt (Nat.le_of_eq g11.symm))
  have ne_r_b11 : r ≠ b11 := Nat.ne_of_lt (Nat.lt_of_lt_of_le ((((((((P_1.wr W2).wr W3).wr W4).wr W5).wr W6).wr W7).wr W8).wr W9).lt (Nat.le_of_eq g11.symm))
  have sz_b11 : h0.size ≤ b11 := Nat.le_trans K9.1 (Nat.le_of_eq g11.symm)
  have V_b11 : Arv Z h11 b11 k11 (.object "com/example/lichen/lichen/continuous/Settlement$Outcome") (1 : Int32) [.null] .null := (Arv.new A11 (by decide)).pad (pad_rep [] .null 1)
  have K11 : Keep h0 h11 [a1] := K9.ext E11
  refine own_step st11 ?_
  show own_Go p e below s _ _ _ (T11.setTop (mkF m 59 #[.val (.ref a1), .val (.long q2), .second, .val .null, .val (.int p4), .val (.ref a5), .val (.int p6), .val (.int p7), .val .null, .val .null] [(.ref b11), (.ref a1)]))
  obtain ⟨T12, h12, X12, e12, W12, st12⟩ := putF X11 hx hZ hown (host := "") (Or.inl (hw _ (List.mem_of_getElem? (i := 115) rfl))) Via.refl e11 (((((((((F_8.other W2 (Or.inr (slot_ne (Or.inr (hw _ (List.mem_of_getElem? (i := 116) rfl))) (Or.inr (hw _ (List.mem_of_getElem? (i := 84) rfl))) (by decide) (t := (.array (.object "com/example/lichen/lichen/continuous/Settlement$Outcome"))) (t' := .long) (by decide) (by decide)))).other W3 (Or.inr (slot_ne (Or.inr (hw _ (List.mem_of_getElem? (i := 116) rfl))) (Or.inr (hw _ (List.mem_of_getElem? (i := 86) rfl))) (by decide) (t := (.array (.object "com/example/lichen/lichen/continuous/Settlement$Outcome"))) (t' := (.object "java/lang/String")) (by decide) (by decide)))).other W4 (Or.inr (slot_ne (Or.inr (hw _ (List.mem_of_getElem? (i := 116) rfl))) (Or.inr (hw _ (List.mem_of_getElem? (i := 88) rfl))) (by decide) (t := (.array (.object "com/example/lichen/lichen/continuous/Settlement$Outcome"))) (t' := .int) (by decide) (by decide)))).other W5 (Or.inr (slot_ne (Or.inr (hw _ (List.mem_of_getElem? (i := 116) rfl))) (Or.inr (hw _ (List.mem_of_getElem? (i := 90) rfl))) (by decide) (t := (.array (.object "com/example/lichen/lichen/continuous/Settlement$Outcome"))) (t' := (.object "com/example/lichen/lichen/continuous/Span")) (by decide) (by decide)))).other W6 (Or.inr (slot_ne (Or.inr (hw _ (List.mem_of_getElem? (i := 116) rfl))) (Or.inr (hw _ (List.mem_of_getElem? (i := 92) rfl))) (by decide) (t := (.array (.object "com/example/lichen/lichen/continuous/Settlement$Outcome"))) (t' := .int) (by decide) (by decide)))).other W7 (Or.inr (slot_ne (Or.inr (hw _ (List.mem_of_getElem? (i := 116) rfl))) (Or.inr (hw _ (List.mem_of_getElem? (i := 94) rfl))) (by decide) (t := (.array (.object "com/example/lichen/lichen/continuous/Settlement$Outcome"))) (t' := .boolean) (by decide) (by decide)))).other W8 (Or.inr (slot_ne (Or.inr (hw _ (List.mem_of_getElem? (i := 116) rfl))) (Or.inr (hw _ (List.mem_of_getElem? (i := 96) rfl))) (by decide) (t := (.array (.object "com/example/lichen/lichen/continuous/Settlement$Outcome"))) (t' := (.object "com/example/lichen/lichen/usage/Target")) (by decide) (by decide)))).other W9 (Or.inr (slot_ne (Or.inr (hw _ (List.mem_of_getElem? (i := 116) rfl))) (Or.inr (hw _ (List.mem_of_getElem? (i := 98) rfl))) (by decide) (t := (.array (.object "com/example/lichen/lichen/continuous/Settlement$Outcome"))) (t' := (.object "java/util/List")) (by decide) (by decide)))).ext E11) (((((((((E_a1.wr W2).wr W3).wr W4).wr W5).wr W6).wr W7).wr W8).wr W9).ext E11) (Or.inr ⟨(hw _ (List.mem_of_getElem? (i := 116) rfl)), rfl, hnm⟩) (hw _ (List.mem_of_getElem? (i := 77) rfl)) (ty := (.array (.object "com/example/lichen/lichen/continuous/Settlement$Outcome"))) (by decide) rfl rfl (g := (mkF m 59 #[.val (.ref a1), .val (.long q2), .second, .val .null, .val (.int p4), .val (.ref a5), .val (.int p6), .val (.int p7), .val .null, .val .null] [(.ref b11), (.ref a1)])) rfl rfl (hb hby d11_59)
  have Fw12 := (((((((((F_8.other W2 (Or.inr (slot_ne (Or.inr (hw _ (List.mem_of_getElem? (i := 116) rfl))) (Or.inr (hw _ (List.mem_of_getElem? (i := 84) rfl))) (by decide) (t := (.array (.object "com/example/lichen/lichen/continuous/Settlement$Outcome"))) (t' := .long) (by decide) (by decide)))).other W3 (Or.inr (slot_ne (Or.inr (hw _ (List.mem_of_getElem? (i := 116) rfl))) (Or.inr (hw _ (List.mem_of_getElem? (i := 86) rfl))) (by decide) (t := (.array (.object "com/example/lichen/lichen/continuous/Settlement$Outcome"))) (t' := (.object "java/lang/String")) (by decide) (by decide)))).other W4 (Or.inr (slot_ne (Or.inr (hw _ (List.mem_of_getElem? (i := 116) rfl))) (Or.inr (hw _ (List.mem_of_getElem? (i := 88) rfl))) (by decide) (t := (.array (.object "com/example/lichen/lichen/continuous/Settlement$Outcome"))) (t' := .int) (by decide) (by decide)))).other W5 (Or.inr (slot_ne (Or.inr (hw _ (List.mem_of_getElem? (i := 116) rfl))) (Or.inr (hw _ (List.mem_of_getElem? (i := 90) rfl))) (by decide) (t := (.array (.object "com/example/lichen/lichen/continuous/Settlement$Outcome"))) (t' := (.object "com/example/lichen/lichen/continuous/Span")) (by decide) (by decide)))).other W6 (Or.inr (slot_ne (Or.inr (hw _ (List.mem_of_getElem? (i := 116) rfl))) (Or.inr (hw _ (List.mem_of_getElem? (i := 92) rfl))) (by decide) (t := (.array (.object "com/example/lichen/lichen/continuous/Settlement$Outcome"))) (t' := .int) (by decide) (by decide)))).other W7 (Or.inr (slot_ne (Or.inr (hw _ (List.mem_of_getElem? (i := 116) rfl))) (Or.inr (hw _ (List.mem_of_getElem? (i := 94) rfl))) (by decide) (t := (.array (.object "com/example/lichen/lichen/continuous/Settlement$Outcome"))) (t' := .boolean) (by decide) (by decide)))).other W8 (Or.inr (slot_ne (Or.inr (hw _ (List.mem_of_getElem? (i := 116) rfl))) (Or.inr (hw _ (List.mem_of_getElem? (i := 96) rfl))) (by decide) (t := (.array (.object "com/example/lichen/lichen/continuous/Settlement$Outcome"))) (t' := (.object "com/example/lichen/lichen/usage/Target")) (by decide) (by decide)))).other W9 (Or.inr (slot_ne (Or.inr (hw _ (List.mem_of_getElem? (i := 116) rfl))) (Or.inr (hw _ (List.mem_of_getElem? (i := 98) rfl))) (by decide) (t := (.array (.object "com/example/lichen/lichen/continuous/Settlement$Outcome"))) (t' := (.object "java/util/List")) (by decide) (by decide)))).ext E11).same W12
  have K12 : Keep h0 h12 [a1] := K11.wr W12 (Or.inl (by simp))
  have N12 := Fr.snoc X12 N10 g_a1
  refine own_step st12 ?_
  show own_Go p e below s _ _ _ (T12.setTop (mkF m 62 #[.val (.ref a1), .val (.long q2), .second, .val .null, .val (.int p4), .val (.ref a5), .val (.int p6), .val (.int p7), .val .null, .val .null] []))
  refine own_step (B := T12.setTop (mkF m 65 #[.val (.ref a1), .val (.long q2), .second, .val .null, .val (.int p4), .val (.ref a5), .val (.int p6), .val (.int p7), .val .null, .val .null] [(.ref a5), (.ref a1)])) (fun t k => ?_) ?_
  · show Steps p.tables e below (T12.setTop (mkF m 62 #[.val (.ref a1), .val (.long q2), .second, .val .null, .val (.int p4), .val (.ref a5), .val (.int p6), .val (.int p7), .val .null, .val .null] [])) _
    refine XS.aloadN X12.here hx rfl (hb hby d11_62) rfl rfl ?_
    show Steps p.tables e below (T12.setTop (mkF m 63 #[.val (.ref a1), .val (.long q2), .second, .val .null, .val (.int p4), .val (.ref a5), .val (.int p6), .val (.int p7), .val .null, .val .null] [(.ref a1)])) _
    refine XS.aload X12.here hx rfl (hb hby d11_63) rfl rfl ?_
    exact k
  obtain ⟨cq13, kq13, q13a, q13b, q13c⟩ := isOf hZ e12 ((((((((((E_sp.wr W2).wr W3).wr W4).wr W5).wr W6).wr W7).wr W8).wr W9).ext E11).wr W12)
  obtain ⟨_, _, ⟨T13, L13, k13, n13⟩, -, X13, ⟨Lc13, hQ13, l13, y13, z13⟩, st13⟩ := X12.virtualBack hx (y := (⟨"com/example/lichen/lichen/continuous/Span", "intervals", "()I"⟩ : MethodName)) (z := (⟨"com/example/lichen/lichen/continuous/Span", "intervals", "()I"⟩ : MethodName)) hown (mvT hZ (hw _ (List.mem_of_getElem? (i := 99) rfl))) (mvT hZ (hw _ (List.mem_of_getElem? (i := 100) rfl))) (notFace_of_selects (args := #[]) (mvT hZ (hw _ (List.mem_of_getElem? (i := 102) rfl)))) (mvT hZ (hw _ (List.mem_of_getElem? (i := 102) rfl))) (mvT hZ (hw _ (List.mem_of_getElem? (i := 101) rfl))) (by decide) (backOf (W := 1) (rm12 l Z a0 hw [] a5 r em h12 n0 (Nat.le_trans (Nat.le_trans (Nat.le_trans (Nat.le_trans (Nat.le_trans (Nat.le_trans (Nat.le_trans (Nat.le_trans (Nat.le_trans (Nat.le_trans Z0 (Keep.of_wr W2).1) (Keep.of_wr W3).1) (Keep.of_wr W4).1) (Keep.of_wr W5).1) (Keep.of_wr W6).1) (Keep.of_wr W7).1) (Keep.of_wr W8).1) (Keep.of_wr W9).1) E11.1) (Keep.of_wr W12).1) ((((((((((P_0.other W2 (Or.inl (Ne.symm (ne_exa E_a1 E_sp (by decide))))).other W3 (Or.inl (Ne.symm (ne_exa E_a1 E_sp (by decide))))).other W4 (Or.inl (Ne.symm (ne_exa E_a1 E_sp (by decide))))).other W5 (Or.inl (Ne.symm (ne_exa E_a1 E_sp (by decide))))).other W6 (Or.inl (Ne.symm (ne_exa E_a1 E_sp (by decide))))).other W7 (Or.inl (Ne.symm (ne_exa E_a1 E_sp (by decide))))).other W8 (Or.inl (Ne.symm (ne_exa E_a1 E_sp (by decide))))).other W9 (Or.inl (Ne.symm (ne_exa E_a1 E_sp (by decide))))).ext E11).other W12 (Or.inl (Ne.symm (ne_exa E_a1 E_sp (by decide))))) ((((((((((P_1.wr W2).wr W3).wr W4).wr W5).wr W6).wr W7).wr W8).wr W9).ext E11).wr W12) ((((((((((P_2.other W2 (Or.inl (Ne.symm (ne_exa E_a1 P_1 (by decide))))).other W3 (Or.inl (Ne.symm (ne_exa E_a1 P_1 (by decide))))).other W4 (Or.inl (Ne.symm (ne_exa E_a1 P_1 (by decide))))).other W5 (Or.inl (Ne.symm (ne_exa E_a1 P_1 (by decide))))).other W6 (Or.inl (Ne.symm (ne_exa E_a1 P_1 (by decide))))).other W7 (Or.inl (Ne.symm (ne_exa E_a1 P_1 (by decide))))).other W8 (Or.inl (Ne.symm (ne_exa E_a1 P_1 (by decide))))).other W9 (Or.inl (Ne.symm (ne_exa E_a1 P_1 (by decide))))).ext E11).other W12 (Or.inl (Ne.symm (ne_exa E_a1 P_1 (by decide))))) ((((((((((S_E.wr W2).wr W3).wr W4).wr W5).wr W6).wr W7).wr W8).wr W9).ext E11).wr W12)) hZ (hw _ (List.mem_of_getElem? (i := 103) rfl)) (hw _ (List.mem_of_getElem? (i := 2) rfl)) (by decide) (by decide)) q13a q13c (g := (mkF m 65 #[.val (.ref a1), .val (.long q2), .second, .val .null, .val (.int p4), .val (.ref a5), .val (.int p6), .val (.int p7), .val .null, .val .null] [(.ref a5), (.ref a1)])) rfl (by rw [hml]; rfl) (Steps.refl _) (argsL := []) (rest := [(.ref a1)]) (lenOf pd_15 rfl) rfl (by show 2 * 0 + _ ≤ _; exact Nat.le_of_eq rfl) (hb hby d11_65) (fun _ _ => ⟨rfl, e12, (by decide : 1 + 0 ≤ _), (by decide : 1 + 0 ≤ _)⟩)
  dsimp only [Pt.U, Pt.locs, Pt.cells, Pt.slots] at X13 l13 y13 z13 st13 hQ13
  subst l13 y13 z13
  obtain ⟨rfl, N13q, e13⟩ := hQ13
  have N13 := Fr.app N12 N13q
  refine own_via st13 ?_
  show own_Go p e below s _ _ _ (T13.setTop (mkF m 68 #[.val (.ref a1), .val (.long q2), .second, .val .null, .val (.int p4), .val (.ref a5), .val (.int p6), .val (.int p7), .val .null, .val .null] [(.int (1 : Int32)), (.ref a1)]))
  obtain ⟨T14, h14, k14, X14, e14, E14, A14, st14⟩ := newP X13 hx hZ (hw _ (List.mem_of_getElem? (i := 117) rfl)) e13 (g := (mkF m 68 #[.val (.ref a1), .val (.long q2), .second, .val .null, .val (.int p4), .val (.ref a5), .val (.int p6), .val (.int p7), .val .null, .val .null] [(.int (1 : Int32)), (.ref a1)])) rfl (hb hby d11_68) rfl (by decide) (cap := 1) (by decide) (by decide) (by decide) (by decide)
  obtain ⟨b14, g14⟩ : ∃ z, z = h12.size := ⟨_, rfl⟩
  rw [← g14] at A14 st14
  have g_b14 : n0 ≤ b14 := Nat.le_trans (Nat.le_trans (Nat.le_trans (Nat.le_trans (Nat.le_trans (Nat.le_trans (Nat.le_trans (Nat.le_trans (Nat.le_trans (Nat.le_trans (Nat.le_trans Z0 (Keep.of_wr W2).1) (Keep.of_wr W3).1) (Keep.of_wr W4).1) (Keep.of_wr W5).1) (Keep.of_wr W6).1) (Keep.of_wr W7).1) (Keep.of_wr W8).1) (Keep.of_wr W9).1) E11.1) (Keep.of_wr W12).1) (Nat.le_of_eq g14.symm)
  have ne_a1_b14 : a1 ≠ b14 := Nat.ne_of_lt (Nat.lt_of_lt_of_le ((((((((((E_a1.wr W2).wr W3).wr W4).wr W5).wr W6).wr W7).wr W8).wr W9).ext E11).wr W12).lt (Nat.le_of_eq g14.symm))
  have ne_a5_b14 : a5 ≠ b14 := Nat.ne_of_lt (Nat.lt_of_lt_of_le ((((((((((E_sp.wr W2).wr W3).wr W4).wr W5).wr W6).wr W7).wr W8).wr W9).ext E11).wr W12).lt (Nat.le_of_eq g14.symm))
  have ne_r_b14 : r ≠ b14 := Nat.ne_of_lt (Nat.lt_of_lt_of_le ((((((((((P_1.wr W2).wr W3).wr W4).wr W5).wr W6).wr W7).wr W8).wr W9).ext E11).wr W12).lt (Nat.le_of_eq g14.symm))
  have ne_b11_b14 : b11 ≠ b14 := Nat.ne_of_lt (Nat.lt_of_lt_of_le (V_b11.other W12 (Ne.symm ne_a1_b11)).lt (Nat.le_of_eq g14.symm))
  have sz_b14 : h0.size ≤ b14 := Nat.le_trans K12.1 (Nat.le_of_eq g14.symm)
  have V_b14 : Arv Z h14 b14 k14 .boolean (1 : Int32) [(.int (0 : Int32))] (.int (0 : Int32)) := (Arv.new A14 (by decide)).pad (pad_rep [] (.int (0 : Int32)) 1)
  have K14 : Keep h0 h14 [a1] := K12.ext E14
  refine own_step st14 ?_
  show own_Go p e below s _ _ _ (T14.setTop (mkF m 70 #[.val (.ref a1), .val (.long q2), .second, .val .null, .val (.int p4), .val (.ref a5), .val (.int p6), .val (.int p7), .val .null, .val .null] [(.ref b14), (.ref a1)]))
  obtain ⟨T15, h15, X15, e15, W15, st15⟩ := putF X14 hx hZ hown (host := "") (Or.inl (hw _ (List.mem_of_getElem? (i := 118) rfl))) Via.refl e14 (((((((((((F_9.other W2 (Or.inr (slot_ne (Or.inr (hw _ (List.mem_of_getElem? (i := 119) rfl))) (Or.inr (hw _ (List.mem_of_getElem? (i := 84) rfl))) (by decide) (t := (.array .boolean)) (t' := .long) (by decide) (by decide)))).other W3 (Or.inr (slot_ne (Or.inr (hw _ (List.mem_of_getElem? (i := 119) rfl))) (Or.inr (hw _ (List.mem_of_getElem? (i := 86) rfl))) (by decide) (t := (.array .boolean)) (t' := (.object "java/lang/String")) (by decide) (by decide)))).other W4 (Or.inr (slot_ne (Or.inr (hw _ (List.mem_of_getElem? (i := 119) rfl))) (Or.inr (hw _ (List.mem_of_getElem? (i := 88) rfl))) (by decide) (t := (.array .boolean)) (t' := .int) (by decide) (by decide)))).other W5 (Or.inr (slot_ne (Or.inr (hw _ (List.mem_of_getElem? (i := 119) rfl))) (Or.inr (hw _ (List.mem_of_getElem? (i := 90) rfl))) (by decide) (t := (.array .boolean)) (t' := (.object "com/example/lichen/lichen/continuous/Span")) (by decide) (by decide)))).other W6 (Or.inr (slot_ne (Or.inr (hw _ (List.mem_of_getElem? (i := 119) rfl))) (Or.inr (hw _ (List.mem_of_getElem? (i := 92) rfl))) (by decide) (t := (.array .boolean)) (t' := .int) (by decide) (by decide)))).other W7 (Or.inr (slot_ne (Or.inr (hw _ (List.mem_of_getElem? (i := 119) rfl))) (Or.inr (hw _ (List.mem_of_getElem? (i := 94) rfl))) (by decide) (t := (.array .boolean)) (t' := .boolean) (by decide) (by decide)))).other W8 (Or.inr (slot_ne (Or.inr (hw _ (List.mem_of_getElem? (i := 119) rfl))) (Or.inr (hw _ (List.mem_of_getElem? (i := 96) rfl))) (by decide) (t := (.array .boolean)) (t' := (.object "com/example/lichen/lichen/usage/Target")) (by decide) (by decide)))).other W9 (Or.inr (slot_ne (Or.inr (hw _ (List.mem_of_getElem? (i := 119) rfl))) (Or.inr (hw _ (List.mem_of_getElem? (i := 98) rfl))) (by decide) (t := (.array .boolean)) (t' := (.object "java/util/List")) (by decide) (by decide)))).ext E11).other W12 (Or.inr (slot_ne (Or.inr (hw _ (List.mem_of_getElem? (i := 119) rfl))) (Or.inr (hw _ (List.mem_of_getElem? (i := 116) rfl))) (by decide) (t := (.array .boolean)) (t' := (.array (.object "com/example/lichen/lichen/continuous/Settlement$Outcome"))) (by decide) (by decide)))).ext E14) (((((((((((E_a1.wr W2).wr W3).wr W4).wr W5).wr W6).wr W7).wr W8).wr W9).ext E11).wr W12).ext E14) (Or.inr ⟨(hw _ (List.mem_of_getElem? (i := 119) rfl)), rfl, hnm⟩) (hw _ (List.mem_of_getElem? (i := 77) rfl)) (ty := (.array .boolean)) (by decide) rfl rfl (g := (mkF m 70 #[.val (.ref a1), .val (.long q2), .second, .val .null, .val (.int p4), .val (.ref a5), .val (.int p6), .val (.int p7), .val .null, .val .null] [(.ref b14), (.ref a1)])) rfl rfl (hb hby d11_70)
  have Fw15 := (((((((((((F_9.other W2 (Or.inr (slot_ne (Or.inr (hw _ (List.mem_of_getElem? (i := 119) rfl))) (Or.inr (hw _ (List.mem_of_getElem? (i := 84) rfl))) (by decide) (t := (.array .boolean)) (t' := .long) (by decide) (by decide)))).other W3 (Or.inr (slot_ne (Or.inr (hw _ (List.mem_of_getElem? (i := 119) rfl))) (Or.inr (hw _ (List.mem_of_getElem? (i := 86) rfl))) (by decide) (t := (.array .boolean)) (t' := (.object "java/lang/String")) (by decide) (by decide)))).other W4 (Or.inr (slot_ne (Or.inr (hw _ (List.mem_of_getElem? (i := 119) rfl))) (Or.inr (hw _ (List.mem_of_getElem? (i := 88) rfl))) (by decide) (t := (.array .boolean)) (t' := .int) (by decide) (by decide)))).other W5 (Or.inr (slot_ne (Or.inr (hw _ (List.mem_of_getElem? (i := 119) rfl))) (Or.inr (hw _ (List.mem_of_getElem? (i := 90) rfl))) (by decide) (t := (.array .boolean)) (t' := (.object "com/example/lichen/lichen/continuous/Span")) (by decide) (by decide)))).other W6 (Or.inr (slot_ne (Or.inr (hw _ (List.mem_of_getElem? (i := 119) rfl))) (Or.inr (hw _ (List.mem_of_getElem? (i := 92) rfl))) (by decide) (t := (.array .boolean)) (t' := .int) (by decide) (by decide)))).other W7 (Or.inr (slot_ne (Or.inr (hw _ (List.mem_of_getElem? (i := 119) rfl))) (Or.inr (hw _ (List.mem_of_getElem? (i := 94) rfl))) (by decide) (t := (.array .boolean)) (t' := .boolean) (by decide) (by decide)))).other W8 (Or.inr (slot_ne (Or.inr (hw _ (List.mem_of_getElem? (i := 119) rfl))) (Or.inr (hw _ (List.mem_of_getElem? (i := 96) rfl))) (by decide) (t := (.array .boolean)) (t' := (.object "com/example/lichen/lichen/usage/Target")) (by decide) (by decide)))).other W9 (Or.inr (slot_ne (Or.inr (hw _ (List.mem_of_getElem? (i := 119) rfl))) (Or.inr (hw _ (List.mem_of_getElem? (i := 98) rfl))) (by decide) (t := (.array .boolean)) (t' := (.object "java/util/List")) (by decide) (by decide)))).ext E11).other W12 (Or.inr (slot_ne (Or.inr (hw _ (List.mem_of_getElem? (i := 119) rfl))) (Or.inr (hw _ (List.mem_of_getElem? (i := 116) rfl))) (by decide) (t := (.array .boolean)) (t' := (.array (.object "com/example/lichen/lichen/continuous/Settlement$Outcome"))) (by decide) (by decide)))).ext E14).same W15
  have K15 : Keep h0 h15 [a1] := K14.wr W15 (Or.inl (by simp))
  have N15 := Fr.snoc X15 N13 g_a1
  refine own_step st15 ?_
  show own_Go p e below s _ _ _ (T15.setTop (mkF m 73 #[.val (.ref a1), .val (.long q2), .second, .val .null, .val (.int p4), .val (.ref a5), .val (.int p6), .val (.int p7), .val .null, .val .null] []))
  exact own_retV X15 hx Bd.notSynchronized Bd.returns (hb hby d11_73) ⟨rfl, N15, by rw [e15]; exact K15, by rw [e15]; exact ((((((((((((E_a1.wr W2).wr W3).wr W4).wr W5).wr W6).wr W7).wr W8).wr W9).ext E11).wr W12).ext E14).wr W15), b11, k11, by rw [e15]; exact ((Fw12.ext E14).other W15 (Or.inr (slot_ne (Or.inr (hw _ (List.mem_of_getElem? (i := 116) rfl))) (Or.inr (hw _ (List.mem_of_getElem? (i := 119) rfl))) (by decide) (t := (.array (.object "com/example/lichen/lichen/continuous/Settlement$Outcome"))) (t' := (.array .boolean)) (by decide) (by decide)))), by rw [e15]; exact (((V_b11.other W12 (Ne.symm ne_a1_b11)).ext E14).other W15 (Ne.symm ne_a1_b11)), O11, sz_b11, by rw [e15]; exact ((((((((((((F_s.other W2 (Or.inr (slot_ne (Or.inl (hw _ (List.mem_of_getElem? (i := 146) rfl))) (Or.inr (hw _ (List.mem_of_getElem? (i := 84) rfl))) (by decide) (t := .boolean) (t' := .long) (by decide) (by decide)))).other W3 (Or.inr (slot_ne (Or.inl (hw _ (List.mem_of_getElem? (i := 146) rfl))) (Or.inr (hw _ (List.mem_of_getElem? (i := 86) rfl))) (by decide) (t := .boolean) (t' := (.object "java/lang/String")) (by decide) (by decide)))).other W4 (Or.inr (slot_ne (Or.inl (hw _ (List.mem_of_getElem? (i := 146) rfl))) (Or.inr (hw _ (List.mem_of_getElem? (i := 88) rfl))) (by decide) (t := .boolean) (t' := .int) (by decide) (by decide)))).other W5 (Or.inr (slot_ne (Or.inl (hw _ (List.mem_of_getElem? (i := 146) rfl))) (Or.inr (hw _ (List.mem_of_getElem? (i := 90) rfl))) (by decide) (t := .boolean) (t' := (.object "com/example/lichen/lichen/continuous/Span")) (by decide) (by decide)))).other W6 (Or.inr (slot_ne (Or.inl (hw _ (List.mem_of_getElem? (i := 146) rfl))) (Or.inr (hw _ (List.mem_of_getElem? (i := 92) rfl))) (by decide) (t := .boolean) (t' := .int) (by decide) (by decide)))).other W7 (Or.inr (slot_ne (Or.inl (hw _ (List.mem_of_getElem? (i := 146) rfl))) (Or.inr (hw _ (List.mem_of_getElem? (i := 94) rfl))) (by decide) (t := .boolean) (t' := .boolean) (by decide) (by decide)))).other W8 (Or.inr (slot_ne (Or.inl (hw _ (List.mem_of_getElem? (i := 146) rfl))) (Or.inr (hw _ (List.mem_of_getElem? (i := 96) rfl))) (by decide) (t := .boolean) (t' := (.object "com/example/lichen/lichen/usage/Target")) (by decide) (by decide)))).other W9 (Or.inr (slot_ne (Or.inl (hw _ (List.mem_of_getElem? (i := 146) rfl))) (Or.inr (hw _ (List.mem_of_getElem? (i := 98) rfl))) (by decide) (t := .boolean) (t' := (.object "java/util/List")) (by decide) (by decide)))).ext E11).other W12 (Or.inr (slot_ne (Or.inl (hw _ (List.mem_of_getElem? (i := 146) rfl))) (Or.inr (hw _ (List.mem_of_getElem? (i := 116) rfl))) (by decide) (t := .boolean) (t' := (.array (.object "com/example/lichen/lichen/continuous/Settlement$Outcome"))) (by decide) (by decide)))).ext E14).other W15 (Or.inr (slot_ne (Or.inl (hw _ (List.mem_of_getElem? (i := 146) rfl))) (Or.inr (hw _ (List.mem_of_getElem? (i := 119) rfl))) (by decide) (t := .boolean) (t' := (.array .boolean)) (by decide) (by decide))))⟩ (by decide) (by decide)
theorem d15_0 : decode prog_20_method_7_code 0 = .ok (.aload_n 0, 1) := by decide +kernel
theorem d15_1 : decode prog_20_method_7_code 1 = .ok (.getfield 48, 3) := by decide +kernel
theorem d15_4 : decode prog_20_method_7_code 4 = .ok (.iload_n 1, 1) := by decide +kernel
theorem d15_5 : decode prog_20_method_7_code 5 = .ok (.aaload, 1) := by decide +kernel
theorem d15_6 : decode prog_20_method_7_code 6 = .ok (.areturn, 1) := by decide +kernel
theorem ef_15 (m : MethodId) (a1 : Addr) (p2 : Int32) : entryFrame m #[(.ref a1), (.int p2)] 2 = mkF m 0 #[.val (.ref a1), .val (.int p2)] [] := by first | (simp [entryFrame, mkF, argsToLocals, Value.category]; done) | rfl
def Q15 (Z : State) (a1 : Addr) (p2 : Int32) (oa : Addr) (k : ClassId) (x : Value) (h0 : Heap) (n0 : Nat) (v : Option Value) (h : Heap) (L : List Loc) : Prop := v = some x ∧ Fr n0 L ∧ h = h0
set_option maxRecDepth 65536 in
set_option maxHeartbeats 40000000 in
theorem rm15 (l : Launch) (Z : State) (a0 : Array Value) (hw : ∀ d ∈ tables_1, d.before a0 Z = true) (ws : List Jvm.Cond) (a1 : Addr) (p2 : Int32) (oa : Addr) (k : ClassId) (x : Value) (h0 : Heap) (n0 : Nat) (Z0 : n0 ≤ h0.size) (F_o : Fld Z h0 a1 "com/example/lichen/lichen/continuous/TakenSpan" "outcomes" "[Lcom/example/lichen/lichen/continuous/Settlement$Outcome;" (.ref oa)) (V_o : Arv Z h0 oa k (.object "com/example/lichen/lichen/continuous/Settlement$Outcome") (1 : Int32) [x] .null) (hxr : x.isRef = true) (e2 : p2 = (0 : Int32)) :
    MetFree l (⟨"com/example/lichen/lichen/continuous/TakenSpan", "outcome", "(I)Lcom/example/lichen/lichen/continuous/Settlement$Outcome;"⟩ : MethodName) (head1 (Jvm.Cond.code (⟨"com/example/lichen/lichen/continuous/TakenSpan", "outcome", "(I)Lcom/example/lichen/lichen/continuous/Settlement$Outcome;"⟩ : MethodName) prog_20_method_7_code 2 (some (.object "com/example/lichen/lichen/continuous/Settlement$Outcome")) :: ws) ({ frames := 0, cells := 0, slots := 0, locals := 0 } : Room)) (fun a U => a = #[(.ref a1), (.int p2)] ∧ Z.Warmed39 U.vm ∧ U.heap = h0) (fun _ _ _ _ _ => True) (fun _ U o U' => ∃ v L, o = .returned v ∧ Q15 Z a1 p2 oa k x h0 n0 v U'.heap L ∧ FrameEnd U o U' L ({ frames := 0, cells := 0, slots := 0, locals := 0 } : Room).cells ({ frames := 0, cells := 0, slots := 0, locals := 0 } : Room).slots) := by
  refine MetFree.of_bodySF (plainFor_of_name pn_16) hisR ?_
  intro p e s m args below meth c s₁ Bd hml0 hP hK
  obtain ⟨rfl, hZ, hh⟩ := hP
  have hx := Bd.exec
  have hby := Bd.bytes
  have hml : c.maxLocals = 2 := hml0
  have hown : s.vm.findClass "com/example/lichen/lichen/continuous/TakenSpan" = some m.cls := findClass_of_methodNamed Bd.named
  have hnm := (name_of_methodNamed Bd.named Bd.method).1
  have X0 : Stand p l e ({ frames := 0, cells := 0, slots := 0, locals := 0 } : Room) s m #[(.ref a1), (.int p2)] below meth c s₁ [] 0 0 := Stand.of_body Bd
  have e0 : s₁.heap = h0 := by rw [← hh, Bd.state]; rfl
  have N0 := Fr.nil n0
  skip
  show own_Go p e below s (Q15 Z a1 p2 oa k x h0 n0) ({ frames := 0, cells := 0, slots := 0, locals := 0 } : Room).cells ({ frames := 0, cells := 0, slots := 0, locals := 0 } : Room).slots _
  refine own_step (B := s₁.setTop (mkF m 0 #[.val (.ref a1), .val (.int p2)] [])) (fun t k => castTop (ef_15 m a1 p2) k) ?_
  subst e2
  obtain ⟨cl, Ar, q, Sz, Nz, Hs, G⟩ := V_o
  have hin : ¬ ((0 : Int32) < 0 ∨ cl.slots.size ≤ ((0 : Int32)).toNatClampNeg) := inb_of Sz ⟨by decide, by decide⟩
  have hat : cl.slots[((0 : Int32)).toNatClampNeg]? = some x := Has.at Hs hin rfl
  refine own_step (B := s₁.setTop (mkF m 1 #[.val (.ref a1), .val (.int (0 : Int32))] [(.ref a1)])) (fun t k => ?_) ?_
  · show Steps p.tables e below (s₁.setTop (mkF m 0 #[.val (.ref a1), .val (.int (0 : Int32))] [])) _
    refine XS.aloadN X0.here hx rfl (hb hby d15_0) rfl rfl ?_
    exact k
  obtain ⟨T1, X1, e1, st1⟩ := getF X0 hx hZ hown (host := "") (Or.inl (hw _ (List.mem_of_getElem? (i := 115) rfl))) Via.refl e0 F_o (g := (mkF m 1 #[.val (.ref a1), .val (.int (0 : Int32))] [(.ref a1)])) rfl rfl (hb hby d15_1)
  refine own_step st1 ?_
  show own_Go p e below s _ _ _ (T1.setTop (mkF m 4 #[.val (.ref a1), .val (.int (0 : Int32))] [(.ref oa)]))
  refine own_step (B := T1.setTop (mkF m 6 #[.val (.ref a1), .val (.int (0 : Int32))] [x])) (fun t k => ?_) ?_
  · show Steps p.tables e below (T1.setTop (mkF m 4 #[.val (.ref a1), .val (.int (0 : Int32))] [(.ref oa)])) _
    refine XS.iloadN X1.here hx rfl (hb hby d15_4) rfl ?_
    show Steps p.tables e below (T1.setTop (mkF m 5 #[.val (.ref a1), .val (.int (0 : Int32))] [(.int (0 : Int32)), (.ref oa)])) _
    refine X1.aaload hx (j := (0 : Int32)) (v := x) (by rw [e1]; exact Ar.1) (State.isArrayOf_alike hZ.alike Ar.2.1) rfl Ar.2.2 hin hat (g := (mkF m 5 #[.val (.ref a1), .val (.int (0 : Int32))] [(.int (0 : Int32)), (.ref oa)])) rfl rfl (hb hby d15_5) _ ?_
    exact k
  exact own_retR X1 hx Bd.notSynchronized Bd.returns hxr rfl (hb hby d15_6) ⟨rfl, N0, e1⟩ (by decide) (by decide)
theorem d16_0 : decode prog_20_method_8_code 0 = .ok (.aload_n 0, 1) := by decide +kernel
theorem d16_1 : decode prog_20_method_8_code 1 = .ok (.getfield 48, 3) := by decide +kernel
theorem d16_4 : decode prog_20_method_8_code 4 = .ok (.iload_n 1, 1) := by decide +kernel
theorem d16_5 : decode prog_20_method_8_code 5 = .ok (.aload_n 2, 1) := by decide +kernel
theorem d16_6 : decode prog_20_method_8_code 6 = .ok (.aastore, 1) := by decide +kernel
theorem d16_7 : decode prog_20_method_8_code 7 = .ok (.aload_n 0, 1) := by decide +kernel
theorem d16_8 : decode prog_20_method_8_code 8 = .ok (.getfield 101, 3) := by decide +kernel
theorem d16_11 : decode prog_20_method_8_code 11 = .ok (.ifCond .ne 7, 3) := by decide +kernel
theorem d16_14 : decode prog_20_method_8_code 14 = .ok (.iconst 1, 1) := by decide +kernel
theorem d16_15 : decode prog_20_method_8_code 15 = .ok (.goto 4, 3) := by decide +kernel
theorem d16_18 : decode prog_20_method_8_code 18 = .ok (.iconst 0, 1) := by decide +kernel
theorem d16_19 : decode prog_20_method_8_code 19 = .ok (.istore_n 3, 1) := by decide +kernel
theorem d16_20 : decode prog_20_method_8_code 20 = .ok (.aload_n 0, 1) := by decide +kernel
theorem d16_21 : decode prog_20_method_8_code 21 = .ok (.iconst 1, 1) := by decide +kernel
theorem d16_22 : decode prog_20_method_8_code 22 = .ok (.putfield 101, 3) := by decide +kernel
theorem d16_25 : decode prog_20_method_8_code 25 = .ok (.iload_n 3, 1) := by decide +kernel
theorem d16_26 : decode prog_20_method_8_code 26 = .ok (.ireturn, 1) := by decide +kernel
theorem own_nb (p : Prop) [Decidable p] : nar .boolean (own_b p) = own_b p := by unfold own_b; split <;> rfl
theorem ef_16 (m : MethodId) (a1 : Addr) (p2 : Int32) (a3 : Addr) : entryFrame m #[(.ref a1), (.int p2), (.ref a3)] 4 = mkF m 0 #[.val (.ref a1), .val (.int p2), .val (.ref a3), .unset] [] := by first | (simp [entryFrame, mkF, argsToLocals, Value.category]; done) | rfl
def Q16 (Z : State) (a1 : Addr) (p2 : Int32) (a3 : Addr) (oa : Addr) (k : ClassId) (x : Value) (z : Int32) (h0 : Heap) (n0 : Nat) (v : Option Value) (h : Heap) (L : List Loc) : Prop := v = some (.int (own_b (z = (0 : Int32)))) ∧ Fr n0 L ∧ Keep h0 h [oa, a1] ∧ Exa Z h a1 "com/example/lichen/lichen/continuous/TakenSpan" ∧ Fld Z h a1 "com/example/lichen/lichen/continuous/TakenSpan" "outcomes" "[Lcom/example/lichen/lichen/continuous/Settlement$Outcome;" (.ref oa) ∧ Arv Z h oa k (.object "com/example/lichen/lichen/continuous/Settlement$Outcome") (1 : Int32) [.ref a3] .null ∧ Fld Z h a1 "com/example/lichen/lichen/continuous/TakenSpan" "settled" "Z" (.int (1 : Int32))
set_option maxRecDepth 65536 in
set_option maxHeartbeats 40000000 in
theorem rm16 (l : Launch) (Z : State) (a0 : Array Value) (hw : ∀ d ∈ tables_1, d.before a0 Z = true) (ws : List Jvm.Cond) (a1 : Addr) (p2 : Int32) (a3 : Addr) (oa : Addr) (k : ClassId) (x : Value) (z : Int32) (h0 : Heap) (n0 : Nat) (Z0 : n0 ≤ h0.size) (E_a1 : Exa Z h0 a1 "com/example/lichen/lichen/continuous/TakenSpan") (F_o : Fld Z h0 a1 "com/example/lichen/lichen/continuous/TakenSpan" "outcomes" "[Lcom/example/lichen/lichen/continuous/Settlement$Outcome;" (.ref oa)) (V_o : Arv Z h0 oa k (.object "com/example/lichen/lichen/continuous/Settlement$Outcome") (1 : Int32) [x] .null) (O_o : Ovr Z k "com/example/lichen/lichen/continuous/Settlement$Outcome") (E_a3 : Exa Z h0 a3 "com/example/lichen/lichen/continuous/Settlement$Outcome") (F_s : Fld Z h0 a1 "com/example/lichen/lichen/continuous/TakenSpan" "settled" "Z" (.int z)) (g_a1 : n0 ≤ a1) (g_oa : n0 ≤ oa) (neo : a1 ≠ oa) (e2 : p2 = (0 : Int32)) :
    MetFree l (⟨"com/example/lichen/lichen/continuous/TakenSpan", "settle", "(ILcom/example/lichen/lichen/continuous/Settlement$Outcome;)Z"⟩ : MethodName) (head1 (Jvm.Cond.code (⟨"com/example/lichen/lichen/continuous/TakenSpan", "settle", "(ILcom/example/lichen/lichen/continuous/Settlement$Outcome;)Z"⟩ : MethodName) prog_20_method_8_code 4 (some .boolean) :: ws) ({ frames := 0, cells := 0, slots := 0, locals := 0 } : Room)) (fun a U => a = #[(.ref a1), (.int p2), (.ref a3)] ∧ Z.Warmed39 U.vm ∧ U.heap = h0) (fun _ _ _ _ _ => True) (fun _ U o U' => ∃ v L, o = .returned v ∧ Q16 Z a1 p2 a3 oa k x z h0 n0 v U'.heap L ∧ FrameEnd U o U' L ({ frames := 0, cells := 0, slots := 0, locals := 0 } : Room).cells ({ frames := 0, cells := 0, slots := 0, locals := 0 } : Room).slots) := by
  refine MetFree.of_bodySF (plainFor_of_name pn_16) hisR ?_
  intro p e s m args below meth c s₁ Bd hml0 hP hK
  obtain ⟨rfl, hZ, hh⟩ := hP
  have hx := Bd.exec
  have hby := Bd.bytes
  have hml : c.maxLocals = 4 := hml0
  have hown : s.vm.findClass "com/example/lichen/lichen/continuous/TakenSpan" = some m.cls := findClass_of_methodNamed Bd.named
  have hnm := (name_of_methodNamed Bd.named Bd.method).1
  have X0 : Stand p l e ({ frames := 0, cells := 0, slots := 0, locals := 0 } : Room) s m #[(.ref a1), (.int p2), (.ref a3)] below meth c s₁ [] 0 0 := Stand.of_body Bd
  have e0 : s₁.heap = h0 := by rw [← hh, Bd.state]; rfl
  have N0 := Fr.nil n0
  skip
  show own_Go p e below s (Q16 Z a1 p2 a3 oa k x z h0 n0) ({ frames := 0, cells := 0, slots := 0, locals := 0 } : Room).cells ({ frames := 0, cells := 0, slots := 0, locals := 0 } : Room).slots _
  refine own_step (B := s₁.setTop (mkF m 0 #[.val (.ref a1), .val (.int p2), .val (.ref a3), .unset] [])) (fun t k => castTop (ef_16 m a1 p2 a3) k) ?_
  subst e2
  have KK0 : Keep h0 h0 [oa, a1] := Keep.refl h0 _
  refine own_step (B := s₁.setTop (mkF m 1 #[.val (.ref a1), .val (.int (0 : Int32)), .val (.ref a3), .unset] [(.ref a1)])) (fun t k => ?_) ?_
  · show Steps p.tables e below (s₁.setTop (mkF m 0 #[.val (.ref a1), .val (.int (0 : Int32)), .val (.ref a3), .unset] [])) _
    refine XS.aloadN X0.here hx rfl (hb hby d16_0) rfl rfl ?_
    exact k
  obtain ⟨T1, X1, e1, st1⟩ := getF X0 hx hZ hown (host := "") (Or.inl (hw _ (List.mem_of_getElem? (i := 115) rfl))) Via.refl e0 F_o (g := (mkF m 1 #[.val (.ref a1), .val (.int (0 : Int32)), .val (.ref a3), .unset] [(.ref a1)])) rfl rfl (hb hby d16_1)
  refine own_step st1 ?_
  show own_Go p e below s _ _ _ (T1.setTop (mkF m 4 #[.val (.ref a1), .val (.int (0 : Int32)), .val (.ref a3), .unset] [(.ref oa)]))
  refine own_step (B := T1.setTop (mkF m 6 #[.val (.ref a1), .val (.int (0 : Int32)), .val (.ref a3), .unset] [(.ref a3), (.int (0 : Int32)), (.ref oa)])) (fun t k => ?_) ?_
  · show Steps p.tables e below (T1.setTop (mkF m 4 #[.val (.ref a1), .val (.int (0 : Int32)), .val (.ref a3), .unset] [(.ref oa)])) _
    refine XS.iloadN X1.here hx rfl (hb hby d16_4) rfl ?_
    show Steps p.tables e below (T1.setTop (mkF m 5 #[.val (.ref a1), .val (.int (0 : Int32)), .val (.ref a3), .unset] [(.int (0 : Int32)), (.ref oa)])) _
    refine XS.aloadN X1.here hx rfl (hb hby d16_5) rfl rfl ?_
    exact k
  obtain ⟨cl2, Ar2, q2, S2, NN2, Hs2, G2⟩ := V_o
  have hin2 : ¬ ((0 : Int32) < 0 ∨ cl2.slots.size ≤ ((0 : Int32)).toNatClampNeg) := inb_of S2 ⟨by decide, by decide⟩
  obtain ⟨T2, h2, X2, e2, W2, st2⟩ := stR X1 hx hZ e1 Ar2 (j := (0 : Int32)) hin2 rfl (Sto.ofV Ar2 q2 O_o (Ins.self E_a3)) (g := (mkF m 6 #[.val (.ref a1), .val (.int (0 : Int32)), .val (.ref a3), .unset] [(.ref a3), (.int (0 : Int32)), (.ref oa)])) rfl rfl (hb hby d16_6)
  have V2 : Arv Z h2 oa k (.object "com/example/lichen/lichen/continuous/Settlement$Outcome") (1 : Int32) [.ref a3] .null := Arv.set Ar2 q2 S2 NN2 Hs2 G2 rfl W2 0 rfl (Nat.le_of_ble_eq_true rfl)
  have N2 := Fr.snoc X2 N0 g_oa
  have K2 : Keep h0 h2 [oa, a1] := KK0.wr W2 (Or.inl (by simp))
  refine own_step st2 ?_
  show own_Go p e below s _ _ _ (T2.setTop (mkF m 7 #[.val (.ref a1), .val (.int (0 : Int32)), .val (.ref a3), .unset] []))
  refine own_step (B := T2.setTop (mkF m 8 #[.val (.ref a1), .val (.int (0 : Int32)), .val (.ref a3), .unset] [(.ref a1)])) (fun t k => ?_) ?_
  · show Steps p.tables e below (T2.setTop (mkF m 7 #[.val (.ref a1), .val (.int (0 : Int32)), .val (.ref a3), .unset] [])) _
    refine XS.aloadN X2.here hx rfl (hb hby d16_7) rfl rfl ?_
    exact k
  obtain ⟨T3, X3, e3, st3⟩ := getF X2 hx hZ hown (host := "") (Or.inl (hw _ (List.mem_of_getElem? (i := 145) rfl))) Via.refl e2 (F_s.other W2 (Or.inl neo)) (g := (mkF m 8 #[.val (.ref a1), .val (.int (0 : Int32)), .val (.ref a3), .unset] [(.ref a1)])) rfl rfl (hb hby d16_8)
  refine own_step st3 ?_
  show own_Go p e below s _ _ _ (T3.setTop (mkF m 11 #[.val (.ref a1), .val (.int (0 : Int32)), .val (.ref a3), .unset] [(.int z)]))
  refine own_step (B := T3.setTop (mkF m 19 #[.val (.ref a1), .val (.int (0 : Int32)), .val (.ref a3), .unset] [(.int (own_b (z = (0 : Int32))))])) (fun t k => ?_) ?_
  · by_cases hc11 : z = (0 : Int32)
    · show Steps p.tables e below (T3.setTop (mkF m 11 #[.val (.ref a1), .val (.int (0 : Int32)), .val (.ref a3), .unset] [(.int z)])) _
      refine XS.ifNo X3.here hx rfl (hb hby d16_11) rfl ((if0 _ _).trans (teq hc11).2) ?_
      show Steps p.tables e below (T3.setTop (mkF m 14 #[.val (.ref a1), .val (.int (0 : Int32)), .val (.ref a3), .unset] [])) _
      refine XS.iconst X3.here hx rfl (hb hby d16_14) ?_
      show Steps p.tables e below (T3.setTop (mkF m 15 #[.val (.ref a1), .val (.int (0 : Int32)), .val (.ref a3), .unset] [(.int (1 : Int32))])) _
      refine XS.goto X3.here hx rfl (pc0 := 15) (pc' := 19) rfl (hb hby d16_15) (by decide) (by decide) ?_
      show Steps p.tables e below (T3.setTop (mkF m 19 #[.val (.ref a1), .val (.int (0 : Int32)), .val (.ref a3), .unset] [(.int (1 : Int32))])) _
      have q4 : (own_b (z = (0 : Int32))) = (1 : Int32) := by simp [own_b, hc11]
      rw [q4] at k
      exact k
    · show Steps p.tables e below (T3.setTop (mkF m 11 #[.val (.ref a1), .val (.int (0 : Int32)), .val (.ref a3), .unset] [(.int z)])) _
      refine XS.ifYes X3.here hx rfl (pc0 := 11) (pc' := 18) rfl (hb hby d16_11) rfl ((if0 _ _).trans (feq hc11).2) (by decide) (by decide) ?_
      show Steps p.tables e below (T3.setTop (mkF m 18 #[.val (.ref a1), .val (.int (0 : Int32)), .val (.ref a3), .unset] [])) _
      refine XS.iconst X3.here hx rfl (hb hby d16_18) ?_
      show Steps p.tables e below (T3.setTop (mkF m 19 #[.val (.ref a1), .val (.int (0 : Int32)), .val (.ref a3), .unset] [(.int (0 : Int32))])) _
      have q5 : (own_b (z = (0 : Int32))) = (0 : Int32) := by simp [own_b, hc11]
      rw [q5] at k
      exact k
  refine own_step (B := T3.setTop (mkF m 22 #[.val (.ref a1), .val (.int (0 : Int32)), .val (.ref a3), .val (.int (own_b (z = (0 : Int32))))] [(.int (1 : Int32)), (.ref a1)])) (fun t k => ?_) ?_
  · show Steps p.tables e below (T3.setTop (mkF m 19 #[.val (.ref a1), .val (.int (0 : Int32)), .val (.ref a3), .unset] [(.int (own_b (z = (0 : Int32))))])) _
    refine XS.istoreN X3.here hx rfl (hb hby d16_19) rfl (l' := #[.val (.ref a1), .val (.int (0 : Int32)), .val (.ref a3), .val (.int (own_b (z = (0 : Int32))))]) rfl ?_
    show Steps p.tables e below (T3.setTop (mkF m 20 #[.val (.ref a1), .val (.int (0 : Int32)), .val (.ref a3), .val (.int (own_b (z = (0 : Int32))))] [])) _
    refine XS.aloadN X3.here hx rfl (hb hby d16_20) rfl rfl ?_
    show Steps p.tables e below (T3.setTop (mkF m 21 #[.val (.ref a1), .val (.int (0 : Int32)), .val (.ref a3), .val (.int (own_b (z = (0 : Int32))))] [(.ref a1)])) _
    refine XS.iconst X3.here hx rfl (hb hby d16_21) ?_
    exact k
  obtain ⟨T6, h6, X6, e6, W6, st6⟩ := putFN X3 hx hZ hown (hw _ (List.mem_of_getElem? (i := 145) rfl)) Via.refl e3 (F_s.other W2 (Or.inl neo)) (E_a1.wr W2) (Or.inl (hw _ (List.mem_of_getElem? (i := 146) rfl))) (hw _ (List.mem_of_getElem? (i := 77) rfl)) (ty := .boolean) (v' := (.int (1 : Int32))) (by decide) rfl (by first | rfl | exact fits_nar_bool _ | simp [fits]) (g := (mkF m 22 #[.val (.ref a1), .val (.int (0 : Int32)), .val (.ref a3), .val (.int (own_b (z = (0 : Int32))))] [(.int (1 : Int32)), (.ref a1)])) rfl rfl (hb hby d16_22)
  have Fw6 := (F_s.other W2 (Or.inl neo)).same W6
  have K6 : Keep h0 h6 [oa, a1] := K2.wr W6 (Or.inl (by simp))
  have N6 := Fr.snoc X6 N2 g_a1
  refine own_step st6 ?_
  show own_Go p e below s _ _ _ (T6.setTop (mkF m 25 #[.val (.ref a1), .val (.int (0 : Int32)), .val (.ref a3), .val (.int (own_b (z = (0 : Int32))))] []))
  refine own_step (B := T6.setTop (mkF m 26 #[.val (.ref a1), .val (.int (0 : Int32)), .val (.ref a3), .val (.int (own_b (z = (0 : Int32))))] [(.int (own_b (z = (0 : Int32))))])) (fun t k => ?_) ?_
  · show Steps p.tables e below (T6.setTop (mkF m 25 #[.val (.ref a1), .val (.int (0 : Int32)), .val (.ref a3), .val (.int (own_b (z = (0 : Int32))))] [])) _
    refine XS.iloadN X6.here hx rfl (hb hby d16_25) rfl ?_
    exact k
  exact own_retN X6 hx Bd.notSynchronized (t := .boolean) Bd.returns (by simp) (hb hby d16_26) ⟨by show some (Value.int (nar .boolean (own_b (z = (0 : Int32))))) = _; rw [own_nb], N6, by rw [e6]; exact K6, by rw [e6]; exact ((E_a1.wr W2).wr W6), by rw [e6]; exact ((F_o.other W2 (Or.inl neo)).other W6 (Or.inr (slot_ne (Or.inr (hw _ (List.mem_of_getElem? (i := 116) rfl))) (Or.inl (hw _ (List.mem_of_getElem? (i := 146) rfl))) (by decide) (t := (.array (.object "com/example/lichen/lichen/continuous/Settlement$Outcome"))) (t' := .boolean) (by decide) (by decide)))), by rw [e6]; exact (V2.other W6 (Ne.symm neo)), by rw [e6]; exact Fw6⟩ (by decide) (by decide)
theorem pd_17 : parseMethodDescriptor "(JJJILcom/example/lichen/lichen/bucket/Granularity;)V" = some ⟨[.long, .long, .long, .int, (.object "com/example/lichen/lichen/bucket/Granularity")], none⟩ := by decide +kernel
theorem pd_18 : parseMethodDescriptor "(JLjava/lang/String;ILcom/example/lichen/lichen/continuous/Span;IZLcom/example/lichen/lichen/usage/Target;Ljava/util/List;)V" = some ⟨[.long, (.object "java/lang/String"), .int, (.object "com/example/lichen/lichen/continuous/Span"), .int, .boolean, (.object "com/example/lichen/lichen/usage/Target"), (.object "java/util/List")], none⟩ := by decide +kernel
theorem pd_19 : parseMethodDescriptor "(JIZ)V" = some ⟨[.long, .int, .boolean], none⟩ := by decide +kernel
theorem pd_20 : parseMethodDescriptor "(I)Lcom/example/lichen/lichen/continuous/Settlement$Outcome;" = some ⟨[.int], some (.object "com/example/lichen/lichen/continuous/Settlement$Outcome")⟩ := by decide +kernel
theorem pd_21 : parseMethodDescriptor "(ILcom/example/lichen/lichen/continuous/Settlement$Outcome;)Z" = some ⟨[.int, (.object "com/example/lichen/lichen/continuous/Settlement$Outcome")], some .boolean⟩ := by decide +kernel
theorem pn_22 : plainName "com/example/lichen/lichen/continuous/TakenSpanSettlePinLaw" = true := by first | (simp [plainName, overriddenIn]; done) | decide +kernel
theorem ef_0 (m : MethodId) (id : Int64) (start : Int64) (dur : Int64) (rat : Int64) (refu : Int32) (fl : Int32) : entryFrame m #[(.long id), (.long start), (.long dur), (.long rat), (.int refu), (.int fl)] maxLocals = mkF m 0 #[.val (.long id), .second, .val (.long start), .second, .val (.long dur), .second, .val (.long rat), .second, .val (.int refu), .val (.int fl), .unset, .unset, .unset, .unset, .unset, .unset, .unset, .unset, .unset, .unset, .unset, .unset, .unset] [] := by first | (simp [entryFrame, mkF, argsToLocals, Value.category, maxLocals]; done) | rfl
def Q0 (Z : State) (id : Int64) (start : Int64) (dur : Int64) (rat : Int64) (refu : Int32) (fl : Int32) (em : Addr) (dv : Addr) (h0 : Heap) (n0 : Nat) (v : Option Value) (h : Heap) (L : List Loc) : Prop := v = some (.int (1 : Int32)) ∧ Fr n0 L
set_option maxRecDepth 65536 in
set_option maxHeartbeats 40000000 in
theorem rm0 (l : Launch) (Z : State) (a0 : Array Value) (hw : ∀ d ∈ tables_1, d.before a0 Z = true) (ws : List Jvm.Cond) (id : Int64) (start : Int64) (dur : Int64) (rat : Int64) (refu : Int32) (fl : Int32) (em : Addr) (dv : Addr) (h0 : Heap) (n0 : Nat) (Z0 : n0 ≤ h0.size) (S_E : Sta Z h0 "java/util/ImmutableCollections" "EMPTY" "Ljava/lang/Object;" (.ref em)) (S_D : Sta Z h0 "com/example/lichen/lichen/continuous/Settlement$Outcome" "DELIVERED" "Lcom/example/lichen/lichen/continuous/Settlement$Outcome;" (.ref dv)) (E_D : Exa Z h0 dv "com/example/lichen/lichen/continuous/Settlement$Outcome") :
    MetFree l x (head1 (Jvm.Cond.code x code maxLocals ret :: ws) room_1) (fun a U => a = #[(.long id), (.long start), (.long dur), (.long rat), (.int refu), (.int fl)] ∧ Z.Warmed39 U.vm ∧ U.heap = h0) (fun _ _ _ _ _ => True) (fun _ U o U' => ∃ v L, o = .returned v ∧ Q0 Z id start dur rat refu fl em dv h0 n0 v U'.heap L ∧ FrameEnd U o U' L room_1.cells room_1.slots) := by
  refine MetFree.of_bodySF (plainFor_of_name pn_22) hisR ?_
  intro p e s m args below meth c s₁ Bd hml0 hP hK
  obtain ⟨rfl, hZ, hh⟩ := hP
  have hx := Bd.exec
  have hby := Bd.bytes
  have hml : c.maxLocals = 23 := hml0
  have hown : s.vm.findClass "com/example/lichen/lichen/continuous/TakenSpanSettlePinLaw" = some m.cls := findClass_of_methodNamed Bd.named
  have hnm := (name_of_methodNamed Bd.named Bd.method).1
  have X0 : Stand p l e room_1 s m #[(.long id), (.long start), (.long dur), (.long rat), (.int refu), (.int fl)] below meth c s₁ [] 0 0 := Stand.of_body Bd
  have e0 : s₁.heap = h0 := by rw [← hh, Bd.state]; rfl
  have N0 := Fr.nil n0
  skip
  show own_Go p e below s (Q0 Z id start dur rat refu fl em dv h0 n0) room_1.cells room_1.slots _
  refine own_step (B := s₁.setTop (mkF m 0 #[.val (.long id), .second, .val (.long start), .second, .val (.long dur), .second, .val (.long rat), .second, .val (.int refu), .val (.int fl), .unset, .unset, .unset, .unset, .unset, .unset, .unset, .unset, .unset, .unset, .unset, .unset, .unset] [])) (fun t k => castTop (ef_0 m id start dur rat refu fl) k) ?_
  refine own_step (B := s₁.setTop (mkF m 12 #[.val (.long id), .second, .val (.long start), .second, .val (.long dur), .second, .val (.long rat), .second, .val (.int refu), .val (.int fl), .unset, .unset, .unset, .unset, .unset, .unset, .unset, .unset, .unset, .unset, .unset, .unset, .unset] [(.int (own_b (¬ (fl &&& (1 : Int32)) = (0 : Int32))))])) (fun t k => ?_) ?_
  · show Steps p.tables e below (s₁.setTop (mkF m 0 #[.val (.long id), .second, .val (.long start), .second, .val (.long dur), .second, .val (.long rat), .second, .val (.int refu), .val (.int fl), .unset, .unset, .unset, .unset, .unset, .unset, .unset, .unset, .unset, .unset, .unset, .unset, .unset] [])) _
    refine XS.iload X0.here hx rfl (hb hby at_0) rfl ?_
    show Steps p.tables e below (s₁.setTop (mkF m 2 #[.val (.long id), .second, .val (.long start), .second, .val (.long dur), .second, .val (.long rat), .second, .val (.int refu), .val (.int fl), .unset, .unset, .unset, .unset, .unset, .unset, .unset, .unset, .unset, .unset, .unset, .unset, .unset] [(.int fl)])) _
    refine XS.iconst X0.here hx rfl (hb hby at_2) ?_
    show Steps p.tables e below (s₁.setTop (mkF m 3 #[.val (.long id), .second, .val (.long start), .second, .val (.long dur), .second, .val (.long rat), .second, .val (.int refu), .val (.int fl), .unset, .unset, .unset, .unset, .unset, .unset, .unset, .unset, .unset, .unset, .unset, .unset, .unset] [(.int (1 : Int32)), (.int fl)])) _
    refine XS.iand X0.here hx rfl (hb hby at_3) rfl ?_
    by_cases hc4 : (fl &&& (1 : Int32)) = (0 : Int32)
    · show Steps p.tables e below (s₁.setTop (mkF m 4 #[.val (.long id), .second, .val (.long start), .second, .val (.long dur), .second, .val (.long rat), .second, .val (.int refu), .val (.int fl), .unset, .unset, .unset, .unset, .unset, .unset, .unset, .unset, .unset, .unset, .unset, .unset, .unset] [(.int (fl &&& (1 : Int32)))])) _
      refine XS.ifYes X0.here hx rfl (pc0 := 4) (pc' := 11) rfl (hb hby at_4) rfl ((if0 _ _).trans (teq hc4).1) (by decide) (by decide) ?_
      show Steps p.tables e below (s₁.setTop (mkF m 11 #[.val (.long id), .second, .val (.long start), .second, .val (.long dur), .second, .val (.long rat), .second, .val (.int refu), .val (.int fl), .unset, .unset, .unset, .unset, .unset, .unset, .unset, .unset, .unset, .unset, .unset, .unset, .unset] [])) _
      refine XS.iconst X0.here hx rfl (hb hby at_11) ?_
      show Steps p.tables e below (s₁.setTop (mkF m 12 #[.val (.long id), .second, .val (.long start), .second, .val (.long dur), .second, .val (.long rat), .second, .val (.int refu), .val (.int fl), .unset, .unset, .unset, .unset, .unset, .unset, .unset, .unset, .unset, .unset, .unset, .unset, .unset] [(.int (0 : Int32))])) _
      have q1 : (own_b (¬ (fl &&& (1 : Int32)) = (0 : Int32))) = (0 : Int32) := by simp [own_b, hc4]
      rw [q1] at k
      exact k
    · show Steps p.tables e below (s₁.setTop (mkF m 4 #[.val (.long id), .second, .val (.long start), .second, .val (.long dur), .second, .val (.long rat), .second, .val (.int refu), .val (.int fl), .unset, .unset, .unset, .unset, .unset, .unset, .unset, .unset, .unset, .unset, .unset, .unset, .unset] [(.int (fl &&& (1 : Int32)))])) _
      refine XS.ifNo X0.here hx rfl (hb hby at_4) rfl ((if0 _ _).trans (feq hc4).1) ?_
      show Steps p.tables e below (s₁.setTop (mkF m 7 #[.val (.long id), .second, .val (.long start), .second, .val (.long dur), .second, .val (.long rat), .second, .val (.int refu), .val (.int fl), .unset, .unset, .unset, .unset, .unset, .unset, .unset, .unset, .unset, .unset, .unset, .unset, .unset] [])) _
      refine XS.iconst X0.here hx rfl (hb hby at_7) ?_
      show Steps p.tables e below (s₁.setTop (mkF m 8 #[.val (.long id), .second, .val (.long start), .second, .val (.long dur), .second, .val (.long rat), .second, .val (.int refu), .val (.int fl), .unset, .unset, .unset, .unset, .unset, .unset, .unset, .unset, .unset, .unset, .unset, .unset, .unset] [(.int (1 : Int32))])) _
      refine XS.goto X0.here hx rfl (pc0 := 8) (pc' := 12) rfl (hb hby at_8) (by decide) (by decide) ?_
      show Steps p.tables e below (s₁.setTop (mkF m 12 #[.val (.long id), .second, .val (.long start), .second, .val (.long dur), .second, .val (.long rat), .second, .val (.int refu), .val (.int fl), .unset, .unset, .unset, .unset, .unset, .unset, .unset, .unset, .unset, .unset, .unset, .unset, .unset] [(.int (1 : Int32))])) _
      have q2 : (own_b (¬ (fl &&& (1 : Int32)) = (0 : Int32))) = (1 : Int32) := by simp [own_b, hc4]
      rw [q2] at k
      exact k
  refine own_step (B := s₁.setTop (mkF m 14 #[.val (.long id), .second, .val (.long start), .second, .val (.long dur), .second, .val (.long rat), .second, .val (.int refu), .val (.int fl), .val (.int (own_b (¬ (fl &&& (1 : Int32)) = (0 : Int32)))), .unset, .unset, .unset, .unset, .unset, .unset, .unset, .unset, .unset, .unset, .unset, .unset] [])) (fun t k => ?_) ?_
  · show Steps p.tables e below (s₁.setTop (mkF m 12 #[.val (.long id), .second, .val (.long start), .second, .val (.long dur), .second, .val (.long rat), .second, .val (.int refu), .val (.int fl), .unset, .unset, .unset, .unset, .unset, .unset, .unset, .unset, .unset, .unset, .unset, .unset, .unset] [(.int (own_b (¬ (fl &&& (1 : Int32)) = (0 : Int32))))])) _
    refine XS.istore X0.here hx rfl (hb hby at_12) rfl (l' := #[.val (.long id), .second, .val (.long start), .second, .val (.long dur), .second, .val (.long rat), .second, .val (.int refu), .val (.int fl), .val (.int (own_b (¬ (fl &&& (1 : Int32)) = (0 : Int32)))), .unset, .unset, .unset, .unset, .unset, .unset, .unset, .unset, .unset, .unset, .unset, .unset]) rfl ?_
    exact k
  refine own_step (B := s₁.setTop (mkF m 26 #[.val (.long id), .second, .val (.long start), .second, .val (.long dur), .second, .val (.long rat), .second, .val (.int refu), .val (.int fl), .val (.int (own_b (¬ (fl &&& (1 : Int32)) = (0 : Int32)))), .unset, .unset, .unset, .unset, .unset, .unset, .unset, .unset, .unset, .unset, .unset, .unset] [(.int (own_b (¬ (fl &&& (2 : Int32)) = (0 : Int32))))])) (fun t k => ?_) ?_
  · show Steps p.tables e below (s₁.setTop (mkF m 14 #[.val (.long id), .second, .val (.long start), .second, .val (.long dur), .second, .val (.long rat), .second, .val (.int refu), .val (.int fl), .val (.int (own_b (¬ (fl &&& (1 : Int32)) = (0 : Int32)))), .unset, .unset, .unset, .unset, .unset, .unset, .unset, .unset, .unset, .unset, .unset, .unset] [])) _
    refine XS.iload X0.here hx rfl (hb hby at_14) rfl ?_
    show Steps p.tables e below (s₁.setTop (mkF m 16 #[.val (.long id), .second, .val (.long start), .second, .val (.long dur), .second, .val (.long rat), .second, .val (.int refu), .val (.int fl), .val (.int (own_b (¬ (fl &&& (1 : Int32)) = (0 : Int32)))), .unset, .unset, .unset, .unset, .unset, .unset, .unset, .unset, .unset, .unset, .unset, .unset] [(.int fl)])) _
    refine XS.iconst X0.here hx rfl (hb hby at_16) ?_
    show Steps p.tables e below (s₁.setTop (mkF m 17 #[.val (.long id), .second, .val (.long start), .second, .val (.long dur), .second, .val (.long rat), .second, .val (.int refu), .val (.int fl), .val (.int (own_b (¬ (fl &&& (1 : Int32)) = (0 : Int32)))), .unset, .unset, .unset, .unset, .unset, .unset, .unset, .unset, .unset, .unset, .unset, .unset] [(.int (2 : Int32)), (.int fl)])) _
    refine XS.iand X0.here hx rfl (hb hby at_17) rfl ?_
    by_cases hc18 : (fl &&& (2 : Int32)) = (0 : Int32)
    · show Steps p.tables e below (s₁.setTop (mkF m 18 #[.val (.long id), .second, .val (.long start), .second, .val (.long dur), .second, .val (.long rat), .second, .val (.int refu), .val (.int fl), .val (.int (own_b (¬ (fl &&& (1 : Int32)) = (0 : Int32)))), .unset, .unset, .unset, .unset, .unset, .unset, .unset, .unset, .unset, .unset, .unset, .unset] [(.int (fl &&& (2 : Int32)))])) _
      refine XS.ifYes X0.here hx rfl (pc0 := 18) (pc' := 25) rfl (hb hby at_18) rfl ((if0 _ _).trans (teq hc18).1) (by decide) (by decide) ?_
      show Steps p.tables e below (s₁.setTop (mkF m 25 #[.val (.long id), .second, .val (.long start), .second, .val (.long dur), .second, .val (.long rat), .second, .val (.int refu), .val (.int fl), .val (.int (own_b (¬ (fl &&& (1 : Int32)) = (0 : Int32)))), .unset, .unset, .unset, .unset, .unset, .unset, .unset, .unset, .unset, .unset, .unset, .unset] [])) _
      refine XS.iconst X0.here hx rfl (hb hby at_25) ?_
      show Steps p.tables e below (s₁.setTop (mkF m 26 #[.val (.long id), .second, .val (.long start), .second, .val (.long dur), .second, .val (.long rat), .second, .val (.int refu), .val (.int fl), .val (.int (own_b (¬ (fl &&& (1 : Int32)) = (0 : Int32)))), .unset, .unset, .unset, .unset, .unset, .unset, .unset, .unset, .unset, .unset, .unset, .unset] [(.int (0 : Int32))])) _
      have q3 : (own_b (¬ (fl &&& (2 : Int32)) = (0 : Int32))) = (0 : Int32) := by simp [own_b, hc18]
      rw [q3] at k
      exact k
    · show Steps p.tables e below (s₁.setTop (mkF m 18 #[.val (.long id), .second, .val (.long start), .second, .val (.long dur), .second, .val (.long rat), .second, .val (.int refu), .val (.int fl), .val (.int (own_b (¬ (fl &&& (1 : Int32)) = (0 : Int32)))), .unset, .unset, .unset, .unset, .unset, .unset, .unset, .unset, .unset, .unset, .unset, .unset] [(.int (fl &&& (2 : Int32)))])) _
      refine XS.ifNo X0.here hx rfl (hb hby at_18) rfl ((if0 _ _).trans (feq hc18).1) ?_
      show Steps p.tables e below (s₁.setTop (mkF m 21 #[.val (.long id), .second, .val (.long start), .second, .val (.long dur), .second, .val (.long rat), .second, .val (.int refu), .val (.int fl), .val (.int (own_b (¬ (fl &&& (1 : Int32)) = (0 : Int32)))), .unset, .unset, .unset, .unset, .unset, .unset, .unset, .unset, .unset, .unset, .unset, .unset] [])) _
      refine XS.iconst X0.here hx rfl (hb hby at_21) ?_
      show Steps p.tables e below (s₁.setTop (mkF m 22 #[.val (.long id), .second, .val (.long start), .second, .val (.long dur), .second, .val (.long rat), .second, .val (.int refu), .val (.int fl), .val (.int (own_b (¬ (fl &&& (1 : Int32)) = (0 : Int32)))), .unset, .unset, .unset, .unset, .unset, .unset, .unset, .unset, .unset, .unset, .unset, .unset] [(.int (1 : Int32))])) _
      refine XS.goto X0.here hx rfl (pc0 := 22) (pc' := 26) rfl (hb hby at_22) (by decide) (by decide) ?_
      show Steps p.tables e below (s₁.setTop (mkF m 26 #[.val (.long id), .second, .val (.long start), .second, .val (.long dur), .second, .val (.long rat), .second, .val (.int refu), .val (.int fl), .val (.int (own_b (¬ (fl &&& (1 : Int32)) = (0 : Int32)))), .unset, .unset, .unset, .unset, .unset, .unset, .unset, .unset, .unset, .unset, .unset, .unset] [(.int (1 : Int32))])) _
      have q4 : (own_b (¬ (fl &&& (2 : Int32)) = (0 : Int32))) = (1 : Int32) := by simp [own_b, hc18]
      rw [q4] at k
      exact k
  refine own_step (B := s₁.setTop (mkF m 28 #[.val (.long id), .second, .val (.long start), .second, .val (.long dur), .second, .val (.long rat), .second, .val (.int refu), .val (.int fl), .val (.int (own_b (¬ (fl &&& (1 : Int32)) = (0 : Int32)))), .val (.int (own_b (¬ (fl &&& (2 : Int32)) = (0 : Int32)))), .unset, .unset, .unset, .unset, .unset, .unset, .unset, .unset, .unset, .unset, .unset] [])) (fun t k => ?_) ?_
  · show Steps p.tables e below (s₁.setTop (mkF m 26 #[.val (.long id), .second, .val (.long start), .second, .val (.long dur), .second, .val (.long rat), .second, .val (.int refu), .val (.int fl), .val (.int (own_b (¬ (fl &&& (1 : Int32)) = (0 : Int32)))), .unset, .unset, .unset, .unset, .unset, .unset, .unset, .unset, .unset, .unset, .unset, .unset] [(.int (own_b (¬ (fl &&& (2 : Int32)) = (0 : Int32))))])) _
    refine XS.istore X0.here hx rfl (hb hby at_26) rfl (l' := #[.val (.long id), .second, .val (.long start), .second, .val (.long dur), .second, .val (.long rat), .second, .val (.int refu), .val (.int fl), .val (.int (own_b (¬ (fl &&& (1 : Int32)) = (0 : Int32)))), .val (.int (own_b (¬ (fl &&& (2 : Int32)) = (0 : Int32)))), .unset, .unset, .unset, .unset, .unset, .unset, .unset, .unset, .unset, .unset, .unset]) rfl ?_
    exact k
  obtain ⟨T5, h5, X5, e5, E5, A5, D5, -, st5⟩ := newO X0 hx hZ hown (hw _ (List.mem_of_getElem? (i := 0) rfl)) (hw _ (List.mem_of_getElem? (i := 1) rfl)) (hw _ (List.mem_of_getElem? (i := 2) rfl)) e0 (g := (mkF m 28 #[.val (.long id), .second, .val (.long start), .second, .val (.long dur), .second, .val (.long rat), .second, .val (.int refu), .val (.int fl), .val (.int (own_b (¬ (fl &&& (1 : Int32)) = (0 : Int32)))), .val (.int (own_b (¬ (fl &&& (2 : Int32)) = (0 : Int32)))), .unset, .unset, .unset, .unset, .unset, .unset, .unset, .unset, .unset, .unset, .unset] [])) rfl (hb hby at_28) (by decide) (by decide)
  obtain ⟨b5, g5⟩ : ∃ z, z = h0.size := ⟨_, rfl⟩
  rw [← g5] at A5 D5 st5
  have g_b5 : n0 ≤ b5 := Nat.le_trans Z0 (Nat.le_of_eq g5.symm)
  have ne_dv_b5 : dv ≠ b5 := Nat.ne_of_lt (Nat.lt_of_lt_of_le E_D.lt (Nat.le_of_eq g5.symm))
  have F_usageId_b5 : Fld Z h5 b5 "com/example/lichen/lichen/continuous/Span" "usageId" "J" (.long (0 : Int64)) := D5 (Or.inr (hw _ (List.mem_of_getElem? (i := 10) rfl))) (ty := .long) (by decide)
  have F_start_b5 : Fld Z h5 b5 "com/example/lichen/lichen/continuous/Span" "start" "J" (.long (0 : Int64)) := D5 (Or.inr (hw _ (List.mem_of_getElem? (i := 12) rfl))) (ty := .long) (by decide)
  have F_duration_b5 : Fld Z h5 b5 "com/example/lichen/lichen/continuous/Span" "duration" "J" (.long (0 : Int64)) := D5 (Or.inr (hw _ (List.mem_of_getElem? (i := 14) rfl))) (ty := .long) (by decide)
  have F_measures_b5 : Fld Z h5 b5 "com/example/lichen/lichen/continuous/Span" "measures" "I" (.int (0 : Int32)) := D5 (Or.inr (hw _ (List.mem_of_getElem? (i := 16) rfl))) (ty := .int) (by decide)
  have F_granularity_b5 : Fld Z h5 b5 "com/example/lichen/lichen/continuous/Span" "granularity" "Lcom/example/lichen/lichen/bucket/Granularity;" .null := D5 (Or.inr (hw _ (List.mem_of_getElem? (i := 18) rfl))) (ty := (.object "com/example/lichen/lichen/bucket/Granularity")) (by decide)
  have F_slices_b5 : Fld Z h5 b5 "com/example/lichen/lichen/continuous/Span" "slices" "Ljava/util/List;" .null := D5 (Or.inr (hw _ (List.mem_of_getElem? (i := 75) rfl))) (ty := (.object "java/util/List")) (by decide)
  refine own_step st5 ?_
  show own_Go p e below s _ _ _ (T5.setTop (mkF m 31 #[.val (.long id), .second, .val (.long start), .second, .val (.long dur), .second, .val (.long rat), .second, .val (.int refu), .val (.int fl), .val (.int (own_b (¬ (fl &&& (1 : Int32)) = (0 : Int32)))), .val (.int (own_b (¬ (fl &&& (2 : Int32)) = (0 : Int32)))), .unset, .unset, .unset, .unset, .unset, .unset, .unset, .unset, .unset, .unset, .unset] [(.ref b5)]))
  refine own_step (B := T5.setTop (mkF m 38 #[.val (.long id), .second, .val (.long start), .second, .val (.long dur), .second, .val (.long rat), .second, .val (.int refu), .val (.int fl), .val (.int (own_b (¬ (fl &&& (1 : Int32)) = (0 : Int32)))), .val (.int (own_b (¬ (fl &&& (2 : Int32)) = (0 : Int32)))), .unset, .unset, .unset, .unset, .unset, .unset, .unset, .unset, .unset, .unset, .unset] [.null, (.int (1 : Int32)), (.long dur), (.long start), (.long id), (.ref b5), (.ref b5)])) (fun t k => ?_) ?_
  · show Steps p.tables e below (T5.setTop (mkF m 31 #[.val (.long id), .second, .val (.long start), .second, .val (.long dur), .second, .val (.long rat), .second, .val (.int refu), .val (.int fl), .val (.int (own_b (¬ (fl &&& (1 : Int32)) = (0 : Int32)))), .val (.int (own_b (¬ (fl &&& (2 : Int32)) = (0 : Int32)))), .unset, .unset, .unset, .unset, .unset, .unset, .unset, .unset, .unset, .unset, .unset] [(.ref b5)])) _
    refine XS.dup X5.here hx rfl (hb hby at_31) rfl rfl ?_
    show Steps p.tables e below (T5.setTop (mkF m 32 #[.val (.long id), .second, .val (.long start), .second, .val (.long dur), .second, .val (.long rat), .second, .val (.int refu), .val (.int fl), .val (.int (own_b (¬ (fl &&& (1 : Int32)) = (0 : Int32)))), .val (.int (own_b (¬ (fl &&& (2 : Int32)) = (0 : Int32)))), .unset, .unset, .unset, .unset, .unset, .unset, .unset, .unset, .unset, .unset, .unset] [(.ref b5), (.ref b5)])) _
    refine XS.lloadN X5.here hx rfl (hb hby at_32) rfl ?_
    show Steps p.tables e below (T5.setTop (mkF m 33 #[.val (.long id), .second, .val (.long start), .second, .val (.long dur), .second, .val (.long rat), .second, .val (.int refu), .val (.int fl), .val (.int (own_b (¬ (fl &&& (1 : Int32)) = (0 : Int32)))), .val (.int (own_b (¬ (fl &&& (2 : Int32)) = (0 : Int32)))), .unset, .unset, .unset, .unset, .unset, .unset, .unset, .unset, .unset, .unset, .unset] [(.long id), (.ref b5), (.ref b5)])) _
    refine XS.lloadN X5.here hx rfl (hb hby at_33) rfl ?_
    show Steps p.tables e below (T5.setTop (mkF m 34 #[.val (.long id), .second, .val (.long start), .second, .val (.long dur), .second, .val (.long rat), .second, .val (.int refu), .val (.int fl), .val (.int (own_b (¬ (fl &&& (1 : Int32)) = (0 : Int32)))), .val (.int (own_b (¬ (fl &&& (2 : Int32)) = (0 : Int32)))), .unset, .unset, .unset, .unset, .unset, .unset, .unset, .unset, .unset, .unset, .unset] [(.long start), (.long id), (.ref b5), (.ref b5)])) _
    refine XS.lload X5.here hx rfl (hb hby at_34) rfl ?_
    show Steps p.tables e below (T5.setTop (mkF m 36 #[.val (.long id), .second, .val (.long start), .second, .val (.long dur), .second, .val (.long rat), .second, .val (.int refu), .val (.int fl), .val (.int (own_b (¬ (fl &&& (1 : Int32)) = (0 : Int32)))), .val (.int (own_b (¬ (fl &&& (2 : Int32)) = (0 : Int32)))), .unset, .unset, .unset, .unset, .unset, .unset, .unset, .unset, .unset, .unset, .unset] [(.long dur), (.long start), (.long id), (.ref b5), (.ref b5)])) _
    refine XS.iconst X5.here hx rfl (hb hby at_36) ?_
    show Steps p.tables e below (T5.setTop (mkF m 37 #[.val (.long id), .second, .val (.long start), .second, .val (.long dur), .second, .val (.long rat), .second, .val (.int refu), .val (.int fl), .val (.int (own_b (¬ (fl &&& (1 : Int32)) = (0 : Int32)))), .val (.int (own_b (¬ (fl &&& (2 : Int32)) = (0 : Int32)))), .unset, .unset, .unset, .unset, .unset, .unset, .unset, .unset, .unset, .unset, .unset] [(.int (1 : Int32)), (.long dur), (.long start), (.long id), (.ref b5), (.ref b5)])) _
    refine XS.aconstNull X5.here hx rfl (hb hby at_37) ?_
    exact k
  obtain ⟨_, _, ⟨T6, L6, k6, n6⟩, -, X6, ⟨Lc6, hQ6, l6, y6, z6⟩, st6⟩ := X5.specialBack hx (y := (⟨"com/example/lichen/lichen/continuous/Span", "<init>", "(JJJILcom/example/lichen/lichen/bucket/Granularity;)V"⟩ : MethodName)) rfl hown (mvT hZ (hw _ (List.mem_of_getElem? (i := 3) rfl))) (mvT hZ (hw _ (List.mem_of_getElem? (i := 4) rfl))) (mvT hZ (hw _ (List.mem_of_getElem? (i := 5) rfl))) (by decide) (backOf (W := 1) (rm1 l Z a0 hw [] b5 id start dur (1 : Int32) _ _ _ _ _ _ em h5 n0 (Nat.le_trans Z0 E5.1) A5 F_usageId_b5 F_start_b5 F_duration_b5 F_measures_b5 F_granularity_b5 F_slices_b5 g_b5 (S_E.ext E5)) hZ (hw _ (List.mem_of_getElem? (i := 5) rfl)) (hw _ (List.mem_of_getElem? (i := 2) rfl)) (by decide) (by decide)) (g := (mkF m 38 #[.val (.long id), .second, .val (.long start), .second, .val (.long dur), .second, .val (.long rat), .second, .val (.int refu), .val (.int fl), .val (.int (own_b (¬ (fl &&& (1 : Int32)) = (0 : Int32)))), .val (.int (own_b (¬ (fl &&& (2 : Int32)) = (0 : Int32)))), .unset, .unset, .unset, .unset, .unset, .unset, .unset, .unset, .unset, .unset, .unset] [.null, (.int (1 : Int32)), (.long dur), (.long start), (.long id), (.ref b5), (.ref b5)])) rfl (by rw [hml]; rfl) (Steps.refl _) (a := b5) (argsL := [(.long id), (.long start), (.long dur), (.int (1 : Int32)), .null]) (rest := [(.ref b5)]) (lenOf pd_17 rfl) rfl (by show 2 * 0 + _ ≤ _; exact Nat.le_of_eq rfl) (hb hby at_38) (fun _ _ => ⟨rfl, e5, (by decide : 1 + 2 ≤ _), (by decide : 6 + 4 ≤ _)⟩)
  dsimp only [Pt.U, Pt.locs, Pt.cells, Pt.slots] at X6 l6 y6 z6 st6 hQ6
  subst l6 y6 z6
  obtain ⟨rfl, N6q, K6, Ex6, r, Fsl6, Er6, Fr6⟩ := hQ6
  have N6 := Fr.app N0 N6q
  refine own_via st6 ?_
  show own_Go p e below s _ _ _ (T6.setTop (mkF m 41 #[.val (.long id), .second, .val (.long start), .second, .val (.long dur), .second, .val (.long rat), .second, .val (.int refu), .val (.int fl), .val (.int (own_b (¬ (fl &&& (1 : Int32)) = (0 : Int32)))), .val (.int (own_b (¬ (fl &&& (2 : Int32)) = (0 : Int32)))), .unset, .unset, .unset, .unset, .unset, .unset, .unset, .unset, .unset, .unset, .unset] [(.ref b5)]))
  refine own_step (B := T6.setTop (mkF m 43 #[.val (.long id), .second, .val (.long start), .second, .val (.long dur), .second, .val (.long rat), .second, .val (.int refu), .val (.int fl), .val (.int (own_b (¬ (fl &&& (1 : Int32)) = (0 : Int32)))), .val (.int (own_b (¬ (fl &&& (2 : Int32)) = (0 : Int32)))), .val (.ref b5), .unset, .unset, .unset, .unset, .unset, .unset, .unset, .unset, .unset, .unset] [])) (fun t k => ?_) ?_
  · show Steps p.tables e below (T6.setTop (mkF m 41 #[.val (.long id), .second, .val (.long start), .second, .val (.long dur), .second, .val (.long rat), .second, .val (.int refu), .val (.int fl), .val (.int (own_b (¬ (fl &&& (1 : Int32)) = (0 : Int32)))), .val (.int (own_b (¬ (fl &&& (2 : Int32)) = (0 : Int32)))), .unset, .unset, .unset, .unset, .unset, .unset, .unset, .unset, .unset, .unset, .unset] [(.ref b5)])) _
    refine XS.astore X6.here hx rfl (hb hby at_41) rfl rfl (l' := #[.val (.long id), .second, .val (.long start), .second, .val (.long dur), .second, .val (.long rat), .second, .val (.int refu), .val (.int fl), .val (.int (own_b (¬ (fl &&& (1 : Int32)) = (0 : Int32)))), .val (.int (own_b (¬ (fl &&& (2 : Int32)) = (0 : Int32)))), .val (.ref b5), .unset, .unset, .unset, .unset, .unset, .unset, .unset, .unset, .unset, .unset]) rfl ?_
    exact k
  obtain ⟨T7, h7, X7, e7, E7, A7, D7, -, st7⟩ := newO X6 hx hZ hown (hw _ (List.mem_of_getElem? (i := 76) rfl)) (hw _ (List.mem_of_getElem? (i := 77) rfl)) (hw _ (List.mem_of_getElem? (i := 78) rfl)) rfl (g := (mkF m 43 #[.val (.long id), .second, .val (.long start), .second, .val (.long dur), .second, .val (.long rat), .second, .val (.int refu), .val (.int fl), .val (.int (own_b (¬ (fl &&& (1 : Int32)) = (0 : Int32)))), .val (.int (own_b (¬ (fl &&& (2 : Int32)) = (0 : Int32)))), .val (.ref b5), .unset, .unset, .unset, .unset, .unset, .unset, .unset, .unset, .unset, .unset] [])) rfl (hb hby at_43) (by decide) (by decide)
  obtain ⟨b7, g7⟩ : ∃ z, z = T6.heap.size := ⟨_, rfl⟩
  rw [← g7] at A7 D7 st7
  have g_b7 : n0 ≤ b7 := Nat.le_trans (Nat.le_trans (Nat.le_trans Z0 E5.1) K6.1) (Nat.le_of_eq g7.symm)
  have ne_dv_b7 : dv ≠ b7 := Nat.ne_of_lt (Nat.lt_of_lt_of_le ((E_D.ext E5).keep K6).lt (Nat.le_of_eq g7.symm))
  have ne_b5_b7 : b5 ≠ b7 := Nat.ne_of_lt (Nat.lt_of_lt_of_le Ex6.lt (Nat.le_of_eq g7.symm))
  have ne_r_b7 : r ≠ b7 := Nat.ne_of_lt (Nat.lt_of_lt_of_le Er6.lt (Nat.le_of_eq g7.symm))
  have F_id_b7 : Fld Z h7 b7 "com/example/lichen/lichen/continuous/TakenSpan" "id" "J" (.long (0 : Int64)) := D7 (Or.inr (hw _ (List.mem_of_getElem? (i := 84) rfl))) (ty := .long) (by decide)
  have F_documentId_b7 : Fld Z h7 b7 "com/example/lichen/lichen/continuous/TakenSpan" "documentId" "Ljava/lang/String;" .null := D7 (Or.inr (hw _ (List.mem_of_getElem? (i := 86) rfl))) (ty := (.object "java/lang/String")) (by decide)
  have F_firstInterval_b7 : Fld Z h7 b7 "com/example/lichen/lichen/continuous/TakenSpan" "firstInterval" "I" (.int (0 : Int32)) := D7 (Or.inr (hw _ (List.mem_of_getElem? (i := 88) rfl))) (ty := .int) (by decide)
  have F_span_b7 : Fld Z h7 b7 "com/example/lichen/lichen/continuous/TakenSpan" "span" "Lcom/example/lichen/lichen/continuous/Span;" .null := D7 (Or.inr (hw _ (List.mem_of_getElem? (i := 90) rfl))) (ty := (.object "com/example/lichen/lichen/continuous/Span")) (by decide)
  have F_refusals_b7 : Fld Z h7 b7 "com/example/lichen/lichen/continuous/TakenSpan" "refusals" "I" (.int (0 : Int32)) := D7 (Or.inr (hw _ (List.mem_of_getElem? (i := 92) rfl))) (ty := .int) (by decide)
  have F_sent_b7 : Fld Z h7 b7 "com/example/lichen/lichen/continuous/TakenSpan" "sent" "Z" (.int (0 : Int32)) := D7 (Or.inr (hw _ (List.mem_of_getElem? (i := 94) rfl))) (ty := .boolean) (by decide)
  have F_target_b7 : Fld Z h7 b7 "com/example/lichen/lichen/continuous/TakenSpan" "target" "Lcom/example/lichen/lichen/usage/Target;" .null := D7 (Or.inr (hw _ (List.mem_of_getElem? (i := 96) rfl))) (ty := (.object "com/example/lichen/lichen/usage/Target")) (by decide)
  have F_startMeasurements_b7 : Fld Z h7 b7 "com/example/lichen/lichen/continuous/TakenSpan" "startMeasurements" "Ljava/util/List;" .null := D7 (Or.inr (hw _ (List.mem_of_getElem? (i := 98) rfl))) (ty := (.object "java/util/List")) (by decide)
  have F_outcomes_b7 : Fld Z h7 b7 "com/example/lichen/lichen/continuous/TakenSpan" "outcomes" "[Lcom/example/lichen/lichen/continuous/Settlement$Outcome;" .null := D7 (Or.inr (hw _ (List.mem_of_getElem? (i := 116) rfl))) (ty := (.array (.object "com/example/lichen/lichen/continuous/Settlement$Outcome"))) (by decide)
  have F_reached_b7 : Fld Z h7 b7 "com/example/lichen/lichen/continuous/TakenSpan" "reached" "[Z" .null := D7 (Or.inr (hw _ (List.mem_of_getElem? (i := 119) rfl))) (ty := (.array .boolean)) (by decide)
  have F_settled_b7 : Fld Z h7 b7 "com/example/lichen/lichen/continuous/TakenSpan" "settled" "Z" (.int (0 : Int32)) := D7 (Or.inl (hw _ (List.mem_of_getElem? (i := 146) rfl))) (ty := .boolean) (by decide)
  refine own_step st7 ?_
  show own_Go p e below s _ _ _ (T7.setTop (mkF m 46 #[.val (.long id), .second, .val (.long start), .second, .val (.long dur), .second, .val (.long rat), .second, .val (.int refu), .val (.int fl), .val (.int (own_b (¬ (fl &&& (1 : Int32)) = (0 : Int32)))), .val (.int (own_b (¬ (fl &&& (2 : Int32)) = (0 : Int32)))), .val (.ref b5), .unset, .unset, .unset, .unset, .unset, .unset, .unset, .unset, .unset, .unset] [(.ref b7)]))
  refine own_step (B := T7.setTop (mkF m 58 #[.val (.long id), .second, .val (.long start), .second, .val (.long dur), .second, .val (.long rat), .second, .val (.int refu), .val (.int fl), .val (.int (own_b (¬ (fl &&& (1 : Int32)) = (0 : Int32)))), .val (.int (own_b (¬ (fl &&& (2 : Int32)) = (0 : Int32)))), .val (.ref b5), .unset, .unset, .unset, .unset, .unset, .unset, .unset, .unset, .unset, .unset] [.null, .null, (.int (own_b (¬ (fl &&& (1 : Int32)) = (0 : Int32)))), (.int refu), (.ref b5), (.int (0 : Int32)), .null, (.long id), (.ref b7), (.ref b7)])) (fun t k => ?_) ?_
  · show Steps p.tables e below (T7.setTop (mkF m 46 #[.val (.long id), .second, .val (.long start), .second, .val (.long dur), .second, .val (.long rat), .second, .val (.int refu), .val (.int fl), .val (.int (own_b (¬ (fl &&& (1 : Int32)) = (0 : Int32)))), .val (.int (own_b (¬ (fl &&& (2 : Int32)) = (0 : Int32)))), .val (.ref b5), .unset, .unset, .unset, .unset, .unset, .unset, .unset, .unset, .unset, .unset] [(.ref b7)])) _
    refine XS.dup X7.here hx rfl (hb hby at_46) rfl rfl ?_
    show Steps p.tables e below (T7.setTop (mkF m 47 #[.val (.long id), .second, .val (.long start), .second, .val (.long dur), .second, .val (.long rat), .second, .val (.int refu), .val (.int fl), .val (.int (own_b (¬ (fl &&& (1 : Int32)) = (0 : Int32)))), .val (.int (own_b (¬ (fl &&& (2 : Int32)) = (0 : Int32)))), .val (.ref b5), .unset, .unset, .unset, .unset, .unset, .unset, .unset, .unset, .unset, .unset] [(.ref b7), (.ref b7)])) _
    refine XS.lloadN X7.here hx rfl (hb hby at_47) rfl ?_
    show Steps p.tables e below (T7.setTop (mkF m 48 #[.val (.long id), .second, .val (.long start), .second, .val (.long dur), .second, .val (.long rat), .second, .val (.int refu), .val (.int fl), .val (.int (own_b (¬ (fl &&& (1 : Int32)) = (0 : Int32)))), .val (.int (own_b (¬ (fl &&& (2 : Int32)) = (0 : Int32)))), .val (.ref b5), .unset, .unset, .unset, .unset, .unset, .unset, .unset, .unset, .unset, .unset] [(.long id), (.ref b7), (.ref b7)])) _
    refine XS.aconstNull X7.here hx rfl (hb hby at_48) ?_
    show Steps p.tables e below (T7.setTop (mkF m 49 #[.val (.long id), .second, .val (.long start), .second, .val (.long dur), .second, .val (.long rat), .second, .val (.int refu), .val (.int fl), .val (.int (own_b (¬ (fl &&& (1 : Int32)) = (0 : Int32)))), .val (.int (own_b (¬ (fl &&& (2 : Int32)) = (0 : Int32)))), .val (.ref b5), .unset, .unset, .unset, .unset, .unset, .unset, .unset, .unset, .unset, .unset] [.null, (.long id), (.ref b7), (.ref b7)])) _
    refine XS.iconst X7.here hx rfl (hb hby at_49) ?_
    show Steps p.tables e below (T7.setTop (mkF m 50 #[.val (.long id), .second, .val (.long start), .second, .val (.long dur), .second, .val (.long rat), .second, .val (.int refu), .val (.int fl), .val (.int (own_b (¬ (fl &&& (1 : Int32)) = (0 : Int32)))), .val (.int (own_b (¬ (fl &&& (2 : Int32)) = (0 : Int32)))), .val (.ref b5), .unset, .unset, .unset, .unset, .unset, .unset, .unset, .unset, .unset, .unset] [(.int (0 : Int32)), .null, (.long id), (.ref b7), (.ref b7)])) _
    refine XS.aload X7.here hx rfl (hb hby at_50) rfl rfl ?_
    show Steps p.tables e below (T7.setTop (mkF m 52 #[.val (.long id), .second, .val (.long start), .second, .val (.long dur), .second, .val (.long rat), .second, .val (.int refu), .val (.int fl), .val (.int (own_b (¬ (fl &&& (1 : Int32)) = (0 : Int32)))), .val (.int (own_b (¬ (fl &&& (2 : Int32)) = (0 : Int32)))), .val (.ref b5), .unset, .unset, .unset, .unset, .unset, .unset, .unset, .unset, .unset, .unset] [(.ref b5), (.int (0 : Int32)), .null, (.long id), (.ref b7), (.ref b7)])) _
    refine XS.iload X7.here hx rfl (hb hby at_52) rfl ?_
    show Steps p.tables e below (T7.setTop (mkF m 54 #[.val (.long id), .second, .val (.long start), .second, .val (.long dur), .second, .val (.long rat), .second, .val (.int refu), .val (.int fl), .val (.int (own_b (¬ (fl &&& (1 : Int32)) = (0 : Int32)))), .val (.int (own_b (¬ (fl &&& (2 : Int32)) = (0 : Int32)))), .val (.ref b5), .unset, .unset, .unset, .unset, .unset, .unset, .unset, .unset, .unset, .unset] [(.int refu), (.ref b5), (.int (0 : Int32)), .null, (.long id), (.ref b7), (.ref b7)])) _
    refine XS.iload X7.here hx rfl (hb hby at_54) rfl ?_
    show Steps p.tables e below (T7.setTop (mkF m 56 #[.val (.long id), .second, .val (.long start), .second, .val (.long dur), .second, .val (.long rat), .second, .val (.int refu), .val (.int fl), .val (.int (own_b (¬ (fl &&& (1 : Int32)) = (0 : Int32)))), .val (.int (own_b (¬ (fl &&& (2 : Int32)) = (0 : Int32)))), .val (.ref b5), .unset, .unset, .unset, .unset, .unset, .unset, .unset, .unset, .unset, .unset] [(.int (own_b (¬ (fl &&& (1 : Int32)) = (0 : Int32)))), (.int refu), (.ref b5), (.int (0 : Int32)), .null, (.long id), (.ref b7), (.ref b7)])) _
    refine XS.aconstNull X7.here hx rfl (hb hby at_56) ?_
    show Steps p.tables e below (T7.setTop (mkF m 57 #[.val (.long id), .second, .val (.long start), .second, .val (.long dur), .second, .val (.long rat), .second, .val (.int refu), .val (.int fl), .val (.int (own_b (¬ (fl &&& (1 : Int32)) = (0 : Int32)))), .val (.int (own_b (¬ (fl &&& (2 : Int32)) = (0 : Int32)))), .val (.ref b5), .unset, .unset, .unset, .unset, .unset, .unset, .unset, .unset, .unset, .unset] [.null, (.int (own_b (¬ (fl &&& (1 : Int32)) = (0 : Int32)))), (.int refu), (.ref b5), (.int (0 : Int32)), .null, (.long id), (.ref b7), (.ref b7)])) _
    refine XS.aconstNull X7.here hx rfl (hb hby at_57) ?_
    exact k
  obtain ⟨_, _, ⟨T8, L8, k8, n8⟩, -, X8, ⟨Lc8, hQ8, l8, y8, z8⟩, st8⟩ := X7.specialBack hx (y := (⟨"com/example/lichen/lichen/continuous/TakenSpan", "<init>", "(JLjava/lang/String;ILcom/example/lichen/lichen/continuous/Span;IZLcom/example/lichen/lichen/usage/Target;Ljava/util/List;)V"⟩ : MethodName)) rfl hown (mvT hZ (hw _ (List.mem_of_getElem? (i := 79) rfl))) (mvT hZ (hw _ (List.mem_of_getElem? (i := 80) rfl))) (mvT hZ (hw _ (List.mem_of_getElem? (i := 81) rfl))) (by decide) (backOf (W := 1) (rm11 l Z a0 hw [] b7 id (0 : Int32) b5 refu (own_b (¬ (fl &&& (1 : Int32)) = (0 : Int32))) _ _ _ _ _ _ _ _ _ _ r em h7 n0 (Nat.le_trans (Nat.le_trans (Nat.le_trans Z0 E5.1) K6.1) E7.1) A7 F_id_b7 F_documentId_b7 F_firstInterval_b7 F_span_b7 F_refusals_b7 F_sent_b7 F_target_b7 F_startMeasurements_b7 F_outcomes_b7 F_reached_b7 F_settled_b7 g_b7 (Ex6.ext E7) (Fsl6.ext E7) (Er6.ext E7) (Fr6.ext E7) ((own_staKeep (S_E.ext E5) K6 (nsS (Exa.nostat A5) ns0)).ext E7) (own_bn _) (own_bfit _)) hZ (hw _ (List.mem_of_getElem? (i := 81) rfl)) (hw _ (List.mem_of_getElem? (i := 78) rfl)) (by decide) (by decide)) (g := (mkF m 58 #[.val (.long id), .second, .val (.long start), .second, .val (.long dur), .second, .val (.long rat), .second, .val (.int refu), .val (.int fl), .val (.int (own_b (¬ (fl &&& (1 : Int32)) = (0 : Int32)))), .val (.int (own_b (¬ (fl &&& (2 : Int32)) = (0 : Int32)))), .val (.ref b5), .unset, .unset, .unset, .unset, .unset, .unset, .unset, .unset, .unset, .unset] [.null, .null, (.int (own_b (¬ (fl &&& (1 : Int32)) = (0 : Int32)))), (.int refu), (.ref b5), (.int (0 : Int32)), .null, (.long id), (.ref b7), (.ref b7)])) rfl (by rw [hml]; rfl) (Steps.refl _) (a := b7) (argsL := [(.long id), .null, (.int (0 : Int32)), (.ref b5), (.int refu), (.int (own_b (¬ (fl &&& (1 : Int32)) = (0 : Int32)))), .null, .null]) (rest := [(.ref b7)]) (lenOf pd_18 rfl) rfl (by show 2 * 0 + _ ≤ _; exact Nat.le_of_eq rfl) (hb hby at_58) (fun _ _ => ⟨rfl, e7, (by decide : 4 + 2 ≤ _), (by decide : 21 + 2 ≤ _)⟩)
  dsimp only [Pt.U, Pt.locs, Pt.cells, Pt.slots] at X8 l8 y8 z8 st8 hQ8
  subst l8 y8 z8
  obtain ⟨rfl, N8q, K8, Ex8, oa, k, Fo8, Vo8, Ok, szoa8, Fs8⟩ := hQ8
  have N8 := Fr.app N6 N8q
  refine own_via st8 ?_
  show own_Go p e below s _ _ _ (T8.setTop (mkF m 61 #[.val (.long id), .second, .val (.long start), .second, .val (.long dur), .second, .val (.long rat), .second, .val (.int refu), .val (.int fl), .val (.int (own_b (¬ (fl &&& (1 : Int32)) = (0 : Int32)))), .val (.int (own_b (¬ (fl &&& (2 : Int32)) = (0 : Int32)))), .val (.ref b5), .unset, .unset, .unset, .unset, .unset, .unset, .unset, .unset, .unset, .unset] [(.ref b7)]))
  have g_oa : n0 ≤ oa := Nat.le_trans (Nat.le_trans (Nat.le_trans (Nat.le_trans Z0 E5.1) K6.1) E7.1) szoa8
  have ne_dv_oa : dv ≠ oa := Nat.ne_of_lt (Nat.lt_of_lt_of_le (((E_D.ext E5).keep K6).ext E7).lt szoa8)
  have ne_b5_oa : b5 ≠ oa := Nat.ne_of_lt (Nat.lt_of_lt_of_le (Ex6.ext E7).lt szoa8)
  have ne_r_oa : r ≠ oa := Nat.ne_of_lt (Nat.lt_of_lt_of_le (Er6.ext E7).lt szoa8)
  have ne_b7_oa : b7 ≠ oa := Nat.ne_of_lt (Nat.lt_of_lt_of_le A7.lt szoa8)
  refine own_step (B := T8.setTop (mkF m 65 #[.val (.long id), .second, .val (.long start), .second, .val (.long dur), .second, .val (.long rat), .second, .val (.int refu), .val (.int fl), .val (.int (own_b (¬ (fl &&& (1 : Int32)) = (0 : Int32)))), .val (.int (own_b (¬ (fl &&& (2 : Int32)) = (0 : Int32)))), .val (.ref b5), .val (.ref b7), .unset, .unset, .unset, .unset, .unset, .unset, .unset, .unset, .unset] [(.int (own_b (¬ (fl &&& (2 : Int32)) = (0 : Int32))))])) (fun t k => ?_) ?_
  · show Steps p.tables e below (T8.setTop (mkF m 61 #[.val (.long id), .second, .val (.long start), .second, .val (.long dur), .second, .val (.long rat), .second, .val (.int refu), .val (.int fl), .val (.int (own_b (¬ (fl &&& (1 : Int32)) = (0 : Int32)))), .val (.int (own_b (¬ (fl &&& (2 : Int32)) = (0 : Int32)))), .val (.ref b5), .unset, .unset, .unset, .unset, .unset, .unset, .unset, .unset, .unset, .unset] [(.ref b7)])) _
    refine XS.astore X8.here hx rfl (hb hby at_61) rfl rfl (l' := #[.val (.long id), .second, .val (.long start), .second, .val (.long dur), .second, .val (.long rat), .second, .val (.int refu), .val (.int fl), .val (.int (own_b (¬ (fl &&& (1 : Int32)) = (0 : Int32)))), .val (.int (own_b (¬ (fl &&& (2 : Int32)) = (0 : Int32)))), .val (.ref b5), .val (.ref b7), .unset, .unset, .unset, .unset, .unset, .unset, .unset, .unset, .unset]) rfl ?_
    show Steps p.tables e below (T8.setTop (mkF m 63 #[.val (.long id), .second, .val (.long start), .second, .val (.long dur), .second, .val (.long rat), .second, .val (.int refu), .val (.int fl), .val (.int (own_b (¬ (fl &&& (1 : Int32)) = (0 : Int32)))), .val (.int (own_b (¬ (fl &&& (2 : Int32)) = (0 : Int32)))), .val (.ref b5), .val (.ref b7), .unset, .unset, .unset, .unset, .unset, .unset, .unset, .unset, .unset] [])) _
    refine XS.iload X8.here hx rfl (hb hby at_63) rfl ?_
    exact k
  by_cases hc65 : (fl &&& (2 : Int32)) = (0 : Int32)
  · refine own_step (B := T8.setTop (mkF m 74 #[.val (.long id), .second, .val (.long start), .second, .val (.long dur), .second, .val (.long rat), .second, .val (.int refu), .val (.int fl), .val (.int (own_b (¬ (fl &&& (1 : Int32)) = (0 : Int32)))), .val (.int (own_b (¬ (fl &&& (2 : Int32)) = (0 : Int32)))), .val (.ref b5), .val (.ref b7), .unset, .unset, .unset, .unset, .unset, .unset, .unset, .unset, .unset] [])) (fun t k => ?_) ?_
    · show Steps p.tables e below (T8.setTop (mkF m 65 #[.val (.long id), .second, .val (.long start), .second, .val (.long dur), .second, .val (.long rat), .second, .val (.int refu), .val (.int fl), .val (.int (own_b (¬ (fl &&& (1 : Int32)) = (0 : Int32)))), .val (.int (own_b (¬ (fl &&& (2 : Int32)) = (0 : Int32)))), .val (.ref b5), .val (.ref b7), .unset, .unset, .unset, .unset, .unset, .unset, .unset, .unset, .unset] [(.int (own_b (¬ (fl &&& (2 : Int32)) = (0 : Int32))))])) _
      refine XS.ifYes X8.here hx rfl (pc0 := 65) (pc' := 74) rfl (hb hby at_65) rfl ((if0 _ _).trans (teq (by rw [own_bf (fun q => q hc65)])).1) (by decide) (by decide) ?_
      exact k
    obtain ⟨T9, h9, X9, e9, E9, A9, D9, -, st9⟩ := newO X8 hx hZ hown (hw _ (List.mem_of_getElem? (i := 120) rfl)) (hw _ (List.mem_of_getElem? (i := 121) rfl)) (hw _ (List.mem_of_getElem? (i := 122) rfl)) rfl (g := (mkF m 74 #[.val (.long id), .second, .val (.long start), .second, .val (.long dur), .second, .val (.long rat), .second, .val (.int refu), .val (.int fl), .val (.int (own_b (¬ (fl &&& (1 : Int32)) = (0 : Int32)))), .val (.int (own_b (¬ (fl &&& (2 : Int32)) = (0 : Int32)))), .val (.ref b5), .val (.ref b7), .unset, .unset, .unset, .unset, .unset, .unset, .unset, .unset, .unset] [])) rfl (hb hby at_74) (by decide) (by decide)
    obtain ⟨b9, g9⟩ : ∃ z, z = T8.heap.size := ⟨_, rfl⟩
    rw [← g9] at A9 D9 st9
    have g_b9 : n0 ≤ b9 := Nat.le_trans (Nat.le_trans (Nat.le_trans (Nat.le_trans (Nat.le_trans Z0 E5.1) K6.1) E7.1) K8.1) (Nat.le_of_eq g9.symm)
    have ne_dv_b9 : dv ≠ b9 := Nat.ne_of_lt (Nat.lt_of_lt_of_le ((((E_D.ext E5).keep K6).ext E7).keep K8).lt (Nat.le_of_eq g9.symm))
    have ne_b5_b9 : b5 ≠ b9 := Nat.ne_of_lt (Nat.lt_of_lt_of_le ((Ex6.ext E7).keep K8).lt (Nat.le_of_eq g9.symm))
    have ne_r_b9 : r ≠ b9 := Nat.ne_of_lt (Nat.lt_of_lt_of_le ((Er6.ext E7).keep K8).lt (Nat.le_of_eq g9.symm))
    have ne_b7_b9 : b7 ≠ b9 := Nat.ne_of_lt (Nat.lt_of_lt_of_le Ex8.lt (Nat.le_of_eq g9.symm))
    have ne_oa_b9 : oa ≠ b9 := Nat.ne_of_lt (Nat.lt_of_lt_of_le Vo8.lt (Nat.le_of_eq g9.symm))
    have F_retryAt_b9 : Fld Z h9 b9 "com/example/lichen/lichen/continuous/Settlement$Outcome" "retryAt" "J" (.long (0 : Int64)) := D9 (Or.inr (hw _ (List.mem_of_getElem? (i := 128) rfl))) (ty := .long) (by decide)
    have F_refusals_b9 : Fld Z h9 b9 "com/example/lichen/lichen/continuous/Settlement$Outcome" "refusals" "I" (.int (0 : Int32)) := D9 (Or.inr (hw _ (List.mem_of_getElem? (i := 130) rfl))) (ty := .int) (by decide)
    have F_sent_b9 : Fld Z h9 b9 "com/example/lichen/lichen/continuous/Settlement$Outcome" "sent" "Z" (.int (0 : Int32)) := D9 (Or.inr (hw _ (List.mem_of_getElem? (i := 132) rfl))) (ty := .boolean) (by decide)
    refine own_step st9 ?_
    show own_Go p e below s _ _ _ (T9.setTop (mkF m 77 #[.val (.long id), .second, .val (.long start), .second, .val (.long dur), .second, .val (.long rat), .second, .val (.int refu), .val (.int fl), .val (.int (own_b (¬ (fl &&& (1 : Int32)) = (0 : Int32)))), .val (.int (own_b (¬ (fl &&& (2 : Int32)) = (0 : Int32)))), .val (.ref b5), .val (.ref b7), .unset, .unset, .unset, .unset, .unset, .unset, .unset, .unset, .unset] [(.ref b9)]))
    refine own_step (B := T9.setTop (mkF m 84 #[.val (.long id), .second, .val (.long start), .second, .val (.long dur), .second, .val (.long rat), .second, .val (.int refu), .val (.int fl), .val (.int (own_b (¬ (fl &&& (1 : Int32)) = (0 : Int32)))), .val (.int (own_b (¬ (fl &&& (2 : Int32)) = (0 : Int32)))), .val (.ref b5), .val (.ref b7), .unset, .unset, .unset, .unset, .unset, .unset, .unset, .unset, .unset] [(.int (own_b (¬ (fl &&& (1 : Int32)) = (0 : Int32)))), (.int refu), (.long rat), (.ref b9), (.ref b9)])) (fun t k => ?_) ?_
    · show Steps p.tables e below (T9.setTop (mkF m 77 #[.val (.long id), .second, .val (.long start), .second, .val (.long dur), .second, .val (.long rat), .second, .val (.int refu), .val (.int fl), .val (.int (own_b (¬ (fl &&& (1 : Int32)) = (0 : Int32)))), .val (.int (own_b (¬ (fl &&& (2 : Int32)) = (0 : Int32)))), .val (.ref b5), .val (.ref b7), .unset, .unset, .unset, .unset, .unset, .unset, .unset, .unset, .unset] [(.ref b9)])) _
      refine XS.dup X9.here hx rfl (hb hby at_77) rfl rfl ?_
      show Steps p.tables e below (T9.setTop (mkF m 78 #[.val (.long id), .second, .val (.long start), .second, .val (.long dur), .second, .val (.long rat), .second, .val (.int refu), .val (.int fl), .val (.int (own_b (¬ (fl &&& (1 : Int32)) = (0 : Int32)))), .val (.int (own_b (¬ (fl &&& (2 : Int32)) = (0 : Int32)))), .val (.ref b5), .val (.ref b7), .unset, .unset, .unset, .unset, .unset, .unset, .unset, .unset, .unset] [(.ref b9), (.ref b9)])) _
      refine XS.lload X9.here hx rfl (hb hby at_78) rfl ?_
      show Steps p.tables e below (T9.setTop (mkF m 80 #[.val (.long id), .second, .val (.long start), .second, .val (.long dur), .second, .val (.long rat), .second, .val (.int refu), .val (.int fl), .val (.int (own_b (¬ (fl &&& (1 : Int32)) = (0 : Int32)))), .val (.int (own_b (¬ (fl &&& (2 : Int32)) = (0 : Int32)))), .val (.ref b5), .val (.ref b7), .unset, .unset, .unset, .unset, .unset, .unset, .unset, .unset, .unset] [(.long rat), (.ref b9), (.ref b9)])) _
      refine XS.iload X9.here hx rfl (hb hby at_80) rfl ?_
      show Steps p.tables e below (T9.setTop (mkF m 82 #[.val (.long id), .second, .val (.long start), .second, .val (.long dur), .second, .val (.long rat), .second, .val (.int refu), .val (.int fl), .val (.int (own_b (¬ (fl &&& (1 : Int32)) = (0 : Int32)))), .val (.int (own_b (¬ (fl &&& (2 : Int32)) = (0 : Int32)))), .val (.ref b5), .val (.ref b7), .unset, .unset, .unset, .unset, .unset, .unset, .unset, .unset, .unset] [(.int refu), (.long rat), (.ref b9), (.ref b9)])) _
      refine XS.iload X9.here hx rfl (hb hby at_82) rfl ?_
      exact k
    obtain ⟨_, _, ⟨T10, L10, k10, n10⟩, -, X10, ⟨Lc10, hQ10, l10, y10, z10⟩, st10⟩ := X9.specialBack hx (y := (⟨"com/example/lichen/lichen/continuous/Settlement$Outcome", "<init>", "(JIZ)V"⟩ : MethodName)) rfl hown (mvT hZ (hw _ (List.mem_of_getElem? (i := 123) rfl))) (mvT hZ (hw _ (List.mem_of_getElem? (i := 124) rfl))) (mvT hZ (hw _ (List.mem_of_getElem? (i := 125) rfl))) (by decide) (backOf (W := 1) (rm14 l Z a0 hw [] b9 rat refu (own_b (¬ (fl &&& (1 : Int32)) = (0 : Int32))) _ _ _ h9 n0 (Nat.le_trans (Nat.le_trans (Nat.le_trans (Nat.le_trans (Nat.le_trans Z0 E5.1) K6.1) E7.1) K8.1) E9.1) A9 F_retryAt_b9 F_refusals_b9 F_sent_b9 g_b9 (own_bn (¬ (fl &&& (1 : Int32)) = (0 : Int32))) (own_bfit (¬ (fl &&& (1 : Int32)) = (0 : Int32)))) hZ (hw _ (List.mem_of_getElem? (i := 125) rfl)) (hw _ (List.mem_of_getElem? (i := 122) rfl)) (by decide) (by decide)) (g := (mkF m 84 #[.val (.long id), .second, .val (.long start), .second, .val (.long dur), .second, .val (.long rat), .second, .val (.int refu), .val (.int fl), .val (.int (own_b (¬ (fl &&& (1 : Int32)) = (0 : Int32)))), .val (.int (own_b (¬ (fl &&& (2 : Int32)) = (0 : Int32)))), .val (.ref b5), .val (.ref b7), .unset, .unset, .unset, .unset, .unset, .unset, .unset, .unset, .unset] [(.int (own_b (¬ (fl &&& (1 : Int32)) = (0 : Int32)))), (.int refu), (.long rat), (.ref b9), (.ref b9)])) rfl (by rw [hml]; rfl) (Steps.refl _) (a := b9) (argsL := [(.long rat), (.int refu), (.int (own_b (¬ (fl &&& (1 : Int32)) = (0 : Int32))))]) (rest := [(.ref b9)]) (lenOf pd_19 rfl) rfl (by show 2 * 0 + _ ≤ _; exact Nat.le_of_eq rfl) (hb hby at_84) (fun _ _ => ⟨rfl, e9, (by decide : 7 + 0 ≤ _), (by decide : 26 + 0 ≤ _)⟩)
    dsimp only [Pt.U, Pt.locs, Pt.cells, Pt.slots] at X10 l10 y10 z10 st10 hQ10
    subst l10 y10 z10
    obtain ⟨rfl, N10q, K10, Ex10, Fx10_0, Fx10_1, Fx10_2⟩ := hQ10
    have N10 := Fr.app N8 N10q
    refine own_via st10 ?_
    show own_Go p e below s _ _ _ (T10.setTop (mkF m 87 #[.val (.long id), .second, .val (.long start), .second, .val (.long dur), .second, .val (.long rat), .second, .val (.int refu), .val (.int fl), .val (.int (own_b (¬ (fl &&& (1 : Int32)) = (0 : Int32)))), .val (.int (own_b (¬ (fl &&& (2 : Int32)) = (0 : Int32)))), .val (.ref b5), .val (.ref b7), .unset, .unset, .unset, .unset, .unset, .unset, .unset, .unset, .unset] [(.ref b9)]))
    refine own_step (B := T10.setTop (mkF m 89 #[.val (.long id), .second, .val (.long start), .second, .val (.long dur), .second, .val (.long rat), .second, .val (.int refu), .val (.int fl), .val (.int (own_b (¬ (fl &&& (1 : Int32)) = (0 : Int32)))), .val (.int (own_b (¬ (fl &&& (2 : Int32)) = (0 : Int32)))), .val (.ref b5), .val (.ref b7), .val (.ref b9), .unset, .unset, .unset, .unset, .unset, .unset, .unset, .unset] [])) (fun t k => ?_) ?_
    · show Steps p.tables e below (T10.setTop (mkF m 87 #[.val (.long id), .second, .val (.long start), .second, .val (.long dur), .second, .val (.long rat), .second, .val (.int refu), .val (.int fl), .val (.int (own_b (¬ (fl &&& (1 : Int32)) = (0 : Int32)))), .val (.int (own_b (¬ (fl &&& (2 : Int32)) = (0 : Int32)))), .val (.ref b5), .val (.ref b7), .unset, .unset, .unset, .unset, .unset, .unset, .unset, .unset, .unset] [(.ref b9)])) _
      refine XS.astore X10.here hx rfl (hb hby at_87) rfl rfl (l' := #[.val (.long id), .second, .val (.long start), .second, .val (.long dur), .second, .val (.long rat), .second, .val (.int refu), .val (.int fl), .val (.int (own_b (¬ (fl &&& (1 : Int32)) = (0 : Int32)))), .val (.int (own_b (¬ (fl &&& (2 : Int32)) = (0 : Int32)))), .val (.ref b5), .val (.ref b7), .val (.ref b9), .unset, .unset, .unset, .unset, .unset, .unset, .unset, .unset]) rfl ?_
      exact k
    obtain ⟨T11, h11, X11, e11, E11, A11, D11, -, st11⟩ := newO X10 hx hZ hown (hw _ (List.mem_of_getElem? (i := 120) rfl)) (hw _ (List.mem_of_getElem? (i := 121) rfl)) (hw _ (List.mem_of_getElem? (i := 122) rfl)) rfl (g := (mkF m 89 #[.val (.long id), .second, .val (.long start), .second, .val (.long dur), .second, .val (.long rat), .second, .val (.int refu), .val (.int fl), .val (.int (own_b (¬ (fl &&& (1 : Int32)) = (0 : Int32)))), .val (.int (own_b (¬ (fl &&& (2 : Int32)) = (0 : Int32)))), .val (.ref b5), .val (.ref b7), .val (.ref b9), .unset, .unset, .unset, .unset, .unset, .unset, .unset, .unset] [])) rfl (hb hby at_89) (by decide) (by decide)
    obtain ⟨b11, g11⟩ : ∃ z, z = T10.heap.size := ⟨_, rfl⟩
    rw [← g11] at A11 D11 st11
    have g_b11 : n0 ≤ b11 := Nat.le_trans (Nat.le_trans (Nat.le_trans (Nat.le_trans (Nat.le_trans (Nat.le_trans (Nat.le_trans Z0 E5.1) K6.1) E7.1) K8.1) E9.1) K10.1) (Nat.le_of_eq g11.symm)
    have ne_dv_b11 : dv ≠ b11 := Nat.ne_of_lt (Nat.lt_of_lt_of_le ((((((E_D.ext E5).keep K6).ext E7).keep K8).ext E9).keep K10).lt (Nat.le_of_eq g11.symm))
    have ne_b5_b11 : b5 ≠ b11 := Nat.ne_of_lt (Nat.lt_of_lt_of_le ((((Ex6.ext E7).keep K8).ext E9).keep K10).lt (Nat.le_of_eq g11.symm))
    have ne_r_b11 : r ≠ b11 := Nat.ne_of_lt (Nat.lt_of_lt_of_le ((((Er6.ext E7).keep K8).ext E9).keep K10).lt (Nat.le_of_eq g11.symm))
    have ne_b7_b11 : b7 ≠ b11 := Nat.ne_of_lt (Nat.lt_of_lt_of_le ((Ex8.ext E9).keep K10).lt (Nat.le_of_eq g11.symm))
    have ne_oa_b11 : oa ≠ b11 := Nat.ne_of_lt (Nat.lt_of_lt_of_le ((Vo8.ext E9).keep K10 (ninS ne_oa_b9 nin0)).lt (Nat.le_of_eq g11.symm))
    have ne_b9_b11 : b9 ≠ b11 := Nat.ne_of_lt (Nat.lt_of_lt_of_le Ex10.lt (Nat.le_of_eq g11.symm))
    have F_retryAt_b11 : Fld Z h11 b11 "com/example/lichen/lichen/continuous/Settlement$Outcome" "retryAt" "J" (.long (0 : Int64)) := D11 (Or.inr (hw _ (List.mem_of_getElem? (i := 128) rfl))) (ty := .long) (by decide)
    have F_refusals_b11 : Fld Z h11 b11 "com/example/lichen/lichen/continuous/Settlement$Outcome" "refusals" "I" (.int (0 : Int32)) := D11 (Or.inr (hw _ (List.mem_of_getElem? (i := 130) rfl))) (ty := .int) (by decide)
    have F_sent_b11 : Fld Z h11 b11 "com/example/lichen/lichen/continuous/Settlement$Outcome" "sent" "Z" (.int (0 : Int32)) := D11 (Or.inr (hw _ (List.mem_of_getElem? (i := 132) rfl))) (ty := .boolean) (by decide)
    refine own_step st11 ?_
    show own_Go p e below s _ _ _ (T11.setTop (mkF m 92 #[.val (.long id), .second, .val (.long start), .second, .val (.long dur), .second, .val (.long rat), .second, .val (.int refu), .val (.int fl), .val (.int (own_b (¬ (fl &&& (1 : Int32)) = (0 : Int32)))), .val (.int (own_b (¬ (fl &&& (2 : Int32)) = (0 : Int32)))), .val (.ref b5), .val (.ref b7), .val (.ref b9), .unset, .unset, .unset, .unset, .unset, .unset, .unset, .unset] [(.ref b11)]))
    refine own_step (B := T11.setTop (mkF m 103 #[.val (.long id), .second, .val (.long start), .second, .val (.long dur), .second, .val (.long rat), .second, .val (.int refu), .val (.int fl), .val (.int (own_b (¬ (fl &&& (1 : Int32)) = (0 : Int32)))), .val (.int (own_b (¬ (fl &&& (2 : Int32)) = (0 : Int32)))), .val (.ref b5), .val (.ref b7), .val (.ref b9), .unset, .unset, .unset, .unset, .unset, .unset, .unset, .unset] [(.int (refu + (1 : Int32))), (.long (rat ^^^ (-1 : Int64))), (.ref b11), (.ref b11)])) (fun t k => ?_) ?_
    · show Steps p.tables e below (T11.setTop (mkF m 92 #[.val (.long id), .second, .val (.long start), .second, .val (.long dur), .second, .val (.long rat), .second, .val (.int refu), .val (.int fl), .val (.int (own_b (¬ (fl &&& (1 : Int32)) = (0 : Int32)))), .val (.int (own_b (¬ (fl &&& (2 : Int32)) = (0 : Int32)))), .val (.ref b5), .val (.ref b7), .val (.ref b9), .unset, .unset, .unset, .unset, .unset, .unset, .unset, .unset] [(.ref b11)])) _
      refine XS.dup X11.here hx rfl (hb hby at_92) rfl rfl ?_
      show Steps p.tables e below (T11.setTop (mkF m 93 #[.val (.long id), .second, .val (.long start), .second, .val (.long dur), .second, .val (.long rat), .second, .val (.int refu), .val (.int fl), .val (.int (own_b (¬ (fl &&& (1 : Int32)) = (0 : Int32)))), .val (.int (own_b (¬ (fl &&& (2 : Int32)) = (0 : Int32)))), .val (.ref b5), .val (.ref b7), .val (.ref b9), .unset, .unset, .unset, .unset, .unset, .unset, .unset, .unset] [(.ref b11), (.ref b11)])) _
      refine XS.lload X11.here hx rfl (hb hby at_93) rfl ?_
      show Steps p.tables e below (T11.setTop (mkF m 95 #[.val (.long id), .second, .val (.long start), .second, .val (.long dur), .second, .val (.long rat), .second, .val (.int refu), .val (.int fl), .val (.int (own_b (¬ (fl &&& (1 : Int32)) = (0 : Int32)))), .val (.int (own_b (¬ (fl &&& (2 : Int32)) = (0 : Int32)))), .val (.ref b5), .val (.ref b7), .val (.ref b9), .unset, .unset, .unset, .unset, .unset, .unset, .unset, .unset] [(.long rat), (.ref b11), (.ref b11)])) _
      refine X11.ldc2Long hx hown (mvT hZ (hw _ (List.mem_of_getElem? (i := 133) rfl))) (g := (mkF m 95 #[.val (.long id), .second, .val (.long start), .second, .val (.long dur), .second, .val (.long rat), .second, .val (.int refu), .val (.int fl), .val (.int (own_b (¬ (fl &&& (1 : Int32)) = (0 : Int32)))), .val (.int (own_b (¬ (fl &&& (2 : Int32)) = (0 : Int32)))), .val (.ref b5), .val (.ref b7), .val (.ref b9), .unset, .unset, .unset, .unset, .unset, .unset, .unset, .unset] [(.long rat), (.ref b11), (.ref b11)])) rfl (hb hby at_95) _ ?_
      show Steps p.tables e below (T11.setTop (mkF m 98 #[.val (.long id), .second, .val (.long start), .second, .val (.long dur), .second, .val (.long rat), .second, .val (.int refu), .val (.int fl), .val (.int (own_b (¬ (fl &&& (1 : Int32)) = (0 : Int32)))), .val (.int (own_b (¬ (fl &&& (2 : Int32)) = (0 : Int32)))), .val (.ref b5), .val (.ref b7), .val (.ref b9), .unset, .unset, .unset, .unset, .unset, .unset, .unset, .unset] [(.long (-1 : Int64)), (.long rat), (.ref b11), (.ref b11)])) _
      refine XS.lxor X11.here hx rfl (hb hby at_98) rfl ?_
      show Steps p.tables e below (T11.setTop (mkF m 99 #[.val (.long id), .second, .val (.long start), .second, .val (.long dur), .second, .val (.long rat), .second, .val (.int refu), .val (.int fl), .val (.int (own_b (¬ (fl &&& (1 : Int32)) = (0 : Int32)))), .val (.int (own_b (¬ (fl &&& (2 : Int32)) = (0 : Int32)))), .val (.ref b5), .val (.ref b7), .val (.ref b9), .unset, .unset, .unset, .unset, .unset, .unset, .unset, .unset] [(.long (rat ^^^ (-1 : Int64))), (.ref b11), (.ref b11)])) _
      refine XS.iload X11.here hx rfl (hb hby at_99) rfl ?_
      show Steps p.tables e below (T11.setTop (mkF m 101 #[.val (.long id), .second, .val (.long start), .second, .val (.long dur), .second, .val (.long rat), .second, .val (.int refu), .val (.int fl), .val (.int (own_b (¬ (fl &&& (1 : Int32)) = (0 : Int32)))), .val (.int (own_b (¬ (fl &&& (2 : Int32)) = (0 : Int32)))), .val (.ref b5), .val (.ref b7), .val (.ref b9), .unset, .unset, .unset, .unset, .unset, .unset, .unset, .unset] [(.int refu), (.long (rat ^^^ (-1 : Int64))), (.ref b11), (.ref b11)])) _
      refine XS.iconst X11.here hx rfl (hb hby at_101) ?_
      show Steps p.tables e below (T11.setTop (mkF m 102 #[.val (.long id), .second, .val (.long start), .second, .val (.long dur), .second, .val (.long rat), .second, .val (.int refu), .val (.int fl), .val (.int (own_b (¬ (fl &&& (1 : Int32)) = (0 : Int32)))), .val (.int (own_b (¬ (fl &&& (2 : Int32)) = (0 : Int32)))), .val (.ref b5), .val (.ref b7), .val (.ref b9), .unset, .unset, .unset, .unset, .unset, .unset, .unset, .unset] [(.int (1 : Int32)), (.int refu), (.long (rat ^^^ (-1 : Int64))), (.ref b11), (.ref b11)])) _
      refine XS.iadd X11.here hx rfl (hb hby at_102) rfl ?_
      exact k
    refine own_step (B := T11.setTop (mkF m 113 #[.val (.long id), .second, .val (.long start), .second, .val (.long dur), .second, .val (.long rat), .second, .val (.int refu), .val (.int fl), .val (.int (own_b (¬ (fl &&& (1 : Int32)) = (0 : Int32)))), .val (.int (own_b (¬ (fl &&& (2 : Int32)) = (0 : Int32)))), .val (.ref b5), .val (.ref b7), .val (.ref b9), .unset, .unset, .unset, .unset, .unset, .unset, .unset, .unset] [(.int (own_b ((own_b (¬ (fl &&& (1 : Int32)) = (0 : Int32))) = (0 : Int32)))), (.int (refu + (1 : Int32))), (.long (rat ^^^ (-1 : Int64))), (.ref b11), (.ref b11)])) (fun t k => ?_) ?_
    · show Steps p.tables e below (T11.setTop (mkF m 103 #[.val (.long id), .second, .val (.long start), .second, .val (.long dur), .second, .val (.long rat), .second, .val (.int refu), .val (.int fl), .val (.int (own_b (¬ (fl &&& (1 : Int32)) = (0 : Int32)))), .val (.int (own_b (¬ (fl &&& (2 : Int32)) = (0 : Int32)))), .val (.ref b5), .val (.ref b7), .val (.ref b9), .unset, .unset, .unset, .unset, .unset, .unset, .unset, .unset] [(.int (refu + (1 : Int32))), (.long (rat ^^^ (-1 : Int64))), (.ref b11), (.ref b11)])) _
      refine XS.iload X11.here hx rfl (hb hby at_103) rfl ?_
      by_cases hc105 : (own_b (¬ (fl &&& (1 : Int32)) = (0 : Int32))) = (0 : Int32)
      · show Steps p.tables e below (T11.setTop (mkF m 105 #[.val (.long id), .second, .val (.long start), .second, .val (.long dur), .second, .val (.long rat), .second, .val (.int refu), .val (.int fl), .val (.int (own_b (¬ (fl &&& (1 : Int32)) = (0 : Int32)))), .val (.int (own_b (¬ (fl &&& (2 : Int32)) = (0 : Int32)))), .val (.ref b5), .val (.ref b7), .val (.ref b9), .unset, .unset, .unset, .unset, .unset, .unset, .unset, .unset] [(.int (own_b (¬ (fl &&& (1 : Int32)) = (0 : Int32)))), (.int (refu + (1 : Int32))), (.long (rat ^^^ (-1 : Int64))), (.ref b11), (.ref b11)])) _
        refine XS.ifNo X11.here hx rfl (hb hby at_105) rfl ((if0 _ _).trans (teq hc105).2) ?_
        show Steps p.tables e below (T11.setTop (mkF m 108 #[.val (.long id), .second, .val (.long start), .second, .val (.long dur), .second, .val (.long rat), .second, .val (.int refu), .val (.int fl), .val (.int (own_b (¬ (fl &&& (1 : Int32)) = (0 : Int32)))), .val (.int (own_b (¬ (fl &&& (2 : Int32)) = (0 : Int32)))), .val (.ref b5), .val (.ref b7), .val (.ref b9), .unset, .unset, .unset, .unset, .unset, .unset, .unset, .unset] [(.int (refu + (1 : Int32))), (.long (rat ^^^ (-1 : Int64))), (.ref b11), (.ref b11)])) _
        refine XS.iconst X11.here hx rfl (hb hby at_108) ?_
        show Steps p.tables e below (T11.setTop (mkF m 109 #[.val (.long id), .second, .val (.long start), .second, .val (.long dur), .second, .val (.long rat), .second, .val (.int refu), .val (.int fl), .val (.int (own_b (¬ (fl &&& (1 : Int32)) = (0 : Int32)))), .val (.int (own_b (¬ (fl &&& (2 : Int32)) = (0 : Int32)))), .val (.ref b5), .val (.ref b7), .val (.ref b9), .unset, .unset, .unset, .unset, .unset, .unset, .unset, .unset] [(.int (1 : Int32)), (.int (refu + (1 : Int32))), (.long (rat ^^^ (-1 : Int64))), (.ref b11), (.ref b11)])) _
        refine XS.goto X11.here hx rfl (pc0 := 109) (pc' := 113) rfl (hb hby at_109) (by decide) (by decide) ?_
        show Steps p.tables e below (T11.setTop (mkF m 113 #[.val (.long id), .second, .val (.long start), .second, .val (.long dur), .second, .val (.long rat), .second, .val (.int refu), .val (.int fl), .val (.int (own_b (¬ (fl &&& (1 : Int32)) = (0 : Int32)))), .val (.int (own_b (¬ (fl &&& (2 : Int32)) = (0 : Int32)))), .val (.ref b5), .val (.ref b7), .val (.ref b9), .unset, .unset, .unset, .unset, .unset, .unset, .unset, .unset] [(.int (1 : Int32)), (.int (refu + (1 : Int32))), (.long (rat ^^^ (-1 : Int64))), (.ref b11), (.ref b11)])) _
        have q12 : (own_b ((own_b (¬ (fl &&& (1 : Int32)) = (0 : Int32))) = (0 : Int32))) = (1 : Int32) := by first | exact own_bt hc105 | exact own_bf hc105
        rw [q12] at k
        exact k
      · show Steps p.tables e below (T11.setTop (mkF m 105 #[.val (.long id), .second, .val (.long start), .second, .val (.long dur), .second, .val (.long rat), .second, .val (.int refu), .val (.int fl), .val (.int (own_b (¬ (fl &&& (1 : Int32)) = (0 : Int32)))), .val (.int (own_b (¬ (fl &&& (2 : Int32)) = (0 : Int32)))), .val (.ref b5), .val (.ref b7), .val (.ref b9), .unset, .unset, .unset, .unset, .unset, .unset, .unset, .unset] [(.int (own_b (¬ (fl &&& (1 : Int32)) = (0 : Int32)))), (.int (refu + (1 : Int32))), (.long (rat ^^^ (-1 : Int64))), (.ref b11), (.ref b11)])) _
        refine XS.ifYes X11.here hx rfl (pc0 := 105) (pc' := 112) rfl (hb hby at_105) rfl ((if0 _ _).trans (feq hc105).2) (by decide) (by decide) ?_
        show Steps p.tables e below (T11.setTop (mkF m 112 #[.val (.long id), .second, .val (.long start), .second, .val (.long dur), .second, .val (.long rat), .second, .val (.int refu), .val (.int fl), .val (.int (own_b (¬ (fl &&& (1 : Int32)) = (0 : Int32)))), .val (.int (own_b (¬ (fl &&& (2 : Int32)) = (0 : Int32)))), .val (.ref b5), .val (.ref b7), .val (.ref b9), .unset, .unset, .unset, .unset, .unset, .unset, .unset, .unset] [(.int (refu + (1 : Int32))), (.long (rat ^^^ (-1 : Int64))), (.ref b11), (.ref b11)])) _
        refine XS.iconst X11.here hx rfl (hb hby at_112) ?_
        show Steps p.tables e below (T11.setTop (mkF m 113 #[.val (.long id), .second, .val (.long start), .second, .val (.long dur), .second, .val (.long rat), .second, .val (.int refu), .val (.int fl), .val (.int (own_b (¬ (fl &&& (1 : Int32)) = (0 : Int32)))), .val (.int (own_b (¬ (fl &&& (2 : Int32)) = (0 : Int32)))), .val (.ref b5), .val (.ref b7), .val (.ref b9), .unset, .unset, .unset, .unset, .unset, .unset, .unset, .unset] [(.int (0 : Int32)), (.int (refu + (1 : Int32))), (.long (rat ^^^ (-1 : Int64))), (.ref b11), (.ref b11)])) _
        have q13 : (own_b ((own_b (¬ (fl &&& (1 : Int32)) = (0 : Int32))) = (0 : Int32))) = (0 : Int32) := by first | exact own_bt hc105 | exact own_bf hc105
        rw [q13] at k
        exact k
    obtain ⟨_, _, ⟨T14, L14, k14, n14⟩, -, X14, ⟨Lc14, hQ14, l14, y14, z14⟩, st14⟩ := X11.specialBack hx (y := (⟨"com/example/lichen/lichen/continuous/Settlement$Outcome", "<init>", "(JIZ)V"⟩ : MethodName)) rfl hown (mvT hZ (hw _ (List.mem_of_getElem? (i := 123) rfl))) (mvT hZ (hw _ (List.mem_of_getElem? (i := 124) rfl))) (mvT hZ (hw _ (List.mem_of_getElem? (i := 125) rfl))) (by decide) (backOf (W := 1) (rm14 l Z a0 hw [] b11 (rat ^^^ (-1 : Int64)) (refu + (1 : Int32)) (own_b ((own_b (¬ (fl &&& (1 : Int32)) = (0 : Int32))) = (0 : Int32))) _ _ _ h11 n0 (Nat.le_trans (Nat.le_trans (Nat.le_trans (Nat.le_trans (Nat.le_trans (Nat.le_trans (Nat.le_trans Z0 E5.1) K6.1) E7.1) K8.1) E9.1) K10.1) E11.1) A11 F_retryAt_b11 F_refusals_b11 F_sent_b11 g_b11 (own_bn ((own_b (¬ (fl &&& (1 : Int32)) = (0 : Int32))) = (0 : Int32))) (own_bfit ((own_b (¬ (fl &&& (1 : Int32)) = (0 : Int32))) = (0 : Int32)))) hZ (hw _ (List.mem_of_getElem? (i := 125) rfl)) (hw _ (List.mem_of_getElem? (i := 122) rfl)) (by decide) (by decide)) (g := (mkF m 113 #[.val (.long id), .second, .val (.long start), .second, .val (.long dur), .second, .val (.long rat), .second, .val (.int refu), .val (.int fl), .val (.int (own_b (¬ (fl &&& (1 : Int32)) = (0 : Int32)))), .val (.int (own_b (¬ (fl &&& (2 : Int32)) = (0 : Int32)))), .val (.ref b5), .val (.ref b7), .val (.ref b9), .unset, .unset, .unset, .unset, .unset, .unset, .unset, .unset] [(.int (own_b ((own_b (¬ (fl &&& (1 : Int32)) = (0 : Int32))) = (0 : Int32)))), (.int (refu + (1 : Int32))), (.long (rat ^^^ (-1 : Int64))), (.ref b11), (.ref b11)])) rfl (by rw [hml]; rfl) (Steps.refl _) (a := b11) (argsL := [(.long (rat ^^^ (-1 : Int64))), (.int (refu + (1 : Int32))), (.int (own_b ((own_b (¬ (fl &&& (1 : Int32)) = (0 : Int32))) = (0 : Int32))))]) (rest := [(.ref b11)]) (lenOf pd_19 rfl) rfl (by show 2 * 0 + _ ≤ _; exact Nat.le_of_eq rfl) (hb hby at_113) (fun _ _ => ⟨rfl, e11, (by decide : 8 + 0 ≤ _), (by decide : 29 + 0 ≤ _)⟩)
    dsimp only [Pt.U, Pt.locs, Pt.cells, Pt.slots] at X14 l14 y14 z14 st14 hQ14
    subst l14 y14 z14
    obtain ⟨rfl, N14q, K14, Ex14, Fx14_0, Fx14_1, Fx14_2⟩ := hQ14
    have N14 := Fr.app N10 N14q
    refine own_via st14 ?_
    show own_Go p e below s _ _ _ (T14.setTop (mkF m 116 #[.val (.long id), .second, .val (.long start), .second, .val (.long dur), .second, .val (.long rat), .second, .val (.int refu), .val (.int fl), .val (.int (own_b (¬ (fl &&& (1 : Int32)) = (0 : Int32)))), .val (.int (own_b (¬ (fl &&& (2 : Int32)) = (0 : Int32)))), .val (.ref b5), .val (.ref b7), .val (.ref b9), .unset, .unset, .unset, .unset, .unset, .unset, .unset, .unset] [(.ref b11)]))
    refine own_step (B := T14.setTop (mkF m 121 #[.val (.long id), .second, .val (.long start), .second, .val (.long dur), .second, .val (.long rat), .second, .val (.int refu), .val (.int fl), .val (.int (own_b (¬ (fl &&& (1 : Int32)) = (0 : Int32)))), .val (.int (own_b (¬ (fl &&& (2 : Int32)) = (0 : Int32)))), .val (.ref b5), .val (.ref b7), .val (.ref b9), .val (.ref b11), .unset, .unset, .unset, .unset, .unset, .unset, .unset] [(.int (0 : Int32)), (.ref b7)])) (fun t k => ?_) ?_
    · show Steps p.tables e below (T14.setTop (mkF m 116 #[.val (.long id), .second, .val (.long start), .second, .val (.long dur), .second, .val (.long rat), .second, .val (.int refu), .val (.int fl), .val (.int (own_b (¬ (fl &&& (1 : Int32)) = (0 : Int32)))), .val (.int (own_b (¬ (fl &&& (2 : Int32)) = (0 : Int32)))), .val (.ref b5), .val (.ref b7), .val (.ref b9), .unset, .unset, .unset, .unset, .unset, .unset, .unset, .unset] [(.ref b11)])) _
      refine XS.astore X14.here hx rfl (hb hby at_116) rfl rfl (l' := #[.val (.long id), .second, .val (.long start), .second, .val (.long dur), .second, .val (.long rat), .second, .val (.int refu), .val (.int fl), .val (.int (own_b (¬ (fl &&& (1 : Int32)) = (0 : Int32)))), .val (.int (own_b (¬ (fl &&& (2 : Int32)) = (0 : Int32)))), .val (.ref b5), .val (.ref b7), .val (.ref b9), .val (.ref b11), .unset, .unset, .unset, .unset, .unset, .unset, .unset]) rfl ?_
      show Steps p.tables e below (T14.setTop (mkF m 118 #[.val (.long id), .second, .val (.long start), .second, .val (.long dur), .second, .val (.long rat), .second, .val (.int refu), .val (.int fl), .val (.int (own_b (¬ (fl &&& (1 : Int32)) = (0 : Int32)))), .val (.int (own_b (¬ (fl &&& (2 : Int32)) = (0 : Int32)))), .val (.ref b5), .val (.ref b7), .val (.ref b9), .val (.ref b11), .unset, .unset, .unset, .unset, .unset, .unset, .unset] [])) _
      refine XS.aload X14.here hx rfl (hb hby at_118) rfl rfl ?_
      show Steps p.tables e below (T14.setTop (mkF m 120 #[.val (.long id), .second, .val (.long start), .second, .val (.long dur), .second, .val (.long rat), .second, .val (.int refu), .val (.int fl), .val (.int (own_b (¬ (fl &&& (1 : Int32)) = (0 : Int32)))), .val (.int (own_b (¬ (fl &&& (2 : Int32)) = (0 : Int32)))), .val (.ref b5), .val (.ref b7), .val (.ref b9), .val (.ref b11), .unset, .unset, .unset, .unset, .unset, .unset, .unset] [(.ref b7)])) _
      refine XS.iconst X14.here hx rfl (hb hby at_120) ?_
      exact k
    obtain ⟨cq15, kq15, q15a, q15b, q15c⟩ := isOf hZ rfl ((((Ex8.ext E9).keep K10).ext E11).keep K14)
    obtain ⟨_, _, ⟨T15, L15, k15, n15⟩, -, X15, ⟨Lc15, hQ15, l15, y15, z15⟩, st15⟩ := X14.virtualBack hx (y := (⟨"com/example/lichen/lichen/continuous/TakenSpan", "outcome", "(I)Lcom/example/lichen/lichen/continuous/Settlement$Outcome;"⟩ : MethodName)) (z := (⟨"com/example/lichen/lichen/continuous/TakenSpan", "outcome", "(I)Lcom/example/lichen/lichen/continuous/Settlement$Outcome;"⟩ : MethodName)) hown (mvT hZ (hw _ (List.mem_of_getElem? (i := 134) rfl))) (mvT hZ (hw _ (List.mem_of_getElem? (i := 135) rfl))) (notFace_of_selects (args := #[]) (mvT hZ (hw _ (List.mem_of_getElem? (i := 137) rfl)))) (mvT hZ (hw _ (List.mem_of_getElem? (i := 137) rfl))) (mvT hZ (hw _ (List.mem_of_getElem? (i := 136) rfl))) (by decide) (backOf (W := 0) (rm15 l Z a0 hw [] b7 (0 : Int32) oa k .null T14.heap n0 (Nat.le_trans (Nat.le_trans (Nat.le_trans (Nat.le_trans (Nat.le_trans (Nat.le_trans (Nat.le_trans (Nat.le_trans Z0 E5.1) K6.1) E7.1) K8.1) E9.1) K10.1) E11.1) K14.1) ((((Fo8.ext E9).keep K10 (ninS ne_b7_b9 nin0)).ext E11).keep K14 (ninS ne_b7_b11 nin0)) ((((Vo8.ext E9).keep K10 (ninS ne_oa_b9 nin0)).ext E11).keep K14 (ninS ne_oa_b11 nin0)) rfl rfl) hZ (hw _ (List.mem_of_getElem? (i := 138) rfl)) (hw _ (List.mem_of_getElem? (i := 78) rfl)) (by decide) (by decide)) q15a q15c (g := (mkF m 121 #[.val (.long id), .second, .val (.long start), .second, .val (.long dur), .second, .val (.long rat), .second, .val (.int refu), .val (.int fl), .val (.int (own_b (¬ (fl &&& (1 : Int32)) = (0 : Int32)))), .val (.int (own_b (¬ (fl &&& (2 : Int32)) = (0 : Int32)))), .val (.ref b5), .val (.ref b7), .val (.ref b9), .val (.ref b11), .unset, .unset, .unset, .unset, .unset, .unset, .unset] [(.int (0 : Int32)), (.ref b7)])) rfl (by rw [hml]; rfl) (Steps.refl _) (argsL := [(.int (0 : Int32))]) (rest := []) (lenOf pd_20 rfl) rfl (by show 2 * 0 + _ ≤ _; exact Nat.le_of_eq rfl) (hb hby at_121) (fun _ _ => ⟨rfl, rfl, (by decide : 8 + 0 ≤ _), (by decide : 29 + 0 ≤ _)⟩)
    dsimp only [Pt.U, Pt.locs, Pt.cells, Pt.slots] at X15 l15 y15 z15 st15 hQ15
    subst l15 y15 z15
    obtain ⟨rfl, N15q, e15⟩ := hQ15
    have N15 := Fr.app N14 N15q
    refine own_via st15 ?_
    show own_Go p e below s _ _ _ (T15.setTop (mkF m 124 #[.val (.long id), .second, .val (.long start), .second, .val (.long dur), .second, .val (.long rat), .second, .val (.int refu), .val (.int fl), .val (.int (own_b (¬ (fl &&& (1 : Int32)) = (0 : Int32)))), .val (.int (own_b (¬ (fl &&& (2 : Int32)) = (0 : Int32)))), .val (.ref b5), .val (.ref b7), .val (.ref b9), .val (.ref b11), .unset, .unset, .unset, .unset, .unset, .unset, .unset] [.null]))
    refine own_step (B := T15.setTop (mkF m 139 #[.val (.long id), .second, .val (.long start), .second, .val (.long dur), .second, .val (.long rat), .second, .val (.int refu), .val (.int fl), .val (.int (own_b (¬ (fl &&& (1 : Int32)) = (0 : Int32)))), .val (.int (own_b (¬ (fl &&& (2 : Int32)) = (0 : Int32)))), .val (.ref b5), .val (.ref b7), .val (.ref b9), .val (.ref b11), .val (.int (1 : Int32)), .unset, .unset, .unset, .unset, .unset, .unset] [(.ref b9), (.int (0 : Int32)), (.ref b7)])) (fun t k => ?_) ?_
    · show Steps p.tables e below (T15.setTop (mkF m 124 #[.val (.long id), .second, .val (.long start), .second, .val (.long dur), .second, .val (.long rat), .second, .val (.int refu), .val (.int fl), .val (.int (own_b (¬ (fl &&& (1 : Int32)) = (0 : Int32)))), .val (.int (own_b (¬ (fl &&& (2 : Int32)) = (0 : Int32)))), .val (.ref b5), .val (.ref b7), .val (.ref b9), .val (.ref b11), .unset, .unset, .unset, .unset, .unset, .unset, .unset] [.null])) _
      refine XS.ifnonnullNo X15.here hx rfl (hb hby at_124) rfl ?_
      show Steps p.tables e below (T15.setTop (mkF m 127 #[.val (.long id), .second, .val (.long start), .second, .val (.long dur), .second, .val (.long rat), .second, .val (.int refu), .val (.int fl), .val (.int (own_b (¬ (fl &&& (1 : Int32)) = (0 : Int32)))), .val (.int (own_b (¬ (fl &&& (2 : Int32)) = (0 : Int32)))), .val (.ref b5), .val (.ref b7), .val (.ref b9), .val (.ref b11), .unset, .unset, .unset, .unset, .unset, .unset, .unset] [])) _
      refine XS.iconst X15.here hx rfl (hb hby at_127) ?_
      show Steps p.tables e below (T15.setTop (mkF m 128 #[.val (.long id), .second, .val (.long start), .second, .val (.long dur), .second, .val (.long rat), .second, .val (.int refu), .val (.int fl), .val (.int (own_b (¬ (fl &&& (1 : Int32)) = (0 : Int32)))), .val (.int (own_b (¬ (fl &&& (2 : Int32)) = (0 : Int32)))), .val (.ref b5), .val (.ref b7), .val (.ref b9), .val (.ref b11), .unset, .unset, .unset, .unset, .unset, .unset, .unset] [(.int (1 : Int32))])) _
      refine XS.goto X15.here hx rfl (pc0 := 128) (pc' := 132) rfl (hb hby at_128) (by decide) (by decide) ?_
      show Steps p.tables e below (T15.setTop (mkF m 132 #[.val (.long id), .second, .val (.long start), .second, .val (.long dur), .second, .val (.long rat), .second, .val (.int refu), .val (.int fl), .val (.int (own_b (¬ (fl &&& (1 : Int32)) = (0 : Int32)))), .val (.int (own_b (¬ (fl &&& (2 : Int32)) = (0 : Int32)))), .val (.ref b5), .val (.ref b7), .val (.ref b9), .val (.ref b11), .unset, .unset, .unset, .unset, .unset, .unset, .unset] [(.int (1 : Int32))])) _
      refine XS.istore X15.here hx rfl (hb hby at_132) rfl (l' := #[.val (.long id), .second, .val (.long start), .second, .val (.long dur), .second, .val (.long rat), .second, .val (.int refu), .val (.int fl), .val (.int (own_b (¬ (fl &&& (1 : Int32)) = (0 : Int32)))), .val (.int (own_b (¬ (fl &&& (2 : Int32)) = (0 : Int32)))), .val (.ref b5), .val (.ref b7), .val (.ref b9), .val (.ref b11), .val (.int (1 : Int32)), .unset, .unset, .unset, .unset, .unset, .unset]) rfl ?_
      show Steps p.tables e below (T15.setTop (mkF m 134 #[.val (.long id), .second, .val (.long start), .second, .val (.long dur), .second, .val (.long rat), .second, .val (.int refu), .val (.int fl), .val (.int (own_b (¬ (fl &&& (1 : Int32)) = (0 : Int32)))), .val (.int (own_b (¬ (fl &&& (2 : Int32)) = (0 : Int32)))), .val (.ref b5), .val (.ref b7), .val (.ref b9), .val (.ref b11), .val (.int (1 : Int32)), .unset, .unset, .unset, .unset, .unset, .unset] [])) _
      refine XS.aload X15.here hx rfl (hb hby at_134) rfl rfl ?_
      show Steps p.tables e below (T15.setTop (mkF m 136 #[.val (.long id), .second, .val (.long start), .second, .val (.long dur), .second, .val (.long rat), .second, .val (.int refu), .val (.int fl), .val (.int (own_b (¬ (fl &&& (1 : Int32)) = (0 : Int32)))), .val (.int (own_b (¬ (fl &&& (2 : Int32)) = (0 : Int32)))), .val (.ref b5), .val (.ref b7), .val (.ref b9), .val (.ref b11), .val (.int (1 : Int32)), .unset, .unset, .unset, .unset, .unset, .unset] [(.ref b7)])) _
      refine XS.iconst X15.here hx rfl (hb hby at_136) ?_
      show Steps p.tables e below (T15.setTop (mkF m 137 #[.val (.long id), .second, .val (.long start), .second, .val (.long dur), .second, .val (.long rat), .second, .val (.int refu), .val (.int fl), .val (.int (own_b (¬ (fl &&& (1 : Int32)) = (0 : Int32)))), .val (.int (own_b (¬ (fl &&& (2 : Int32)) = (0 : Int32)))), .val (.ref b5), .val (.ref b7), .val (.ref b9), .val (.ref b11), .val (.int (1 : Int32)), .unset, .unset, .unset, .unset, .unset, .unset] [(.int (0 : Int32)), (.ref b7)])) _
      refine XS.aload X15.here hx rfl (hb hby at_137) rfl rfl ?_
      exact k
    obtain ⟨cq16, kq16, q16a, q16b, q16c⟩ := isOf hZ e15 ((((Ex8.ext E9).keep K10).ext E11).keep K14)
    obtain ⟨_, _, ⟨T16, L16, k16, n16⟩, -, X16, ⟨Lc16, hQ16, l16, y16, z16⟩, st16⟩ := X15.virtualBack hx (y := (⟨"com/example/lichen/lichen/continuous/TakenSpan", "settle", "(ILcom/example/lichen/lichen/continuous/Settlement$Outcome;)Z"⟩ : MethodName)) (z := (⟨"com/example/lichen/lichen/continuous/TakenSpan", "settle", "(ILcom/example/lichen/lichen/continuous/Settlement$Outcome;)Z"⟩ : MethodName)) hown (mvT hZ (hw _ (List.mem_of_getElem? (i := 139) rfl))) (mvT hZ (hw _ (List.mem_of_getElem? (i := 140) rfl))) (notFace_of_selects (args := #[]) (mvT hZ (hw _ (List.mem_of_getElem? (i := 142) rfl)))) (mvT hZ (hw _ (List.mem_of_getElem? (i := 142) rfl))) (mvT hZ (hw _ (List.mem_of_getElem? (i := 141) rfl))) (by decide) (backOf (W := 0) (rm16 l Z a0 hw [] b7 (0 : Int32) b9 oa k .null (0 : Int32) T14.heap n0 (Nat.le_trans (Nat.le_trans (Nat.le_trans (Nat.le_trans (Nat.le_trans (Nat.le_trans (Nat.le_trans (Nat.le_trans Z0 E5.1) K6.1) E7.1) K8.1) E9.1) K10.1) E11.1) K14.1) ((((Ex8.ext E9).keep K10).ext E11).keep K14) ((((Fo8.ext E9).keep K10 (ninS ne_b7_b9 nin0)).ext E11).keep K14 (ninS ne_b7_b11 nin0)) ((((Vo8.ext E9).keep K10 (ninS ne_oa_b9 nin0)).ext E11).keep K14 (ninS ne_oa_b11 nin0)) Ok ((Ex10.ext E11).keep K14) ((((Fs8.ext E9).keep K10 (ninS ne_b7_b9 nin0)).ext E11).keep K14 (ninS ne_b7_b11 nin0)) g_b7 g_oa ne_b7_oa rfl) hZ (hw _ (List.mem_of_getElem? (i := 143) rfl)) (hw _ (List.mem_of_getElem? (i := 78) rfl)) (by decide) (by decide)) q16a q16c (g := (mkF m 139 #[.val (.long id), .second, .val (.long start), .second, .val (.long dur), .second, .val (.long rat), .second, .val (.int refu), .val (.int fl), .val (.int (own_b (¬ (fl &&& (1 : Int32)) = (0 : Int32)))), .val (.int (own_b (¬ (fl &&& (2 : Int32)) = (0 : Int32)))), .val (.ref b5), .val (.ref b7), .val (.ref b9), .val (.ref b11), .val (.int (1 : Int32)), .unset, .unset, .unset, .unset, .unset, .unset] [(.ref b9), (.int (0 : Int32)), (.ref b7)])) rfl (by rw [hml]; rfl) (Steps.refl _) (argsL := [(.int (0 : Int32)), (.ref b9)]) (rest := []) (lenOf pd_21 rfl) rfl (by show 2 * 0 + _ ≤ _; exact Nat.le_of_eq rfl) (hb hby at_139) (fun _ _ => ⟨rfl, e15, (by decide : 8 + 0 ≤ _), (by decide : 29 + 0 ≤ _)⟩)
    dsimp only [Pt.U, Pt.locs, Pt.cells, Pt.slots] at X16 l16 y16 z16 st16 hQ16
    subst l16 y16 z16
    obtain ⟨rfl, N16q, K16, Ex16, Fo16, Vo16, Fs16⟩ := hQ16
    have N16 := Fr.app N15 N16q
    refine own_via st16 ?_
    show own_Go p e below s _ _ _ (T16.setTop (mkF m 142 #[.val (.long id), .second, .val (.long start), .second, .val (.long dur), .second, .val (.long rat), .second, .val (.int refu), .val (.int fl), .val (.int (own_b (¬ (fl &&& (1 : Int32)) = (0 : Int32)))), .val (.int (own_b (¬ (fl &&& (2 : Int32)) = (0 : Int32)))), .val (.ref b5), .val (.ref b7), .val (.ref b9), .val (.ref b11), .val (.int (1 : Int32)), .unset, .unset, .unset, .unset, .unset, .unset] [(.int (own_b ((0 : Int32) = (0 : Int32))))]))
    refine own_step (B := T16.setTop (mkF m 147 #[.val (.long id), .second, .val (.long start), .second, .val (.long dur), .second, .val (.long rat), .second, .val (.int refu), .val (.int fl), .val (.int (own_b (¬ (fl &&& (1 : Int32)) = (0 : Int32)))), .val (.int (own_b (¬ (fl &&& (2 : Int32)) = (0 : Int32)))), .val (.ref b5), .val (.ref b7), .val (.ref b9), .val (.ref b11), .val (.int (1 : Int32)), .val (.int (own_b ((0 : Int32) = (0 : Int32)))), .unset, .unset, .unset, .unset, .unset] [(.int (0 : Int32)), (.ref b7)])) (fun t k => ?_) ?_
    · show Steps p.tables e below (T16.setTop (mkF m 142 #[.val (.long id), .second, .val (.long start), .second, .val (.long dur), .second, .val (.long rat), .second, .val (.int refu), .val (.int fl), .val (.int (own_b (¬ (fl &&& (1 : Int32)) = (0 : Int32)))), .val (.int (own_b (¬ (fl &&& (2 : Int32)) = (0 : Int32)))), .val (.ref b5), .val (.ref b7), .val (.ref b9), .val (.ref b11), .val (.int (1 : Int32)), .unset, .unset, .unset, .unset, .unset, .unset] [(.int (own_b ((0 : Int32) = (0 : Int32))))])) _
      refine XS.istore X16.here hx rfl (hb hby at_142) rfl (l' := #[.val (.long id), .second, .val (.long start), .second, .val (.long dur), .second, .val (.long rat), .second, .val (.int refu), .val (.int fl), .val (.int (own_b (¬ (fl &&& (1 : Int32)) = (0 : Int32)))), .val (.int (own_b (¬ (fl &&& (2 : Int32)) = (0 : Int32)))), .val (.ref b5), .val (.ref b7), .val (.ref b9), .val (.ref b11), .val (.int (1 : Int32)), .val (.int (own_b ((0 : Int32) = (0 : Int32)))), .unset, .unset, .unset, .unset, .unset]) rfl ?_
      show Steps p.tables e below (T16.setTop (mkF m 144 #[.val (.long id), .second, .val (.long start), .second, .val (.long dur), .second, .val (.long rat), .second, .val (.int refu), .val (.int fl), .val (.int (own_b (¬ (fl &&& (1 : Int32)) = (0 : Int32)))), .val (.int (own_b (¬ (fl &&& (2 : Int32)) = (0 : Int32)))), .val (.ref b5), .val (.ref b7), .val (.ref b9), .val (.ref b11), .val (.int (1 : Int32)), .val (.int (own_b ((0 : Int32) = (0 : Int32)))), .unset, .unset, .unset, .unset, .unset] [])) _
      refine XS.aload X16.here hx rfl (hb hby at_144) rfl rfl ?_
      show Steps p.tables e below (T16.setTop (mkF m 146 #[.val (.long id), .second, .val (.long start), .second, .val (.long dur), .second, .val (.long rat), .second, .val (.int refu), .val (.int fl), .val (.int (own_b (¬ (fl &&& (1 : Int32)) = (0 : Int32)))), .val (.int (own_b (¬ (fl &&& (2 : Int32)) = (0 : Int32)))), .val (.ref b5), .val (.ref b7), .val (.ref b9), .val (.ref b11), .val (.int (1 : Int32)), .val (.int (own_b ((0 : Int32) = (0 : Int32)))), .unset, .unset, .unset, .unset, .unset] [(.ref b7)])) _
      refine XS.iconst X16.here hx rfl (hb hby at_146) ?_
      exact k
    obtain ⟨cq17, kq17, q17a, q17b, q17c⟩ := isOf hZ rfl Ex16
    obtain ⟨_, _, ⟨T17, L17, k17, n17⟩, -, X17, ⟨Lc17, hQ17, l17, y17, z17⟩, st17⟩ := X16.virtualBack hx (y := (⟨"com/example/lichen/lichen/continuous/TakenSpan", "outcome", "(I)Lcom/example/lichen/lichen/continuous/Settlement$Outcome;"⟩ : MethodName)) (z := (⟨"com/example/lichen/lichen/continuous/TakenSpan", "outcome", "(I)Lcom/example/lichen/lichen/continuous/Settlement$Outcome;"⟩ : MethodName)) hown (mvT hZ (hw _ (List.mem_of_getElem? (i := 134) rfl))) (mvT hZ (hw _ (List.mem_of_getElem? (i := 135) rfl))) (notFace_of_selects (args := #[]) (mvT hZ (hw _ (List.mem_of_getElem? (i := 137) rfl)))) (mvT hZ (hw _ (List.mem_of_getElem? (i := 137) rfl))) (mvT hZ (hw _ (List.mem_of_getElem? (i := 136) rfl))) (by decide) (backOf (W := 0) (rm15 l Z a0 hw [] b7 (0 : Int32) oa k (.ref b9) T16.heap n0 (Nat.le_trans (Nat.le_trans (Nat.le_trans (Nat.le_trans (Nat.le_trans (Nat.le_trans (Nat.le_trans (Nat.le_trans (Nat.le_trans Z0 E5.1) K6.1) E7.1) K8.1) E9.1) K10.1) E11.1) K14.1) K16.1) Fo16 Vo16 rfl rfl) hZ (hw _ (List.mem_of_getElem? (i := 138) rfl)) (hw _ (List.mem_of_getElem? (i := 78) rfl)) (by decide) (by decide)) q17a q17c (g := (mkF m 147 #[.val (.long id), .second, .val (.long start), .second, .val (.long dur), .second, .val (.long rat), .second, .val (.int refu), .val (.int fl), .val (.int (own_b (¬ (fl &&& (1 : Int32)) = (0 : Int32)))), .val (.int (own_b (¬ (fl &&& (2 : Int32)) = (0 : Int32)))), .val (.ref b5), .val (.ref b7), .val (.ref b9), .val (.ref b11), .val (.int (1 : Int32)), .val (.int (own_b ((0 : Int32) = (0 : Int32)))), .unset, .unset, .unset, .unset, .unset] [(.int (0 : Int32)), (.ref b7)])) rfl (by rw [hml]; rfl) (Steps.refl _) (argsL := [(.int (0 : Int32))]) (rest := []) (lenOf pd_20 rfl) rfl (by show 2 * 0 + _ ≤ _; exact Nat.le_of_eq rfl) (hb hby at_147) (fun _ _ => ⟨rfl, rfl, (by decide : 8 + 0 ≤ _), (by decide : 29 + 0 ≤ _)⟩)
    dsimp only [Pt.U, Pt.locs, Pt.cells, Pt.slots] at X17 l17 y17 z17 st17 hQ17
    subst l17 y17 z17
    obtain ⟨rfl, N17q, e17⟩ := hQ17
    have N17 := Fr.app N16 N17q
    refine own_via st17 ?_
    show own_Go p e below s _ _ _ (T17.setTop (mkF m 150 #[.val (.long id), .second, .val (.long start), .second, .val (.long dur), .second, .val (.long rat), .second, .val (.int refu), .val (.int fl), .val (.int (own_b (¬ (fl &&& (1 : Int32)) = (0 : Int32)))), .val (.int (own_b (¬ (fl &&& (2 : Int32)) = (0 : Int32)))), .val (.ref b5), .val (.ref b7), .val (.ref b9), .val (.ref b11), .val (.int (1 : Int32)), .val (.int (own_b ((0 : Int32) = (0 : Int32)))), .unset, .unset, .unset, .unset, .unset] [(.ref b9)]))
    refine own_step (B := T17.setTop (mkF m 167 #[.val (.long id), .second, .val (.long start), .second, .val (.long dur), .second, .val (.long rat), .second, .val (.int refu), .val (.int fl), .val (.int (own_b (¬ (fl &&& (1 : Int32)) = (0 : Int32)))), .val (.int (own_b (¬ (fl &&& (2 : Int32)) = (0 : Int32)))), .val (.ref b5), .val (.ref b7), .val (.ref b9), .val (.ref b11), .val (.int (1 : Int32)), .val (.int (own_b ((0 : Int32) = (0 : Int32)))), .val (.int (1 : Int32)), .unset, .unset, .unset, .unset] [(.ref b11), (.int (0 : Int32)), (.ref b7)])) (fun t k => ?_) ?_
    · show Steps p.tables e below (T17.setTop (mkF m 150 #[.val (.long id), .second, .val (.long start), .second, .val (.long dur), .second, .val (.long rat), .second, .val (.int refu), .val (.int fl), .val (.int (own_b (¬ (fl &&& (1 : Int32)) = (0 : Int32)))), .val (.int (own_b (¬ (fl &&& (2 : Int32)) = (0 : Int32)))), .val (.ref b5), .val (.ref b7), .val (.ref b9), .val (.ref b11), .val (.int (1 : Int32)), .val (.int (own_b ((0 : Int32) = (0 : Int32)))), .unset, .unset, .unset, .unset, .unset] [(.ref b9)])) _
      refine XS.aload X17.here hx rfl (hb hby at_150) rfl rfl ?_
      show Steps p.tables e below (T17.setTop (mkF m 152 #[.val (.long id), .second, .val (.long start), .second, .val (.long dur), .second, .val (.long rat), .second, .val (.int refu), .val (.int fl), .val (.int (own_b (¬ (fl &&& (1 : Int32)) = (0 : Int32)))), .val (.int (own_b (¬ (fl &&& (2 : Int32)) = (0 : Int32)))), .val (.ref b5), .val (.ref b7), .val (.ref b9), .val (.ref b11), .val (.int (1 : Int32)), .val (.int (own_b ((0 : Int32) = (0 : Int32)))), .unset, .unset, .unset, .unset, .unset] [(.ref b9), (.ref b9)])) _
      refine Jvm.RoadKit.acmp (g := (mkF m 152 #[.val (.long id), .second, .val (.long start), .second, .val (.long dur), .second, .val (.long rat), .second, .val (.int refu), .val (.int fl), .val (.int (own_b (¬ (fl &&& (1 : Int32)) = (0 : Int32)))), .val (.int (own_b (¬ (fl &&& (2 : Int32)) = (0 : Int32)))), .val (.ref b5), .val (.ref b7), .val (.ref b9), .val (.ref b11), .val (.int (1 : Int32)), .val (.int (own_b ((0 : Int32) = (0 : Int32)))), .unset, .unset, .unset, .unset, .unset] [(.ref b9), (.ref b9)])) X17 hx rfl rfl rfl (pc0 := 152) (pc' := 155) (same := true) rfl (hb hby at_152) rfl (decide_eq_true rfl) (by decide) (by decide) ?_
      show Steps p.tables e below (T17.setTop (mkF m 155 #[.val (.long id), .second, .val (.long start), .second, .val (.long dur), .second, .val (.long rat), .second, .val (.int refu), .val (.int fl), .val (.int (own_b (¬ (fl &&& (1 : Int32)) = (0 : Int32)))), .val (.int (own_b (¬ (fl &&& (2 : Int32)) = (0 : Int32)))), .val (.ref b5), .val (.ref b7), .val (.ref b9), .val (.ref b11), .val (.int (1 : Int32)), .val (.int (own_b ((0 : Int32) = (0 : Int32)))), .unset, .unset, .unset, .unset, .unset] [])) _
      refine XS.iconst X17.here hx rfl (hb hby at_155) ?_
      show Steps p.tables e below (T17.setTop (mkF m 156 #[.val (.long id), .second, .val (.long start), .second, .val (.long dur), .second, .val (.long rat), .second, .val (.int refu), .val (.int fl), .val (.int (own_b (¬ (fl &&& (1 : Int32)) = (0 : Int32)))), .val (.int (own_b (¬ (fl &&& (2 : Int32)) = (0 : Int32)))), .val (.ref b5), .val (.ref b7), .val (.ref b9), .val (.ref b11), .val (.int (1 : Int32)), .val (.int (own_b ((0 : Int32) = (0 : Int32)))), .unset, .unset, .unset, .unset, .unset] [(.int (1 : Int32))])) _
      refine XS.goto X17.here hx rfl (pc0 := 156) (pc' := 160) rfl (hb hby at_156) (by decide) (by decide) ?_
      show Steps p.tables e below (T17.setTop (mkF m 160 #[.val (.long id), .second, .val (.long start), .second, .val (.long dur), .second, .val (.long rat), .second, .val (.int refu), .val (.int fl), .val (.int (own_b (¬ (fl &&& (1 : Int32)) = (0 : Int32)))), .val (.int (own_b (¬ (fl &&& (2 : Int32)) = (0 : Int32)))), .val (.ref b5), .val (.ref b7), .val (.ref b9), .val (.ref b11), .val (.int (1 : Int32)), .val (.int (own_b ((0 : Int32) = (0 : Int32)))), .unset, .unset, .unset, .unset, .unset] [(.int (1 : Int32))])) _
      refine XS.istore X17.here hx rfl (hb hby at_160) rfl (l' := #[.val (.long id), .second, .val (.long start), .second, .val (.long dur), .second, .val (.long rat), .second, .val (.int refu), .val (.int fl), .val (.int (own_b (¬ (fl &&& (1 : Int32)) = (0 : Int32)))), .val (.int (own_b (¬ (fl &&& (2 : Int32)) = (0 : Int32)))), .val (.ref b5), .val (.ref b7), .val (.ref b9), .val (.ref b11), .val (.int (1 : Int32)), .val (.int (own_b ((0 : Int32) = (0 : Int32)))), .val (.int (1 : Int32)), .unset, .unset, .unset, .unset]) rfl ?_
      show Steps p.tables e below (T17.setTop (mkF m 162 #[.val (.long id), .second, .val (.long start), .second, .val (.long dur), .second, .val (.long rat), .second, .val (.int refu), .val (.int fl), .val (.int (own_b (¬ (fl &&& (1 : Int32)) = (0 : Int32)))), .val (.int (own_b (¬ (fl &&& (2 : Int32)) = (0 : Int32)))), .val (.ref b5), .val (.ref b7), .val (.ref b9), .val (.ref b11), .val (.int (1 : Int32)), .val (.int (own_b ((0 : Int32) = (0 : Int32)))), .val (.int (1 : Int32)), .unset, .unset, .unset, .unset] [])) _
      refine XS.aload X17.here hx rfl (hb hby at_162) rfl rfl ?_
      show Steps p.tables e below (T17.setTop (mkF m 164 #[.val (.long id), .second, .val (.long start), .second, .val (.long dur), .second, .val (.long rat), .second, .val (.int refu), .val (.int fl), .val (.int (own_b (¬ (fl &&& (1 : Int32)) = (0 : Int32)))), .val (.int (own_b (¬ (fl &&& (2 : Int32)) = (0 : Int32)))), .val (.ref b5), .val (.ref b7), .val (.ref b9), .val (.ref b11), .val (.int (1 : Int32)), .val (.int (own_b ((0 : Int32) = (0 : Int32)))), .val (.int (1 : Int32)), .unset, .unset, .unset, .unset] [(.ref b7)])) _
      refine XS.iconst X17.here hx rfl (hb hby at_164) ?_
      show Steps p.tables e below (T17.setTop (mkF m 165 #[.val (.long id), .second, .val (.long start), .second, .val (.long dur), .second, .val (.long rat), .second, .val (.int refu), .val (.int fl), .val (.int (own_b (¬ (fl &&& (1 : Int32)) = (0 : Int32)))), .val (.int (own_b (¬ (fl &&& (2 : Int32)) = (0 : Int32)))), .val (.ref b5), .val (.ref b7), .val (.ref b9), .val (.ref b11), .val (.int (1 : Int32)), .val (.int (own_b ((0 : Int32) = (0 : Int32)))), .val (.int (1 : Int32)), .unset, .unset, .unset, .unset] [(.int (0 : Int32)), (.ref b7)])) _
      refine XS.aload X17.here hx rfl (hb hby at_165) rfl rfl ?_
      exact k
    obtain ⟨cq18, kq18, q18a, q18b, q18c⟩ := isOf hZ e17 Ex16
    obtain ⟨_, _, ⟨T18, L18, k18, n18⟩, -, X18, ⟨Lc18, hQ18, l18, y18, z18⟩, st18⟩ := X17.virtualBack hx (y := (⟨"com/example/lichen/lichen/continuous/TakenSpan", "settle", "(ILcom/example/lichen/lichen/continuous/Settlement$Outcome;)Z"⟩ : MethodName)) (z := (⟨"com/example/lichen/lichen/continuous/TakenSpan", "settle", "(ILcom/example/lichen/lichen/continuous/Settlement$Outcome;)Z"⟩ : MethodName)) hown (mvT hZ (hw _ (List.mem_of_getElem? (i := 139) rfl))) (mvT hZ (hw _ (List.mem_of_getElem? (i := 140) rfl))) (notFace_of_selects (args := #[]) (mvT hZ (hw _ (List.mem_of_getElem? (i := 142) rfl)))) (mvT hZ (hw _ (List.mem_of_getElem? (i := 142) rfl))) (mvT hZ (hw _ (List.mem_of_getElem? (i := 141) rfl))) (by decide) (backOf (W := 0) (rm16 l Z a0 hw [] b7 (0 : Int32) b11 oa k (.ref b9) (1 : Int32) T16.heap n0 (Nat.le_trans (Nat.le_trans (Nat.le_trans (Nat.le_trans (Nat.le_trans (Nat.le_trans (Nat.le_trans (Nat.le_trans (Nat.le_trans Z0 E5.1) K6.1) E7.1) K8.1) E9.1) K10.1) E11.1) K14.1) K16.1) Ex16 Fo16 Vo16 Ok (Ex14.keep K16) Fs16 g_b7 g_oa ne_b7_oa rfl) hZ (hw _ (List.mem_of_getElem? (i := 143) rfl)) (hw _ (List.mem_of_getElem? (i := 78) rfl)) (by decide) (by decide)) q18a q18c (g := (mkF m 167 #[.val (.long id), .second, .val (.long start), .second, .val (.long dur), .second, .val (.long rat), .second, .val (.int refu), .val (.int fl), .val (.int (own_b (¬ (fl &&& (1 : Int32)) = (0 : Int32)))), .val (.int (own_b (¬ (fl &&& (2 : Int32)) = (0 : Int32)))), .val (.ref b5), .val (.ref b7), .val (.ref b9), .val (.ref b11), .val (.int (1 : Int32)), .val (.int (own_b ((0 : Int32) = (0 : Int32)))), .val (.int (1 : Int32)), .unset, .unset, .unset, .unset] [(.ref b11), (.int (0 : Int32)), (.ref b7)])) rfl (by rw [hml]; rfl) (Steps.refl _) (argsL := [(.int (0 : Int32)), (.ref b11)]) (rest := []) (lenOf pd_21 rfl) rfl (by show 2 * 0 + _ ≤ _; exact Nat.le_of_eq rfl) (hb hby at_167) (fun _ _ => ⟨rfl, e17, (by decide : 8 + 0 ≤ _), (by decide : 29 + 0 ≤ _)⟩)
    dsimp only [Pt.U, Pt.locs, Pt.cells, Pt.slots] at X18 l18 y18 z18 st18 hQ18
    subst l18 y18 z18
    obtain ⟨rfl, N18q, K18, Ex18, Fo18, Vo18, Fs18⟩ := hQ18
    have N18 := Fr.app N17 N18q
    refine own_via st18 ?_
    show own_Go p e below s _ _ _ (T18.setTop (mkF m 170 #[.val (.long id), .second, .val (.long start), .second, .val (.long dur), .second, .val (.long rat), .second, .val (.int refu), .val (.int fl), .val (.int (own_b (¬ (fl &&& (1 : Int32)) = (0 : Int32)))), .val (.int (own_b (¬ (fl &&& (2 : Int32)) = (0 : Int32)))), .val (.ref b5), .val (.ref b7), .val (.ref b9), .val (.ref b11), .val (.int (1 : Int32)), .val (.int (own_b ((0 : Int32) = (0 : Int32)))), .val (.int (1 : Int32)), .unset, .unset, .unset, .unset] [(.int (own_b ((1 : Int32) = (0 : Int32))))]))
    refine own_step (B := T18.setTop (mkF m 175 #[.val (.long id), .second, .val (.long start), .second, .val (.long dur), .second, .val (.long rat), .second, .val (.int refu), .val (.int fl), .val (.int (own_b (¬ (fl &&& (1 : Int32)) = (0 : Int32)))), .val (.int (own_b (¬ (fl &&& (2 : Int32)) = (0 : Int32)))), .val (.ref b5), .val (.ref b7), .val (.ref b9), .val (.ref b11), .val (.int (1 : Int32)), .val (.int (own_b ((0 : Int32) = (0 : Int32)))), .val (.int (1 : Int32)), .val (.int (own_b ((1 : Int32) = (0 : Int32)))), .unset, .unset, .unset] [(.int (0 : Int32)), (.ref b7)])) (fun t k => ?_) ?_
    · show Steps p.tables e below (T18.setTop (mkF m 170 #[.val (.long id), .second, .val (.long start), .second, .val (.long dur), .second, .val (.long rat), .second, .val (.int refu), .val (.int fl), .val (.int (own_b (¬ (fl &&& (1 : Int32)) = (0 : Int32)))), .val (.int (own_b (¬ (fl &&& (2 : Int32)) = (0 : Int32)))), .val (.ref b5), .val (.ref b7), .val (.ref b9), .val (.ref b11), .val (.int (1 : Int32)), .val (.int (own_b ((0 : Int32) = (0 : Int32)))), .val (.int (1 : Int32)), .unset, .unset, .unset, .unset] [(.int (own_b ((1 : Int32) = (0 : Int32))))])) _
      refine XS.istore X18.here hx rfl (hb hby at_170) rfl (l' := #[.val (.long id), .second, .val (.long start), .second, .val (.long dur), .second, .val (.long rat), .second, .val (.int refu), .val (.int fl), .val (.int (own_b (¬ (fl &&& (1 : Int32)) = (0 : Int32)))), .val (.int (own_b (¬ (fl &&& (2 : Int32)) = (0 : Int32)))), .val (.ref b5), .val (.ref b7), .val (.ref b9), .val (.ref b11), .val (.int (1 : Int32)), .val (.int (own_b ((0 : Int32) = (0 : Int32)))), .val (.int (1 : Int32)), .val (.int (own_b ((1 : Int32) = (0 : Int32)))), .unset, .unset, .unset]) rfl ?_
      show Steps p.tables e below (T18.setTop (mkF m 172 #[.val (.long id), .second, .val (.long start), .second, .val (.long dur), .second, .val (.long rat), .second, .val (.int refu), .val (.int fl), .val (.int (own_b (¬ (fl &&& (1 : Int32)) = (0 : Int32)))), .val (.int (own_b (¬ (fl &&& (2 : Int32)) = (0 : Int32)))), .val (.ref b5), .val (.ref b7), .val (.ref b9), .val (.ref b11), .val (.int (1 : Int32)), .val (.int (own_b ((0 : Int32) = (0 : Int32)))), .val (.int (1 : Int32)), .val (.int (own_b ((1 : Int32) = (0 : Int32)))), .unset, .unset, .unset] [])) _
      refine XS.aload X18.here hx rfl (hb hby at_172) rfl rfl ?_
      show Steps p.tables e below (T18.setTop (mkF m 174 #[.val (.long id), .second, .val (.long start), .second, .val (.long dur), .second, .val (.long rat), .second, .val (.int refu), .val (.int fl), .val (.int (own_b (¬ (fl &&& (1 : Int32)) = (0 : Int32)))), .val (.int (own_b (¬ (fl &&& (2 : Int32)) = (0 : Int32)))), .val (.ref b5), .val (.ref b7), .val (.ref b9), .val (.ref b11), .val (.int (1 : Int32)), .val (.int (own_b ((0 : Int32) = (0 : Int32)))), .val (.int (1 : Int32)), .val (.int (own_b ((1 : Int32) = (0 : Int32)))), .unset, .unset, .unset] [(.ref b7)])) _
      refine XS.iconst X18.here hx rfl (hb hby at_174) ?_
      exact k
    obtain ⟨cq19, kq19, q19a, q19b, q19c⟩ := isOf hZ rfl Ex18
    obtain ⟨_, _, ⟨T19, L19, k19, n19⟩, -, X19, ⟨Lc19, hQ19, l19, y19, z19⟩, st19⟩ := X18.virtualBack hx (y := (⟨"com/example/lichen/lichen/continuous/TakenSpan", "outcome", "(I)Lcom/example/lichen/lichen/continuous/Settlement$Outcome;"⟩ : MethodName)) (z := (⟨"com/example/lichen/lichen/continuous/TakenSpan", "outcome", "(I)Lcom/example/lichen/lichen/continuous/Settlement$Outcome;"⟩ : MethodName)) hown (mvT hZ (hw _ (List.mem_of_getElem? (i := 134) rfl))) (mvT hZ (hw _ (List.mem_of_getElem? (i := 135) rfl))) (notFace_of_selects (args := #[]) (mvT hZ (hw _ (List.mem_of_getElem? (i := 137) rfl)))) (mvT hZ (hw _ (List.mem_of_getElem? (i := 137) rfl))) (mvT hZ (hw _ (List.mem_of_getElem? (i := 136) rfl))) (by decide) (backOf (W := 0) (rm15 l Z a0 hw [] b7 (0 : Int32) oa k (.ref b11) T18.heap n0 (Nat.le_trans (Nat.le_trans (Nat.le_trans (Nat.le_trans (Nat.le_trans (Nat.le_trans (Nat.le_trans (Nat.le_trans (Nat.le_trans (Nat.le_trans Z0 E5.1) K6.1) E7.1) K8.1) E9.1) K10.1) E11.1) K14.1) K16.1) K18.1) Fo18 Vo18 rfl rfl) hZ (hw _ (List.mem_of_getElem? (i := 138) rfl)) (hw _ (List.mem_of_getElem? (i := 78) rfl)) (by decide) (by decide)) q19a q19c (g := (mkF m 175 #[.val (.long id), .second, .val (.long start), .second, .val (.long dur), .second, .val (.long rat), .second, .val (.int refu), .val (.int fl), .val (.int (own_b (¬ (fl &&& (1 : Int32)) = (0 : Int32)))), .val (.int (own_b (¬ (fl &&& (2 : Int32)) = (0 : Int32)))), .val (.ref b5), .val (.ref b7), .val (.ref b9), .val (.ref b11), .val (.int (1 : Int32)), .val (.int (own_b ((0 : Int32) = (0 : Int32)))), .val (.int (1 : Int32)), .val (.int (own_b ((1 : Int32) = (0 : Int32)))), .unset, .unset, .unset] [(.int (0 : Int32)), (.ref b7)])) rfl (by rw [hml]; rfl) (Steps.refl _) (argsL := [(.int (0 : Int32))]) (rest := []) (lenOf pd_20 rfl) rfl (by show 2 * 0 + _ ≤ _; exact Nat.le_of_eq rfl) (hb hby at_175) (fun _ _ => ⟨rfl, rfl, (by decide : 8 + 0 ≤ _), (by decide : 29 + 0 ≤ _)⟩)
    dsimp only [Pt.U, Pt.locs, Pt.cells, Pt.slots] at X19 l19 y19 z19 st19 hQ19
    subst l19 y19 z19
    obtain ⟨rfl, N19q, e19⟩ := hQ19
    have N19 := Fr.app N18 N19q
    refine own_via st19 ?_
    show own_Go p e below s _ _ _ (T19.setTop (mkF m 178 #[.val (.long id), .second, .val (.long start), .second, .val (.long dur), .second, .val (.long rat), .second, .val (.int refu), .val (.int fl), .val (.int (own_b (¬ (fl &&& (1 : Int32)) = (0 : Int32)))), .val (.int (own_b (¬ (fl &&& (2 : Int32)) = (0 : Int32)))), .val (.ref b5), .val (.ref b7), .val (.ref b9), .val (.ref b11), .val (.int (1 : Int32)), .val (.int (own_b ((0 : Int32) = (0 : Int32)))), .val (.int (1 : Int32)), .val (.int (own_b ((1 : Int32) = (0 : Int32)))), .unset, .unset, .unset] [(.ref b11)]))
    refine own_step (B := T19.setTop (mkF m 195 #[.val (.long id), .second, .val (.long start), .second, .val (.long dur), .second, .val (.long rat), .second, .val (.int refu), .val (.int fl), .val (.int (own_b (¬ (fl &&& (1 : Int32)) = (0 : Int32)))), .val (.int (own_b (¬ (fl &&& (2 : Int32)) = (0 : Int32)))), .val (.ref b5), .val (.ref b7), .val (.ref b9), .val (.ref b11), .val (.int (1 : Int32)), .val (.int (own_b ((0 : Int32) = (0 : Int32)))), .val (.int (1 : Int32)), .val (.int (own_b ((1 : Int32) = (0 : Int32)))), .val (.int (1 : Int32)), .unset, .unset] [(.ref b9), (.int (0 : Int32)), (.ref b7)])) (fun t k => ?_) ?_
    · show Steps p.tables e below (T19.setTop (mkF m 178 #[.val (.long id), .second, .val (.long start), .second, .val (.long dur), .second, .val (.long rat), .second, .val (.int refu), .val (.int fl), .val (.int (own_b (¬ (fl &&& (1 : Int32)) = (0 : Int32)))), .val (.int (own_b (¬ (fl &&& (2 : Int32)) = (0 : Int32)))), .val (.ref b5), .val (.ref b7), .val (.ref b9), .val (.ref b11), .val (.int (1 : Int32)), .val (.int (own_b ((0 : Int32) = (0 : Int32)))), .val (.int (1 : Int32)), .val (.int (own_b ((1 : Int32) = (0 : Int32)))), .unset, .unset, .unset] [(.ref b11)])) _
      refine XS.aload X19.here hx rfl (hb hby at_178) rfl rfl ?_
      show Steps p.tables e below (T19.setTop (mkF m 180 #[.val (.long id), .second, .val (.long start), .second, .val (.long dur), .second, .val (.long rat), .second, .val (.int refu), .val (.int fl), .val (.int (own_b (¬ (fl &&& (1 : Int32)) = (0 : Int32)))), .val (.int (own_b (¬ (fl &&& (2 : Int32)) = (0 : Int32)))), .val (.ref b5), .val (.ref b7), .val (.ref b9), .val (.ref b11), .val (.int (1 : Int32)), .val (.int (own_b ((0 : Int32) = (0 : Int32)))), .val (.int (1 : Int32)), .val (.int (own_b ((1 : Int32) = (0 : Int32)))), .unset, .unset, .unset] [(.ref b11), (.ref b11)])) _
      refine Jvm.RoadKit.acmp (g := (mkF m 180 #[.val (.long id), .second, .val (.long start), .second, .val (.long dur), .second, .val (.long rat), .second, .val (.int refu), .val (.int fl), .val (.int (own_b (¬ (fl &&& (1 : Int32)) = (0 : Int32)))), .val (.int (own_b (¬ (fl &&& (2 : Int32)) = (0 : Int32)))), .val (.ref b5), .val (.ref b7), .val (.ref b9), .val (.ref b11), .val (.int (1 : Int32)), .val (.int (own_b ((0 : Int32) = (0 : Int32)))), .val (.int (1 : Int32)), .val (.int (own_b ((1 : Int32) = (0 : Int32)))), .unset, .unset, .unset] [(.ref b11), (.ref b11)])) X19 hx rfl rfl rfl (pc0 := 180) (pc' := 183) (same := true) rfl (hb hby at_180) rfl (decide_eq_true rfl) (by decide) (by decide) ?_
      show Steps p.tables e below (T19.setTop (mkF m 183 #[.val (.long id), .second, .val (.long start), .second, .val (.long dur), .second, .val (.long rat), .second, .val (.int refu), .val (.int fl), .val (.int (own_b (¬ (fl &&& (1 : Int32)) = (0 : Int32)))), .val (.int (own_b (¬ (fl &&& (2 : Int32)) = (0 : Int32)))), .val (.ref b5), .val (.ref b7), .val (.ref b9), .val (.ref b11), .val (.int (1 : Int32)), .val (.int (own_b ((0 : Int32) = (0 : Int32)))), .val (.int (1 : Int32)), .val (.int (own_b ((1 : Int32) = (0 : Int32)))), .unset, .unset, .unset] [])) _
      refine XS.iconst X19.here hx rfl (hb hby at_183) ?_
      show Steps p.tables e below (T19.setTop (mkF m 184 #[.val (.long id), .second, .val (.long start), .second, .val (.long dur), .second, .val (.long rat), .second, .val (.int refu), .val (.int fl), .val (.int (own_b (¬ (fl &&& (1 : Int32)) = (0 : Int32)))), .val (.int (own_b (¬ (fl &&& (2 : Int32)) = (0 : Int32)))), .val (.ref b5), .val (.ref b7), .val (.ref b9), .val (.ref b11), .val (.int (1 : Int32)), .val (.int (own_b ((0 : Int32) = (0 : Int32)))), .val (.int (1 : Int32)), .val (.int (own_b ((1 : Int32) = (0 : Int32)))), .unset, .unset, .unset] [(.int (1 : Int32))])) _
      refine XS.goto X19.here hx rfl (pc0 := 184) (pc' := 188) rfl (hb hby at_184) (by decide) (by decide) ?_
      show Steps p.tables e below (T19.setTop (mkF m 188 #[.val (.long id), .second, .val (.long start), .second, .val (.long dur), .second, .val (.long rat), .second, .val (.int refu), .val (.int fl), .val (.int (own_b (¬ (fl &&& (1 : Int32)) = (0 : Int32)))), .val (.int (own_b (¬ (fl &&& (2 : Int32)) = (0 : Int32)))), .val (.ref b5), .val (.ref b7), .val (.ref b9), .val (.ref b11), .val (.int (1 : Int32)), .val (.int (own_b ((0 : Int32) = (0 : Int32)))), .val (.int (1 : Int32)), .val (.int (own_b ((1 : Int32) = (0 : Int32)))), .unset, .unset, .unset] [(.int (1 : Int32))])) _
      refine XS.istore X19.here hx rfl (hb hby at_188) rfl (l' := #[.val (.long id), .second, .val (.long start), .second, .val (.long dur), .second, .val (.long rat), .second, .val (.int refu), .val (.int fl), .val (.int (own_b (¬ (fl &&& (1 : Int32)) = (0 : Int32)))), .val (.int (own_b (¬ (fl &&& (2 : Int32)) = (0 : Int32)))), .val (.ref b5), .val (.ref b7), .val (.ref b9), .val (.ref b11), .val (.int (1 : Int32)), .val (.int (own_b ((0 : Int32) = (0 : Int32)))), .val (.int (1 : Int32)), .val (.int (own_b ((1 : Int32) = (0 : Int32)))), .val (.int (1 : Int32)), .unset, .unset]) rfl ?_
      show Steps p.tables e below (T19.setTop (mkF m 190 #[.val (.long id), .second, .val (.long start), .second, .val (.long dur), .second, .val (.long rat), .second, .val (.int refu), .val (.int fl), .val (.int (own_b (¬ (fl &&& (1 : Int32)) = (0 : Int32)))), .val (.int (own_b (¬ (fl &&& (2 : Int32)) = (0 : Int32)))), .val (.ref b5), .val (.ref b7), .val (.ref b9), .val (.ref b11), .val (.int (1 : Int32)), .val (.int (own_b ((0 : Int32) = (0 : Int32)))), .val (.int (1 : Int32)), .val (.int (own_b ((1 : Int32) = (0 : Int32)))), .val (.int (1 : Int32)), .unset, .unset] [])) _
      refine XS.aload X19.here hx rfl (hb hby at_190) rfl rfl ?_
      show Steps p.tables e below (T19.setTop (mkF m 192 #[.val (.long id), .second, .val (.long start), .second, .val (.long dur), .second, .val (.long rat), .second, .val (.int refu), .val (.int fl), .val (.int (own_b (¬ (fl &&& (1 : Int32)) = (0 : Int32)))), .val (.int (own_b (¬ (fl &&& (2 : Int32)) = (0 : Int32)))), .val (.ref b5), .val (.ref b7), .val (.ref b9), .val (.ref b11), .val (.int (1 : Int32)), .val (.int (own_b ((0 : Int32) = (0 : Int32)))), .val (.int (1 : Int32)), .val (.int (own_b ((1 : Int32) = (0 : Int32)))), .val (.int (1 : Int32)), .unset, .unset] [(.ref b7)])) _
      refine XS.iconst X19.here hx rfl (hb hby at_192) ?_
      show Steps p.tables e below (T19.setTop (mkF m 193 #[.val (.long id), .second, .val (.long start), .second, .val (.long dur), .second, .val (.long rat), .second, .val (.int refu), .val (.int fl), .val (.int (own_b (¬ (fl &&& (1 : Int32)) = (0 : Int32)))), .val (.int (own_b (¬ (fl &&& (2 : Int32)) = (0 : Int32)))), .val (.ref b5), .val (.ref b7), .val (.ref b9), .val (.ref b11), .val (.int (1 : Int32)), .val (.int (own_b ((0 : Int32) = (0 : Int32)))), .val (.int (1 : Int32)), .val (.int (own_b ((1 : Int32) = (0 : Int32)))), .val (.int (1 : Int32)), .unset, .unset] [(.int (0 : Int32)), (.ref b7)])) _
      refine XS.aload X19.here hx rfl (hb hby at_193) rfl rfl ?_
      exact k
    obtain ⟨cq20, kq20, q20a, q20b, q20c⟩ := isOf hZ e19 Ex18
    obtain ⟨_, _, ⟨T20, L20, k20, n20⟩, -, X20, ⟨Lc20, hQ20, l20, y20, z20⟩, st20⟩ := X19.virtualBack hx (y := (⟨"com/example/lichen/lichen/continuous/TakenSpan", "settle", "(ILcom/example/lichen/lichen/continuous/Settlement$Outcome;)Z"⟩ : MethodName)) (z := (⟨"com/example/lichen/lichen/continuous/TakenSpan", "settle", "(ILcom/example/lichen/lichen/continuous/Settlement$Outcome;)Z"⟩ : MethodName)) hown (mvT hZ (hw _ (List.mem_of_getElem? (i := 139) rfl))) (mvT hZ (hw _ (List.mem_of_getElem? (i := 140) rfl))) (notFace_of_selects (args := #[]) (mvT hZ (hw _ (List.mem_of_getElem? (i := 142) rfl)))) (mvT hZ (hw _ (List.mem_of_getElem? (i := 142) rfl))) (mvT hZ (hw _ (List.mem_of_getElem? (i := 141) rfl))) (by decide) (backOf (W := 0) (rm16 l Z a0 hw [] b7 (0 : Int32) b9 oa k (.ref b11) (1 : Int32) T18.heap n0 (Nat.le_trans (Nat.le_trans (Nat.le_trans (Nat.le_trans (Nat.le_trans (Nat.le_trans (Nat.le_trans (Nat.le_trans (Nat.le_trans (Nat.le_trans Z0 E5.1) K6.1) E7.1) K8.1) E9.1) K10.1) E11.1) K14.1) K16.1) K18.1) Ex18 Fo18 Vo18 Ok ((((Ex10.ext E11).keep K14).keep K16).keep K18) Fs18 g_b7 g_oa ne_b7_oa rfl) hZ (hw _ (List.mem_of_getElem? (i := 143) rfl)) (hw _ (List.mem_of_getElem? (i := 78) rfl)) (by decide) (by decide)) q20a q20c (g := (mkF m 195 #[.val (.long id), .second, .val (.long start), .second, .val (.long dur), .second, .val (.long rat), .second, .val (.int refu), .val (.int fl), .val (.int (own_b (¬ (fl &&& (1 : Int32)) = (0 : Int32)))), .val (.int (own_b (¬ (fl &&& (2 : Int32)) = (0 : Int32)))), .val (.ref b5), .val (.ref b7), .val (.ref b9), .val (.ref b11), .val (.int (1 : Int32)), .val (.int (own_b ((0 : Int32) = (0 : Int32)))), .val (.int (1 : Int32)), .val (.int (own_b ((1 : Int32) = (0 : Int32)))), .val (.int (1 : Int32)), .unset, .unset] [(.ref b9), (.int (0 : Int32)), (.ref b7)])) rfl (by rw [hml]; rfl) (Steps.refl _) (argsL := [(.int (0 : Int32)), (.ref b9)]) (rest := []) (lenOf pd_21 rfl) rfl (by show 2 * 0 + _ ≤ _; exact Nat.le_of_eq rfl) (hb hby at_195) (fun _ _ => ⟨rfl, e19, (by decide : 8 + 0 ≤ _), (by decide : 29 + 0 ≤ _)⟩)
    dsimp only [Pt.U, Pt.locs, Pt.cells, Pt.slots] at X20 l20 y20 z20 st20 hQ20
    subst l20 y20 z20
    obtain ⟨rfl, N20q, K20, Ex20, Fo20, Vo20, Fs20⟩ := hQ20
    have N20 := Fr.app N19 N20q
    refine own_via st20 ?_
    show own_Go p e below s _ _ _ (T20.setTop (mkF m 198 #[.val (.long id), .second, .val (.long start), .second, .val (.long dur), .second, .val (.long rat), .second, .val (.int refu), .val (.int fl), .val (.int (own_b (¬ (fl &&& (1 : Int32)) = (0 : Int32)))), .val (.int (own_b (¬ (fl &&& (2 : Int32)) = (0 : Int32)))), .val (.ref b5), .val (.ref b7), .val (.ref b9), .val (.ref b11), .val (.int (1 : Int32)), .val (.int (own_b ((0 : Int32) = (0 : Int32)))), .val (.int (1 : Int32)), .val (.int (own_b ((1 : Int32) = (0 : Int32)))), .val (.int (1 : Int32)), .unset, .unset] [(.int (own_b ((1 : Int32) = (0 : Int32))))]))
    refine own_step (B := T20.setTop (mkF m 203 #[.val (.long id), .second, .val (.long start), .second, .val (.long dur), .second, .val (.long rat), .second, .val (.int refu), .val (.int fl), .val (.int (own_b (¬ (fl &&& (1 : Int32)) = (0 : Int32)))), .val (.int (own_b (¬ (fl &&& (2 : Int32)) = (0 : Int32)))), .val (.ref b5), .val (.ref b7), .val (.ref b9), .val (.ref b11), .val (.int (1 : Int32)), .val (.int (own_b ((0 : Int32) = (0 : Int32)))), .val (.int (1 : Int32)), .val (.int (own_b ((1 : Int32) = (0 : Int32)))), .val (.int (1 : Int32)), .val (.int (own_b ((1 : Int32) = (0 : Int32)))), .unset] [(.int (0 : Int32)), (.ref b7)])) (fun t k => ?_) ?_
    · show Steps p.tables e below (T20.setTop (mkF m 198 #[.val (.long id), .second, .val (.long start), .second, .val (.long dur), .second, .val (.long rat), .second, .val (.int refu), .val (.int fl), .val (.int (own_b (¬ (fl &&& (1 : Int32)) = (0 : Int32)))), .val (.int (own_b (¬ (fl &&& (2 : Int32)) = (0 : Int32)))), .val (.ref b5), .val (.ref b7), .val (.ref b9), .val (.ref b11), .val (.int (1 : Int32)), .val (.int (own_b ((0 : Int32) = (0 : Int32)))), .val (.int (1 : Int32)), .val (.int (own_b ((1 : Int32) = (0 : Int32)))), .val (.int (1 : Int32)), .unset, .unset] [(.int (own_b ((1 : Int32) = (0 : Int32))))])) _
      refine XS.istore X20.here hx rfl (hb hby at_198) rfl (l' := #[.val (.long id), .second, .val (.long start), .second, .val (.long dur), .second, .val (.long rat), .second, .val (.int refu), .val (.int fl), .val (.int (own_b (¬ (fl &&& (1 : Int32)) = (0 : Int32)))), .val (.int (own_b (¬ (fl &&& (2 : Int32)) = (0 : Int32)))), .val (.ref b5), .val (.ref b7), .val (.ref b9), .val (.ref b11), .val (.int (1 : Int32)), .val (.int (own_b ((0 : Int32) = (0 : Int32)))), .val (.int (1 : Int32)), .val (.int (own_b ((1 : Int32) = (0 : Int32)))), .val (.int (1 : Int32)), .val (.int (own_b ((1 : Int32) = (0 : Int32)))), .unset]) rfl ?_
      show Steps p.tables e below (T20.setTop (mkF m 200 #[.val (.long id), .second, .val (.long start), .second, .val (.long dur), .second, .val (.long rat), .second, .val (.int refu), .val (.int fl), .val (.int (own_b (¬ (fl &&& (1 : Int32)) = (0 : Int32)))), .val (.int (own_b (¬ (fl &&& (2 : Int32)) = (0 : Int32)))), .val (.ref b5), .val (.ref b7), .val (.ref b9), .val (.ref b11), .val (.int (1 : Int32)), .val (.int (own_b ((0 : Int32) = (0 : Int32)))), .val (.int (1 : Int32)), .val (.int (own_b ((1 : Int32) = (0 : Int32)))), .val (.int (1 : Int32)), .val (.int (own_b ((1 : Int32) = (0 : Int32)))), .unset] [])) _
      refine XS.aload X20.here hx rfl (hb hby at_200) rfl rfl ?_
      show Steps p.tables e below (T20.setTop (mkF m 202 #[.val (.long id), .second, .val (.long start), .second, .val (.long dur), .second, .val (.long rat), .second, .val (.int refu), .val (.int fl), .val (.int (own_b (¬ (fl &&& (1 : Int32)) = (0 : Int32)))), .val (.int (own_b (¬ (fl &&& (2 : Int32)) = (0 : Int32)))), .val (.ref b5), .val (.ref b7), .val (.ref b9), .val (.ref b11), .val (.int (1 : Int32)), .val (.int (own_b ((0 : Int32) = (0 : Int32)))), .val (.int (1 : Int32)), .val (.int (own_b ((1 : Int32) = (0 : Int32)))), .val (.int (1 : Int32)), .val (.int (own_b ((1 : Int32) = (0 : Int32)))), .unset] [(.ref b7)])) _
      refine XS.iconst X20.here hx rfl (hb hby at_202) ?_
      exact k
    obtain ⟨cq21, kq21, q21a, q21b, q21c⟩ := isOf hZ rfl Ex20
    obtain ⟨_, _, ⟨T21, L21, k21, n21⟩, -, X21, ⟨Lc21, hQ21, l21, y21, z21⟩, st21⟩ := X20.virtualBack hx (y := (⟨"com/example/lichen/lichen/continuous/TakenSpan", "outcome", "(I)Lcom/example/lichen/lichen/continuous/Settlement$Outcome;"⟩ : MethodName)) (z := (⟨"com/example/lichen/lichen/continuous/TakenSpan", "outcome", "(I)Lcom/example/lichen/lichen/continuous/Settlement$Outcome;"⟩ : MethodName)) hown (mvT hZ (hw _ (List.mem_of_getElem? (i := 134) rfl))) (mvT hZ (hw _ (List.mem_of_getElem? (i := 135) rfl))) (notFace_of_selects (args := #[]) (mvT hZ (hw _ (List.mem_of_getElem? (i := 137) rfl)))) (mvT hZ (hw _ (List.mem_of_getElem? (i := 137) rfl))) (mvT hZ (hw _ (List.mem_of_getElem? (i := 136) rfl))) (by decide) (backOf (W := 0) (rm15 l Z a0 hw [] b7 (0 : Int32) oa k (.ref b9) T20.heap n0 (Nat.le_trans (Nat.le_trans (Nat.le_trans (Nat.le_trans (Nat.le_trans (Nat.le_trans (Nat.le_trans (Nat.le_trans (Nat.le_trans (Nat.le_trans (Nat.le_trans Z0 E5.1) K6.1) E7.1) K8.1) E9.1) K10.1) E11.1) K14.1) K16.1) K18.1) K20.1) Fo20 Vo20 rfl rfl) hZ (hw _ (List.mem_of_getElem? (i := 138) rfl)) (hw _ (List.mem_of_getElem? (i := 78) rfl)) (by decide) (by decide)) q21a q21c (g := (mkF m 203 #[.val (.long id), .second, .val (.long start), .second, .val (.long dur), .second, .val (.long rat), .second, .val (.int refu), .val (.int fl), .val (.int (own_b (¬ (fl &&& (1 : Int32)) = (0 : Int32)))), .val (.int (own_b (¬ (fl &&& (2 : Int32)) = (0 : Int32)))), .val (.ref b5), .val (.ref b7), .val (.ref b9), .val (.ref b11), .val (.int (1 : Int32)), .val (.int (own_b ((0 : Int32) = (0 : Int32)))), .val (.int (1 : Int32)), .val (.int (own_b ((1 : Int32) = (0 : Int32)))), .val (.int (1 : Int32)), .val (.int (own_b ((1 : Int32) = (0 : Int32)))), .unset] [(.int (0 : Int32)), (.ref b7)])) rfl (by rw [hml]; rfl) (Steps.refl _) (argsL := [(.int (0 : Int32))]) (rest := []) (lenOf pd_20 rfl) rfl (by show 2 * 0 + _ ≤ _; exact Nat.le_of_eq rfl) (hb hby at_203) (fun _ _ => ⟨rfl, rfl, (by decide : 8 + 0 ≤ _), (by decide : 29 + 0 ≤ _)⟩)
    dsimp only [Pt.U, Pt.locs, Pt.cells, Pt.slots] at X21 l21 y21 z21 st21 hQ21
    subst l21 y21 z21
    obtain ⟨rfl, N21q, e21⟩ := hQ21
    have N21 := Fr.app N20 N21q
    refine own_via st21 ?_
    show own_Go p e below s _ _ _ (T21.setTop (mkF m 206 #[.val (.long id), .second, .val (.long start), .second, .val (.long dur), .second, .val (.long rat), .second, .val (.int refu), .val (.int fl), .val (.int (own_b (¬ (fl &&& (1 : Int32)) = (0 : Int32)))), .val (.int (own_b (¬ (fl &&& (2 : Int32)) = (0 : Int32)))), .val (.ref b5), .val (.ref b7), .val (.ref b9), .val (.ref b11), .val (.int (1 : Int32)), .val (.int (own_b ((0 : Int32) = (0 : Int32)))), .val (.int (1 : Int32)), .val (.int (own_b ((1 : Int32) = (0 : Int32)))), .val (.int (1 : Int32)), .val (.int (own_b ((1 : Int32) = (0 : Int32)))), .unset] [(.ref b9)]))
    refine own_step (B := T21.setTop (mkF m 258 #[.val (.long id), .second, .val (.long start), .second, .val (.long dur), .second, .val (.long rat), .second, .val (.int refu), .val (.int fl), .val (.int (own_b (¬ (fl &&& (1 : Int32)) = (0 : Int32)))), .val (.int (own_b (¬ (fl &&& (2 : Int32)) = (0 : Int32)))), .val (.ref b5), .val (.ref b7), .val (.ref b9), .val (.ref b11), .val (.int (1 : Int32)), .val (.int (own_b ((0 : Int32) = (0 : Int32)))), .val (.int (1 : Int32)), .val (.int (own_b ((1 : Int32) = (0 : Int32)))), .val (.int (1 : Int32)), .val (.int (own_b ((1 : Int32) = (0 : Int32)))), .val (.int (1 : Int32))] [(.int (1 : Int32))])) (fun t k => ?_) ?_
    · show Steps p.tables e below (T21.setTop (mkF m 206 #[.val (.long id), .second, .val (.long start), .second, .val (.long dur), .second, .val (.long rat), .second, .val (.int refu), .val (.int fl), .val (.int (own_b (¬ (fl &&& (1 : Int32)) = (0 : Int32)))), .val (.int (own_b (¬ (fl &&& (2 : Int32)) = (0 : Int32)))), .val (.ref b5), .val (.ref b7), .val (.ref b9), .val (.ref b11), .val (.int (1 : Int32)), .val (.int (own_b ((0 : Int32) = (0 : Int32)))), .val (.int (1 : Int32)), .val (.int (own_b ((1 : Int32) = (0 : Int32)))), .val (.int (1 : Int32)), .val (.int (own_b ((1 : Int32) = (0 : Int32)))), .unset] [(.ref b9)])) _
      refine XS.aload X21.here hx rfl (hb hby at_206) rfl rfl ?_
      show Steps p.tables e below (T21.setTop (mkF m 208 #[.val (.long id), .second, .val (.long start), .second, .val (.long dur), .second, .val (.long rat), .second, .val (.int refu), .val (.int fl), .val (.int (own_b (¬ (fl &&& (1 : Int32)) = (0 : Int32)))), .val (.int (own_b (¬ (fl &&& (2 : Int32)) = (0 : Int32)))), .val (.ref b5), .val (.ref b7), .val (.ref b9), .val (.ref b11), .val (.int (1 : Int32)), .val (.int (own_b ((0 : Int32) = (0 : Int32)))), .val (.int (1 : Int32)), .val (.int (own_b ((1 : Int32) = (0 : Int32)))), .val (.int (1 : Int32)), .val (.int (own_b ((1 : Int32) = (0 : Int32)))), .unset] [(.ref b9), (.ref b9)])) _
      refine Jvm.RoadKit.acmp (g := (mkF m 208 #[.val (.long id), .second, .val (.long start), .second, .val (.long dur), .second, .val (.long rat), .second, .val (.int refu), .val (.int fl), .val (.int (own_b (¬ (fl &&& (1 : Int32)) = (0 : Int32)))), .val (.int (own_b (¬ (fl &&& (2 : Int32)) = (0 : Int32)))), .val (.ref b5), .val (.ref b7), .val (.ref b9), .val (.ref b11), .val (.int (1 : Int32)), .val (.int (own_b ((0 : Int32) = (0 : Int32)))), .val (.int (1 : Int32)), .val (.int (own_b ((1 : Int32) = (0 : Int32)))), .val (.int (1 : Int32)), .val (.int (own_b ((1 : Int32) = (0 : Int32)))), .unset] [(.ref b9), (.ref b9)])) X21 hx rfl rfl rfl (pc0 := 208) (pc' := 211) (same := true) rfl (hb hby at_208) rfl (decide_eq_true rfl) (by decide) (by decide) ?_
      show Steps p.tables e below (T21.setTop (mkF m 211 #[.val (.long id), .second, .val (.long start), .second, .val (.long dur), .second, .val (.long rat), .second, .val (.int refu), .val (.int fl), .val (.int (own_b (¬ (fl &&& (1 : Int32)) = (0 : Int32)))), .val (.int (own_b (¬ (fl &&& (2 : Int32)) = (0 : Int32)))), .val (.ref b5), .val (.ref b7), .val (.ref b9), .val (.ref b11), .val (.int (1 : Int32)), .val (.int (own_b ((0 : Int32) = (0 : Int32)))), .val (.int (1 : Int32)), .val (.int (own_b ((1 : Int32) = (0 : Int32)))), .val (.int (1 : Int32)), .val (.int (own_b ((1 : Int32) = (0 : Int32)))), .unset] [])) _
      refine XS.iconst X21.here hx rfl (hb hby at_211) ?_
      show Steps p.tables e below (T21.setTop (mkF m 212 #[.val (.long id), .second, .val (.long start), .second, .val (.long dur), .second, .val (.long rat), .second, .val (.int refu), .val (.int fl), .val (.int (own_b (¬ (fl &&& (1 : Int32)) = (0 : Int32)))), .val (.int (own_b (¬ (fl &&& (2 : Int32)) = (0 : Int32)))), .val (.ref b5), .val (.ref b7), .val (.ref b9), .val (.ref b11), .val (.int (1 : Int32)), .val (.int (own_b ((0 : Int32) = (0 : Int32)))), .val (.int (1 : Int32)), .val (.int (own_b ((1 : Int32) = (0 : Int32)))), .val (.int (1 : Int32)), .val (.int (own_b ((1 : Int32) = (0 : Int32)))), .unset] [(.int (1 : Int32))])) _
      refine XS.goto X21.here hx rfl (pc0 := 212) (pc' := 216) rfl (hb hby at_212) (by decide) (by decide) ?_
      show Steps p.tables e below (T21.setTop (mkF m 216 #[.val (.long id), .second, .val (.long start), .second, .val (.long dur), .second, .val (.long rat), .second, .val (.int refu), .val (.int fl), .val (.int (own_b (¬ (fl &&& (1 : Int32)) = (0 : Int32)))), .val (.int (own_b (¬ (fl &&& (2 : Int32)) = (0 : Int32)))), .val (.ref b5), .val (.ref b7), .val (.ref b9), .val (.ref b11), .val (.int (1 : Int32)), .val (.int (own_b ((0 : Int32) = (0 : Int32)))), .val (.int (1 : Int32)), .val (.int (own_b ((1 : Int32) = (0 : Int32)))), .val (.int (1 : Int32)), .val (.int (own_b ((1 : Int32) = (0 : Int32)))), .unset] [(.int (1 : Int32))])) _
      refine XS.istore X21.here hx rfl (hb hby at_216) rfl (l' := #[.val (.long id), .second, .val (.long start), .second, .val (.long dur), .second, .val (.long rat), .second, .val (.int refu), .val (.int fl), .val (.int (own_b (¬ (fl &&& (1 : Int32)) = (0 : Int32)))), .val (.int (own_b (¬ (fl &&& (2 : Int32)) = (0 : Int32)))), .val (.ref b5), .val (.ref b7), .val (.ref b9), .val (.ref b11), .val (.int (1 : Int32)), .val (.int (own_b ((0 : Int32) = (0 : Int32)))), .val (.int (1 : Int32)), .val (.int (own_b ((1 : Int32) = (0 : Int32)))), .val (.int (1 : Int32)), .val (.int (own_b ((1 : Int32) = (0 : Int32)))), .val (.int (1 : Int32))]) rfl ?_
      show Steps p.tables e below (T21.setTop (mkF m 218 #[.val (.long id), .second, .val (.long start), .second, .val (.long dur), .second, .val (.long rat), .second, .val (.int refu), .val (.int fl), .val (.int (own_b (¬ (fl &&& (1 : Int32)) = (0 : Int32)))), .val (.int (own_b (¬ (fl &&& (2 : Int32)) = (0 : Int32)))), .val (.ref b5), .val (.ref b7), .val (.ref b9), .val (.ref b11), .val (.int (1 : Int32)), .val (.int (own_b ((0 : Int32) = (0 : Int32)))), .val (.int (1 : Int32)), .val (.int (own_b ((1 : Int32) = (0 : Int32)))), .val (.int (1 : Int32)), .val (.int (own_b ((1 : Int32) = (0 : Int32)))), .val (.int (1 : Int32))] [])) _
      refine XS.iload X21.here hx rfl (hb hby at_218) rfl ?_
      show Steps p.tables e below (T21.setTop (mkF m 220 #[.val (.long id), .second, .val (.long start), .second, .val (.long dur), .second, .val (.long rat), .second, .val (.int refu), .val (.int fl), .val (.int (own_b (¬ (fl &&& (1 : Int32)) = (0 : Int32)))), .val (.int (own_b (¬ (fl &&& (2 : Int32)) = (0 : Int32)))), .val (.ref b5), .val (.ref b7), .val (.ref b9), .val (.ref b11), .val (.int (1 : Int32)), .val (.int (own_b ((0 : Int32) = (0 : Int32)))), .val (.int (1 : Int32)), .val (.int (own_b ((1 : Int32) = (0 : Int32)))), .val (.int (1 : Int32)), .val (.int (own_b ((1 : Int32) = (0 : Int32)))), .val (.int (1 : Int32))] [(.int (1 : Int32))])) _
      refine XS.ifNo X21.here hx rfl (hb hby at_220) rfl ((if0 _ _).trans (feq (by decide : ¬ ((1 : Int32) = (0 : Int32)))).1) ?_
      show Steps p.tables e below (T21.setTop (mkF m 223 #[.val (.long id), .second, .val (.long start), .second, .val (.long dur), .second, .val (.long rat), .second, .val (.int refu), .val (.int fl), .val (.int (own_b (¬ (fl &&& (1 : Int32)) = (0 : Int32)))), .val (.int (own_b (¬ (fl &&& (2 : Int32)) = (0 : Int32)))), .val (.ref b5), .val (.ref b7), .val (.ref b9), .val (.ref b11), .val (.int (1 : Int32)), .val (.int (own_b ((0 : Int32) = (0 : Int32)))), .val (.int (1 : Int32)), .val (.int (own_b ((1 : Int32) = (0 : Int32)))), .val (.int (1 : Int32)), .val (.int (own_b ((1 : Int32) = (0 : Int32)))), .val (.int (1 : Int32))] [])) _
      refine XS.iload X21.here hx rfl (hb hby at_223) rfl ?_
      show Steps p.tables e below (T21.setTop (mkF m 225 #[.val (.long id), .second, .val (.long start), .second, .val (.long dur), .second, .val (.long rat), .second, .val (.int refu), .val (.int fl), .val (.int (own_b (¬ (fl &&& (1 : Int32)) = (0 : Int32)))), .val (.int (own_b (¬ (fl &&& (2 : Int32)) = (0 : Int32)))), .val (.ref b5), .val (.ref b7), .val (.ref b9), .val (.ref b11), .val (.int (1 : Int32)), .val (.int (own_b ((0 : Int32) = (0 : Int32)))), .val (.int (1 : Int32)), .val (.int (own_b ((1 : Int32) = (0 : Int32)))), .val (.int (1 : Int32)), .val (.int (own_b ((1 : Int32) = (0 : Int32)))), .val (.int (1 : Int32))] [(.int (own_b ((0 : Int32) = (0 : Int32))))])) _
      refine XS.ifNo X21.here hx rfl (hb hby at_225) rfl ((if0 _ _).trans (feq (by decide)).1) ?_
      show Steps p.tables e below (T21.setTop (mkF m 228 #[.val (.long id), .second, .val (.long start), .second, .val (.long dur), .second, .val (.long rat), .second, .val (.int refu), .val (.int fl), .val (.int (own_b (¬ (fl &&& (1 : Int32)) = (0 : Int32)))), .val (.int (own_b (¬ (fl &&& (2 : Int32)) = (0 : Int32)))), .val (.ref b5), .val (.ref b7), .val (.ref b9), .val (.ref b11), .val (.int (1 : Int32)), .val (.int (own_b ((0 : Int32) = (0 : Int32)))), .val (.int (1 : Int32)), .val (.int (own_b ((1 : Int32) = (0 : Int32)))), .val (.int (1 : Int32)), .val (.int (own_b ((1 : Int32) = (0 : Int32)))), .val (.int (1 : Int32))] [])) _
      refine XS.iload X21.here hx rfl (hb hby at_228) rfl ?_
      show Steps p.tables e below (T21.setTop (mkF m 230 #[.val (.long id), .second, .val (.long start), .second, .val (.long dur), .second, .val (.long rat), .second, .val (.int refu), .val (.int fl), .val (.int (own_b (¬ (fl &&& (1 : Int32)) = (0 : Int32)))), .val (.int (own_b (¬ (fl &&& (2 : Int32)) = (0 : Int32)))), .val (.ref b5), .val (.ref b7), .val (.ref b9), .val (.ref b11), .val (.int (1 : Int32)), .val (.int (own_b ((0 : Int32) = (0 : Int32)))), .val (.int (1 : Int32)), .val (.int (own_b ((1 : Int32) = (0 : Int32)))), .val (.int (1 : Int32)), .val (.int (own_b ((1 : Int32) = (0 : Int32)))), .val (.int (1 : Int32))] [(.int (1 : Int32))])) _
      refine XS.ifNo X21.here hx rfl (hb hby at_230) rfl ((if0 _ _).trans (feq (by decide : ¬ ((1 : Int32) = (0 : Int32)))).1) ?_
      show Steps p.tables e below (T21.setTop (mkF m 233 #[.val (.long id), .second, .val (.long start), .second, .val (.long dur), .second, .val (.long rat), .second, .val (.int refu), .val (.int fl), .val (.int (own_b (¬ (fl &&& (1 : Int32)) = (0 : Int32)))), .val (.int (own_b (¬ (fl &&& (2 : Int32)) = (0 : Int32)))), .val (.ref b5), .val (.ref b7), .val (.ref b9), .val (.ref b11), .val (.int (1 : Int32)), .val (.int (own_b ((0 : Int32) = (0 : Int32)))), .val (.int (1 : Int32)), .val (.int (own_b ((1 : Int32) = (0 : Int32)))), .val (.int (1 : Int32)), .val (.int (own_b ((1 : Int32) = (0 : Int32)))), .val (.int (1 : Int32))] [])) _
      refine XS.iload X21.here hx rfl (hb hby at_233) rfl ?_
      show Steps p.tables e below (T21.setTop (mkF m 235 #[.val (.long id), .second, .val (.long start), .second, .val (.long dur), .second, .val (.long rat), .second, .val (.int refu), .val (.int fl), .val (.int (own_b (¬ (fl &&& (1 : Int32)) = (0 : Int32)))), .val (.int (own_b (¬ (fl &&& (2 : Int32)) = (0 : Int32)))), .val (.ref b5), .val (.ref b7), .val (.ref b9), .val (.ref b11), .val (.int (1 : Int32)), .val (.int (own_b ((0 : Int32) = (0 : Int32)))), .val (.int (1 : Int32)), .val (.int (own_b ((1 : Int32) = (0 : Int32)))), .val (.int (1 : Int32)), .val (.int (own_b ((1 : Int32) = (0 : Int32)))), .val (.int (1 : Int32))] [(.int (own_b ((1 : Int32) = (0 : Int32))))])) _
      refine XS.ifNo X21.here hx rfl (hb hby at_235) rfl ((if0 _ _).trans (teq (by decide)).2) ?_
      show Steps p.tables e below (T21.setTop (mkF m 238 #[.val (.long id), .second, .val (.long start), .second, .val (.long dur), .second, .val (.long rat), .second, .val (.int refu), .val (.int fl), .val (.int (own_b (¬ (fl &&& (1 : Int32)) = (0 : Int32)))), .val (.int (own_b (¬ (fl &&& (2 : Int32)) = (0 : Int32)))), .val (.ref b5), .val (.ref b7), .val (.ref b9), .val (.ref b11), .val (.int (1 : Int32)), .val (.int (own_b ((0 : Int32) = (0 : Int32)))), .val (.int (1 : Int32)), .val (.int (own_b ((1 : Int32) = (0 : Int32)))), .val (.int (1 : Int32)), .val (.int (own_b ((1 : Int32) = (0 : Int32)))), .val (.int (1 : Int32))] [])) _
      refine XS.iload X21.here hx rfl (hb hby at_238) rfl ?_
      show Steps p.tables e below (T21.setTop (mkF m 240 #[.val (.long id), .second, .val (.long start), .second, .val (.long dur), .second, .val (.long rat), .second, .val (.int refu), .val (.int fl), .val (.int (own_b (¬ (fl &&& (1 : Int32)) = (0 : Int32)))), .val (.int (own_b (¬ (fl &&& (2 : Int32)) = (0 : Int32)))), .val (.ref b5), .val (.ref b7), .val (.ref b9), .val (.ref b11), .val (.int (1 : Int32)), .val (.int (own_b ((0 : Int32) = (0 : Int32)))), .val (.int (1 : Int32)), .val (.int (own_b ((1 : Int32) = (0 : Int32)))), .val (.int (1 : Int32)), .val (.int (own_b ((1 : Int32) = (0 : Int32)))), .val (.int (1 : Int32))] [(.int (1 : Int32))])) _
      refine XS.ifNo X21.here hx rfl (hb hby at_240) rfl ((if0 _ _).trans (feq (by decide : ¬ ((1 : Int32) = (0 : Int32)))).1) ?_
      show Steps p.tables e below (T21.setTop (mkF m 243 #[.val (.long id), .second, .val (.long start), .second, .val (.long dur), .second, .val (.long rat), .second, .val (.int refu), .val (.int fl), .val (.int (own_b (¬ (fl &&& (1 : Int32)) = (0 : Int32)))), .val (.int (own_b (¬ (fl &&& (2 : Int32)) = (0 : Int32)))), .val (.ref b5), .val (.ref b7), .val (.ref b9), .val (.ref b11), .val (.int (1 : Int32)), .val (.int (own_b ((0 : Int32) = (0 : Int32)))), .val (.int (1 : Int32)), .val (.int (own_b ((1 : Int32) = (0 : Int32)))), .val (.int (1 : Int32)), .val (.int (own_b ((1 : Int32) = (0 : Int32)))), .val (.int (1 : Int32))] [])) _
      refine XS.iload X21.here hx rfl (hb hby at_243) rfl ?_
      show Steps p.tables e below (T21.setTop (mkF m 245 #[.val (.long id), .second, .val (.long start), .second, .val (.long dur), .second, .val (.long rat), .second, .val (.int refu), .val (.int fl), .val (.int (own_b (¬ (fl &&& (1 : Int32)) = (0 : Int32)))), .val (.int (own_b (¬ (fl &&& (2 : Int32)) = (0 : Int32)))), .val (.ref b5), .val (.ref b7), .val (.ref b9), .val (.ref b11), .val (.int (1 : Int32)), .val (.int (own_b ((0 : Int32) = (0 : Int32)))), .val (.int (1 : Int32)), .val (.int (own_b ((1 : Int32) = (0 : Int32)))), .val (.int (1 : Int32)), .val (.int (own_b ((1 : Int32) = (0 : Int32)))), .val (.int (1 : Int32))] [(.int (own_b ((1 : Int32) = (0 : Int32))))])) _
      refine XS.ifNo X21.here hx rfl (hb hby at_245) rfl ((if0 _ _).trans (teq (by decide)).2) ?_
      show Steps p.tables e below (T21.setTop (mkF m 248 #[.val (.long id), .second, .val (.long start), .second, .val (.long dur), .second, .val (.long rat), .second, .val (.int refu), .val (.int fl), .val (.int (own_b (¬ (fl &&& (1 : Int32)) = (0 : Int32)))), .val (.int (own_b (¬ (fl &&& (2 : Int32)) = (0 : Int32)))), .val (.ref b5), .val (.ref b7), .val (.ref b9), .val (.ref b11), .val (.int (1 : Int32)), .val (.int (own_b ((0 : Int32) = (0 : Int32)))), .val (.int (1 : Int32)), .val (.int (own_b ((1 : Int32) = (0 : Int32)))), .val (.int (1 : Int32)), .val (.int (own_b ((1 : Int32) = (0 : Int32)))), .val (.int (1 : Int32))] [])) _
      refine XS.iload X21.here hx rfl (hb hby at_248) rfl ?_
      show Steps p.tables e below (T21.setTop (mkF m 250 #[.val (.long id), .second, .val (.long start), .second, .val (.long dur), .second, .val (.long rat), .second, .val (.int refu), .val (.int fl), .val (.int (own_b (¬ (fl &&& (1 : Int32)) = (0 : Int32)))), .val (.int (own_b (¬ (fl &&& (2 : Int32)) = (0 : Int32)))), .val (.ref b5), .val (.ref b7), .val (.ref b9), .val (.ref b11), .val (.int (1 : Int32)), .val (.int (own_b ((0 : Int32) = (0 : Int32)))), .val (.int (1 : Int32)), .val (.int (own_b ((1 : Int32) = (0 : Int32)))), .val (.int (1 : Int32)), .val (.int (own_b ((1 : Int32) = (0 : Int32)))), .val (.int (1 : Int32))] [(.int (1 : Int32))])) _
      refine XS.ifNo X21.here hx rfl (hb hby at_250) rfl ((if0 _ _).trans (feq (by decide : ¬ ((1 : Int32) = (0 : Int32)))).1) ?_
      show Steps p.tables e below (T21.setTop (mkF m 253 #[.val (.long id), .second, .val (.long start), .second, .val (.long dur), .second, .val (.long rat), .second, .val (.int refu), .val (.int fl), .val (.int (own_b (¬ (fl &&& (1 : Int32)) = (0 : Int32)))), .val (.int (own_b (¬ (fl &&& (2 : Int32)) = (0 : Int32)))), .val (.ref b5), .val (.ref b7), .val (.ref b9), .val (.ref b11), .val (.int (1 : Int32)), .val (.int (own_b ((0 : Int32) = (0 : Int32)))), .val (.int (1 : Int32)), .val (.int (own_b ((1 : Int32) = (0 : Int32)))), .val (.int (1 : Int32)), .val (.int (own_b ((1 : Int32) = (0 : Int32)))), .val (.int (1 : Int32))] [])) _
      refine XS.iconst X21.here hx rfl (hb hby at_253) ?_
      show Steps p.tables e below (T21.setTop (mkF m 254 #[.val (.long id), .second, .val (.long start), .second, .val (.long dur), .second, .val (.long rat), .second, .val (.int refu), .val (.int fl), .val (.int (own_b (¬ (fl &&& (1 : Int32)) = (0 : Int32)))), .val (.int (own_b (¬ (fl &&& (2 : Int32)) = (0 : Int32)))), .val (.ref b5), .val (.ref b7), .val (.ref b9), .val (.ref b11), .val (.int (1 : Int32)), .val (.int (own_b ((0 : Int32) = (0 : Int32)))), .val (.int (1 : Int32)), .val (.int (own_b ((1 : Int32) = (0 : Int32)))), .val (.int (1 : Int32)), .val (.int (own_b ((1 : Int32) = (0 : Int32)))), .val (.int (1 : Int32))] [(.int (1 : Int32))])) _
      refine XS.goto X21.here hx rfl (pc0 := 254) (pc' := 258) rfl (hb hby at_254) (by decide) (by decide) ?_
      exact k
    exact own_retN X21 hx Bd.notSynchronized (t := .boolean) Bd.returns (by simp) (hb hby at_258) ⟨rfl, N21⟩ (by decide) (by decide)
  · refine own_step (B := T8.setTop (mkF m 68 #[.val (.long id), .second, .val (.long start), .second, .val (.long dur), .second, .val (.long rat), .second, .val (.int refu), .val (.int fl), .val (.int (own_b (¬ (fl &&& (1 : Int32)) = (0 : Int32)))), .val (.int (own_b (¬ (fl &&& (2 : Int32)) = (0 : Int32)))), .val (.ref b5), .val (.ref b7), .unset, .unset, .unset, .unset, .unset, .unset, .unset, .unset, .unset] [])) (fun t k => ?_) ?_
    · show Steps p.tables e below (T8.setTop (mkF m 65 #[.val (.long id), .second, .val (.long start), .second, .val (.long dur), .second, .val (.long rat), .second, .val (.int refu), .val (.int fl), .val (.int (own_b (¬ (fl &&& (1 : Int32)) = (0 : Int32)))), .val (.int (own_b (¬ (fl &&& (2 : Int32)) = (0 : Int32)))), .val (.ref b5), .val (.ref b7), .unset, .unset, .unset, .unset, .unset, .unset, .unset, .unset, .unset] [(.int (own_b (¬ (fl &&& (2 : Int32)) = (0 : Int32))))])) _
      refine XS.ifNo X8.here hx rfl (hb hby at_65) rfl ((if0 _ _).trans (feq (by rw [own_bt hc65]; decide)).1) ?_
      exact k
    obtain ⟨T22, X22, e22, st22⟩ := getS2 X8 hx hZ hown (host := "") (Or.inl (hw _ (List.mem_of_getElem? (i := 147) rfl))) Via.refl rfl (own_staKeep ((own_staKeep (S_D.ext E5) K6 (nsS (Exa.nostat A5) ns0)).ext E7) K8 (nsS (Exa.nostat A7) ns0)) (g := (mkF m 68 #[.val (.long id), .second, .val (.long start), .second, .val (.long dur), .second, .val (.long rat), .second, .val (.int refu), .val (.int fl), .val (.int (own_b (¬ (fl &&& (1 : Int32)) = (0 : Int32)))), .val (.int (own_b (¬ (fl &&& (2 : Int32)) = (0 : Int32)))), .val (.ref b5), .val (.ref b7), .unset, .unset, .unset, .unset, .unset, .unset, .unset, .unset, .unset] [])) rfl (hb hby at_68)
    refine own_step st22 ?_
    show own_Go p e below s _ _ _ (T22.setTop (mkF m 71 #[.val (.long id), .second, .val (.long start), .second, .val (.long dur), .second, .val (.long rat), .second, .val (.int refu), .val (.int fl), .val (.int (own_b (¬ (fl &&& (1 : Int32)) = (0 : Int32)))), .val (.int (own_b (¬ (fl &&& (2 : Int32)) = (0 : Int32)))), .val (.ref b5), .val (.ref b7), .unset, .unset, .unset, .unset, .unset, .unset, .unset, .unset, .unset] [(.ref dv)]))
    refine own_step (B := T22.setTop (mkF m 89 #[.val (.long id), .second, .val (.long start), .second, .val (.long dur), .second, .val (.long rat), .second, .val (.int refu), .val (.int fl), .val (.int (own_b (¬ (fl &&& (1 : Int32)) = (0 : Int32)))), .val (.int (own_b (¬ (fl &&& (2 : Int32)) = (0 : Int32)))), .val (.ref b5), .val (.ref b7), .val (.ref dv), .unset, .unset, .unset, .unset, .unset, .unset, .unset, .unset] [])) (fun t k => ?_) ?_
    · show Steps p.tables e below (T22.setTop (mkF m 71 #[.val (.long id), .second, .val (.long start), .second, .val (.long dur), .second, .val (.long rat), .second, .val (.int refu), .val (.int fl), .val (.int (own_b (¬ (fl &&& (1 : Int32)) = (0 : Int32)))), .val (.int (own_b (¬ (fl &&& (2 : Int32)) = (0 : Int32)))), .val (.ref b5), .val (.ref b7), .unset, .unset, .unset, .unset, .unset, .unset, .unset, .unset, .unset] [(.ref dv)])) _
      refine XS.goto X22.here hx rfl (pc0 := 71) (pc' := 87) rfl (hb hby at_71) (by decide) (by decide) ?_
      show Steps p.tables e below (T22.setTop (mkF m 87 #[.val (.long id), .second, .val (.long start), .second, .val (.long dur), .second, .val (.long rat), .second, .val (.int refu), .val (.int fl), .val (.int (own_b (¬ (fl &&& (1 : Int32)) = (0 : Int32)))), .val (.int (own_b (¬ (fl &&& (2 : Int32)) = (0 : Int32)))), .val (.ref b5), .val (.ref b7), .unset, .unset, .unset, .unset, .unset, .unset, .unset, .unset, .unset] [(.ref dv)])) _
      refine XS.astore X22.here hx rfl (hb hby at_87) rfl rfl (l' := #[.val (.long id), .second, .val (.long start), .second, .val (.long dur), .second, .val (.long rat), .second, .val (.int refu), .val (.int fl), .val (.int (own_b (¬ (fl &&& (1 : Int32)) = (0 : Int32)))), .val (.int (own_b (¬ (fl &&& (2 : Int32)) = (0 : Int32)))), .val (.ref b5), .val (.ref b7), .val (.ref dv), .unset, .unset, .unset, .unset, .unset, .unset, .unset, .unset]) rfl ?_
      exact k
    obtain ⟨T23, h23, X23, e23, E23, A23, D23, -, st23⟩ := newO X22 hx hZ hown (hw _ (List.mem_of_getElem? (i := 120) rfl)) (hw _ (List.mem_of_getElem? (i := 121) rfl)) (hw _ (List.mem_of_getElem? (i := 122) rfl)) e22 (g := (mkF m 89 #[.val (.long id), .second, .val (.long start), .second, .val (.long dur), .second, .val (.long rat), .second, .val (.int refu), .val (.int fl), .val (.int (own_b (¬ (fl &&& (1 : Int32)) = (0 : Int32)))), .val (.int (own_b (¬ (fl &&& (2 : Int32)) = (0 : Int32)))), .val (.ref b5), .val (.ref b7), .val (.ref dv), .unset, .unset, .unset, .unset, .unset, .unset, .unset, .unset] [])) rfl (hb hby at_89) (by decide) (by decide)
    obtain ⟨b23, g23⟩ : ∃ z, z = T8.heap.size := ⟨_, rfl⟩
    rw [← g23] at A23 D23 st23
    have g_b23 : n0 ≤ b23 := Nat.le_trans (Nat.le_trans (Nat.le_trans (Nat.le_trans (Nat.le_trans Z0 E5.1) K6.1) E7.1) K8.1) (Nat.le_of_eq g23.symm)
    have ne_dv_b23 : dv ≠ b23 := Nat.ne_of_lt (Nat.lt_of_lt_of_le ((((E_D.ext E5).keep K6).ext E7).keep K8).lt (Nat.le_of_eq g23.symm))
    have ne_b5_b23 : b5 ≠ b23 := Nat.ne_of_lt (Nat.lt_of_lt_of_le ((Ex6.ext E7).keep K8).lt (Nat.le_of_eq g23.symm))
    have ne_r_b23 : r ≠ b23 := Nat.ne_of_lt (Nat.lt_of_lt_of_le ((Er6.ext E7).keep K8).lt (Nat.le_of_eq g23.symm))
    have ne_b7_b23 : b7 ≠ b23 := Nat.ne_of_lt (Nat.lt_of_lt_of_le Ex8.lt (Nat.le_of_eq g23.symm))
    have ne_oa_b23 : oa ≠ b23 := Nat.ne_of_lt (Nat.lt_of_lt_of_le Vo8.lt (Nat.le_of_eq g23.symm))
    have F_retryAt_b23 : Fld Z h23 b23 "com/example/lichen/lichen/continuous/Settlement$Outcome" "retryAt" "J" (.long (0 : Int64)) := D23 (Or.inr (hw _ (List.mem_of_getElem? (i := 128) rfl))) (ty := .long) (by decide)
    have F_refusals_b23 : Fld Z h23 b23 "com/example/lichen/lichen/continuous/Settlement$Outcome" "refusals" "I" (.int (0 : Int32)) := D23 (Or.inr (hw _ (List.mem_of_getElem? (i := 130) rfl))) (ty := .int) (by decide)
    have F_sent_b23 : Fld Z h23 b23 "com/example/lichen/lichen/continuous/Settlement$Outcome" "sent" "Z" (.int (0 : Int32)) := D23 (Or.inr (hw _ (List.mem_of_getElem? (i := 132) rfl))) (ty := .boolean) (by decide)
    refine own_step st23 ?_
    show own_Go p e below s _ _ _ (T23.setTop (mkF m 92 #[.val (.long id), .second, .val (.long start), .second, .val (.long dur), .second, .val (.long rat), .second, .val (.int refu), .val (.int fl), .val (.int (own_b (¬ (fl &&& (1 : Int32)) = (0 : Int32)))), .val (.int (own_b (¬ (fl &&& (2 : Int32)) = (0 : Int32)))), .val (.ref b5), .val (.ref b7), .val (.ref dv), .unset, .unset, .unset, .unset, .unset, .unset, .unset, .unset] [(.ref b23)]))
    refine own_step (B := T23.setTop (mkF m 103 #[.val (.long id), .second, .val (.long start), .second, .val (.long dur), .second, .val (.long rat), .second, .val (.int refu), .val (.int fl), .val (.int (own_b (¬ (fl &&& (1 : Int32)) = (0 : Int32)))), .val (.int (own_b (¬ (fl &&& (2 : Int32)) = (0 : Int32)))), .val (.ref b5), .val (.ref b7), .val (.ref dv), .unset, .unset, .unset, .unset, .unset, .unset, .unset, .unset] [(.int (refu + (1 : Int32))), (.long (rat ^^^ (-1 : Int64))), (.ref b23), (.ref b23)])) (fun t k => ?_) ?_
    · show Steps p.tables e below (T23.setTop (mkF m 92 #[.val (.long id), .second, .val (.long start), .second, .val (.long dur), .second, .val (.long rat), .second, .val (.int refu), .val (.int fl), .val (.int (own_b (¬ (fl &&& (1 : Int32)) = (0 : Int32)))), .val (.int (own_b (¬ (fl &&& (2 : Int32)) = (0 : Int32)))), .val (.ref b5), .val (.ref b7), .val (.ref dv), .unset, .unset, .unset, .unset, .unset, .unset, .unset, .unset] [(.ref b23)])) _
      refine XS.dup X23.here hx rfl (hb hby at_92) rfl rfl ?_
      show Steps p.tables e below (T23.setTop (mkF m 93 #[.val (.long id), .second, .val (.long start), .second, .val (.long dur), .second, .val (.long rat), .second, .val (.int refu), .val (.int fl), .val (.int (own_b (¬ (fl &&& (1 : Int32)) = (0 : Int32)))), .val (.int (own_b (¬ (fl &&& (2 : Int32)) = (0 : Int32)))), .val (.ref b5), .val (.ref b7), .val (.ref dv), .unset, .unset, .unset, .unset, .unset, .unset, .unset, .unset] [(.ref b23), (.ref b23)])) _
      refine XS.lload X23.here hx rfl (hb hby at_93) rfl ?_
      show Steps p.tables e below (T23.setTop (mkF m 95 #[.val (.long id), .second, .val (.long start), .second, .val (.long dur), .second, .val (.long rat), .second, .val (.int refu), .val (.int fl), .val (.int (own_b (¬ (fl &&& (1 : Int32)) = (0 : Int32)))), .val (.int (own_b (¬ (fl &&& (2 : Int32)) = (0 : Int32)))), .val (.ref b5), .val (.ref b7), .val (.ref dv), .unset, .unset, .unset, .unset, .unset, .unset, .unset, .unset] [(.long rat), (.ref b23), (.ref b23)])) _
      refine X23.ldc2Long hx hown (mvT hZ (hw _ (List.mem_of_getElem? (i := 133) rfl))) (g := (mkF m 95 #[.val (.long id), .second, .val (.long start), .second, .val (.long dur), .second, .val (.long rat), .second, .val (.int refu), .val (.int fl), .val (.int (own_b (¬ (fl &&& (1 : Int32)) = (0 : Int32)))), .val (.int (own_b (¬ (fl &&& (2 : Int32)) = (0 : Int32)))), .val (.ref b5), .val (.ref b7), .val (.ref dv), .unset, .unset, .unset, .unset, .unset, .unset, .unset, .unset] [(.long rat), (.ref b23), (.ref b23)])) rfl (hb hby at_95) _ ?_
      show Steps p.tables e below (T23.setTop (mkF m 98 #[.val (.long id), .second, .val (.long start), .second, .val (.long dur), .second, .val (.long rat), .second, .val (.int refu), .val (.int fl), .val (.int (own_b (¬ (fl &&& (1 : Int32)) = (0 : Int32)))), .val (.int (own_b (¬ (fl &&& (2 : Int32)) = (0 : Int32)))), .val (.ref b5), .val (.ref b7), .val (.ref dv), .unset, .unset, .unset, .unset, .unset, .unset, .unset, .unset] [(.long (-1 : Int64)), (.long rat), (.ref b23), (.ref b23)])) _
      refine XS.lxor X23.here hx rfl (hb hby at_98) rfl ?_
      show Steps p.tables e below (T23.setTop (mkF m 99 #[.val (.long id), .second, .val (.long start), .second, .val (.long dur), .second, .val (.long rat), .second, .val (.int refu), .val (.int fl), .val (.int (own_b (¬ (fl &&& (1 : Int32)) = (0 : Int32)))), .val (.int (own_b (¬ (fl &&& (2 : Int32)) = (0 : Int32)))), .val (.ref b5), .val (.ref b7), .val (.ref dv), .unset, .unset, .unset, .unset, .unset, .unset, .unset, .unset] [(.long (rat ^^^ (-1 : Int64))), (.ref b23), (.ref b23)])) _
      refine XS.iload X23.here hx rfl (hb hby at_99) rfl ?_
      show Steps p.tables e below (T23.setTop (mkF m 101 #[.val (.long id), .second, .val (.long start), .second, .val (.long dur), .second, .val (.long rat), .second, .val (.int refu), .val (.int fl), .val (.int (own_b (¬ (fl &&& (1 : Int32)) = (0 : Int32)))), .val (.int (own_b (¬ (fl &&& (2 : Int32)) = (0 : Int32)))), .val (.ref b5), .val (.ref b7), .val (.ref dv), .unset, .unset, .unset, .unset, .unset, .unset, .unset, .unset] [(.int refu), (.long (rat ^^^ (-1 : Int64))), (.ref b23), (.ref b23)])) _
      refine XS.iconst X23.here hx rfl (hb hby at_101) ?_
      show Steps p.tables e below (T23.setTop (mkF m 102 #[.val (.long id), .second, .val (.long start), .second, .val (.long dur), .second, .val (.long rat), .second, .val (.int refu), .val (.int fl), .val (.int (own_b (¬ (fl &&& (1 : Int32)) = (0 : Int32)))), .val (.int (own_b (¬ (fl &&& (2 : Int32)) = (0 : Int32)))), .val (.ref b5), .val (.ref b7), .val (.ref dv), .unset, .unset, .unset, .unset, .unset, .unset, .unset, .unset] [(.int (1 : Int32)), (.int refu), (.long (rat ^^^ (-1 : Int64))), (.ref b23), (.ref b23)])) _
      refine XS.iadd X23.here hx rfl (hb hby at_102) rfl ?_
      exact k
    refine own_step (B := T23.setTop (mkF m 113 #[.val (.long id), .second, .val (.long start), .second, .val (.long dur), .second, .val (.long rat), .second, .val (.int refu), .val (.int fl), .val (.int (own_b (¬ (fl &&& (1 : Int32)) = (0 : Int32)))), .val (.int (own_b (¬ (fl &&& (2 : Int32)) = (0 : Int32)))), .val (.ref b5), .val (.ref b7), .val (.ref dv), .unset, .unset, .unset, .unset, .unset, .unset, .unset, .unset] [(.int (own_b ((own_b (¬ (fl &&& (1 : Int32)) = (0 : Int32))) = (0 : Int32)))), (.int (refu + (1 : Int32))), (.long (rat ^^^ (-1 : Int64))), (.ref b23), (.ref b23)])) (fun t k => ?_) ?_
    · show Steps p.tables e below (T23.setTop (mkF m 103 #[.val (.long id), .second, .val (.long start), .second, .val (.long dur), .second, .val (.long rat), .second, .val (.int refu), .val (.int fl), .val (.int (own_b (¬ (fl &&& (1 : Int32)) = (0 : Int32)))), .val (.int (own_b (¬ (fl &&& (2 : Int32)) = (0 : Int32)))), .val (.ref b5), .val (.ref b7), .val (.ref dv), .unset, .unset, .unset, .unset, .unset, .unset, .unset, .unset] [(.int (refu + (1 : Int32))), (.long (rat ^^^ (-1 : Int64))), (.ref b23), (.ref b23)])) _
      refine XS.iload X23.here hx rfl (hb hby at_103) rfl ?_
      by_cases hc105 : (own_b (¬ (fl &&& (1 : Int32)) = (0 : Int32))) = (0 : Int32)
      · show Steps p.tables e below (T23.setTop (mkF m 105 #[.val (.long id), .second, .val (.long start), .second, .val (.long dur), .second, .val (.long rat), .second, .val (.int refu), .val (.int fl), .val (.int (own_b (¬ (fl &&& (1 : Int32)) = (0 : Int32)))), .val (.int (own_b (¬ (fl &&& (2 : Int32)) = (0 : Int32)))), .val (.ref b5), .val (.ref b7), .val (.ref dv), .unset, .unset, .unset, .unset, .unset, .unset, .unset, .unset] [(.int (own_b (¬ (fl &&& (1 : Int32)) = (0 : Int32)))), (.int (refu + (1 : Int32))), (.long (rat ^^^ (-1 : Int64))), (.ref b23), (.ref b23)])) _
        refine XS.ifNo X23.here hx rfl (hb hby at_105) rfl ((if0 _ _).trans (teq hc105).2) ?_
        show Steps p.tables e below (T23.setTop (mkF m 108 #[.val (.long id), .second, .val (.long start), .second, .val (.long dur), .second, .val (.long rat), .second, .val (.int refu), .val (.int fl), .val (.int (own_b (¬ (fl &&& (1 : Int32)) = (0 : Int32)))), .val (.int (own_b (¬ (fl &&& (2 : Int32)) = (0 : Int32)))), .val (.ref b5), .val (.ref b7), .val (.ref dv), .unset, .unset, .unset, .unset, .unset, .unset, .unset, .unset] [(.int (refu + (1 : Int32))), (.long (rat ^^^ (-1 : Int64))), (.ref b23), (.ref b23)])) _
        refine XS.iconst X23.here hx rfl (hb hby at_108) ?_
        show Steps p.tables e below (T23.setTop (mkF m 109 #[.val (.long id), .second, .val (.long start), .second, .val (.long dur), .second, .val (.long rat), .second, .val (.int refu), .val (.int fl), .val (.int (own_b (¬ (fl &&& (1 : Int32)) = (0 : Int32)))), .val (.int (own_b (¬ (fl &&& (2 : Int32)) = (0 : Int32)))), .val (.ref b5), .val (.ref b7), .val (.ref dv), .unset, .unset, .unset, .unset, .unset, .unset, .unset, .unset] [(.int (1 : Int32)), (.int (refu + (1 : Int32))), (.long (rat ^^^ (-1 : Int64))), (.ref b23), (.ref b23)])) _
        refine XS.goto X23.here hx rfl (pc0 := 109) (pc' := 113) rfl (hb hby at_109) (by decide) (by decide) ?_
        show Steps p.tables e below (T23.setTop (mkF m 113 #[.val (.long id), .second, .val (.long start), .second, .val (.long dur), .second, .val (.long rat), .second, .val (.int refu), .val (.int fl), .val (.int (own_b (¬ (fl &&& (1 : Int32)) = (0 : Int32)))), .val (.int (own_b (¬ (fl &&& (2 : Int32)) = (0 : Int32)))), .val (.ref b5), .val (.ref b7), .val (.ref dv), .unset, .unset, .unset, .unset, .unset, .unset, .unset, .unset] [(.int (1 : Int32)), (.int (refu + (1 : Int32))), (.long (rat ^^^ (-1 : Int64))), (.ref b23), (.ref b23)])) _
        have q24 : (own_b ((own_b (¬ (fl &&& (1 : Int32)) = (0 : Int32))) = (0 : Int32))) = (1 : Int32) := by first | exact own_bt hc105 | exact own_bf hc105
        rw [q24] at k
        exact k
      · show Steps p.tables e below (T23.setTop (mkF m 105 #[.val (.long id), .second, .val (.long start), .second, .val (.long dur), .second, .val (.long rat), .second, .val (.int refu), .val (.int fl), .val (.int (own_b (¬ (fl &&& (1 : Int32)) = (0 : Int32)))), .val (.int (own_b (¬ (fl &&& (2 : Int32)) = (0 : Int32)))), .val (.ref b5), .val (.ref b7), .val (.ref dv), .unset, .unset, .unset, .unset, .unset, .unset, .unset, .unset] [(.int (own_b (¬ (fl &&& (1 : Int32)) = (0 : Int32)))), (.int (refu + (1 : Int32))), (.long (rat ^^^ (-1 : Int64))), (.ref b23), (.ref b23)])) _
        refine XS.ifYes X23.here hx rfl (pc0 := 105) (pc' := 112) rfl (hb hby at_105) rfl ((if0 _ _).trans (feq hc105).2) (by decide) (by decide) ?_
        show Steps p.tables e below (T23.setTop (mkF m 112 #[.val (.long id), .second, .val (.long start), .second, .val (.long dur), .second, .val (.long rat), .second, .val (.int refu), .val (.int fl), .val (.int (own_b (¬ (fl &&& (1 : Int32)) = (0 : Int32)))), .val (.int (own_b (¬ (fl &&& (2 : Int32)) = (0 : Int32)))), .val (.ref b5), .val (.ref b7), .val (.ref dv), .unset, .unset, .unset, .unset, .unset, .unset, .unset, .unset] [(.int (refu + (1 : Int32))), (.long (rat ^^^ (-1 : Int64))), (.ref b23), (.ref b23)])) _
        refine XS.iconst X23.here hx rfl (hb hby at_112) ?_
        show Steps p.tables e below (T23.setTop (mkF m 113 #[.val (.long id), .second, .val (.long start), .second, .val (.long dur), .second, .val (.long rat), .second, .val (.int refu), .val (.int fl), .val (.int (own_b (¬ (fl &&& (1 : Int32)) = (0 : Int32)))), .val (.int (own_b (¬ (fl &&& (2 : Int32)) = (0 : Int32)))), .val (.ref b5), .val (.ref b7), .val (.ref dv), .unset, .unset, .unset, .unset, .unset, .unset, .unset, .unset] [(.int (0 : Int32)), (.int (refu + (1 : Int32))), (.long (rat ^^^ (-1 : Int64))), (.ref b23), (.ref b23)])) _
        have q25 : (own_b ((own_b (¬ (fl &&& (1 : Int32)) = (0 : Int32))) = (0 : Int32))) = (0 : Int32) := by first | exact own_bt hc105 | exact own_bf hc105
        rw [q25] at k
        exact k
    obtain ⟨_, _, ⟨T26, L26, k26, n26⟩, -, X26, ⟨Lc26, hQ26, l26, y26, z26⟩, st26⟩ := X23.specialBack hx (y := (⟨"com/example/lichen/lichen/continuous/Settlement$Outcome", "<init>", "(JIZ)V"⟩ : MethodName)) rfl hown (mvT hZ (hw _ (List.mem_of_getElem? (i := 123) rfl))) (mvT hZ (hw _ (List.mem_of_getElem? (i := 124) rfl))) (mvT hZ (hw _ (List.mem_of_getElem? (i := 125) rfl))) (by decide) (backOf (W := 1) (rm14 l Z a0 hw [] b23 (rat ^^^ (-1 : Int64)) (refu + (1 : Int32)) (own_b ((own_b (¬ (fl &&& (1 : Int32)) = (0 : Int32))) = (0 : Int32))) _ _ _ h23 n0 (Nat.le_trans (Nat.le_trans (Nat.le_trans (Nat.le_trans (Nat.le_trans Z0 E5.1) K6.1) E7.1) K8.1) E23.1) A23 F_retryAt_b23 F_refusals_b23 F_sent_b23 g_b23 (own_bn ((own_b (¬ (fl &&& (1 : Int32)) = (0 : Int32))) = (0 : Int32))) (own_bfit ((own_b (¬ (fl &&& (1 : Int32)) = (0 : Int32))) = (0 : Int32)))) hZ (hw _ (List.mem_of_getElem? (i := 125) rfl)) (hw _ (List.mem_of_getElem? (i := 122) rfl)) (by decide) (by decide)) (g := (mkF m 113 #[.val (.long id), .second, .val (.long start), .second, .val (.long dur), .second, .val (.long rat), .second, .val (.int refu), .val (.int fl), .val (.int (own_b (¬ (fl &&& (1 : Int32)) = (0 : Int32)))), .val (.int (own_b (¬ (fl &&& (2 : Int32)) = (0 : Int32)))), .val (.ref b5), .val (.ref b7), .val (.ref dv), .unset, .unset, .unset, .unset, .unset, .unset, .unset, .unset] [(.int (own_b ((own_b (¬ (fl &&& (1 : Int32)) = (0 : Int32))) = (0 : Int32)))), (.int (refu + (1 : Int32))), (.long (rat ^^^ (-1 : Int64))), (.ref b23), (.ref b23)])) rfl (by rw [hml]; rfl) (Steps.refl _) (a := b23) (argsL := [(.long (rat ^^^ (-1 : Int64))), (.int (refu + (1 : Int32))), (.int (own_b ((own_b (¬ (fl &&& (1 : Int32)) = (0 : Int32))) = (0 : Int32))))]) (rest := [(.ref b23)]) (lenOf pd_19 rfl) rfl (by show 2 * 0 + _ ≤ _; exact Nat.le_of_eq rfl) (hb hby at_113) (fun _ _ => ⟨rfl, e23, (by decide : 7 + 0 ≤ _), (by decide : 26 + 0 ≤ _)⟩)
    dsimp only [Pt.U, Pt.locs, Pt.cells, Pt.slots] at X26 l26 y26 z26 st26 hQ26
    subst l26 y26 z26
    obtain ⟨rfl, N26q, K26, Ex26, Fx26_0, Fx26_1, Fx26_2⟩ := hQ26
    have N26 := Fr.app N8 N26q
    refine own_via st26 ?_
    show own_Go p e below s _ _ _ (T26.setTop (mkF m 116 #[.val (.long id), .second, .val (.long start), .second, .val (.long dur), .second, .val (.long rat), .second, .val (.int refu), .val (.int fl), .val (.int (own_b (¬ (fl &&& (1 : Int32)) = (0 : Int32)))), .val (.int (own_b (¬ (fl &&& (2 : Int32)) = (0 : Int32)))), .val (.ref b5), .val (.ref b7), .val (.ref dv), .unset, .unset, .unset, .unset, .unset, .unset, .unset, .unset] [(.ref b23)]))
    refine own_step (B := T26.setTop (mkF m 121 #[.val (.long id), .second, .val (.long start), .second, .val (.long dur), .second, .val (.long rat), .second, .val (.int refu), .val (.int fl), .val (.int (own_b (¬ (fl &&& (1 : Int32)) = (0 : Int32)))), .val (.int (own_b (¬ (fl &&& (2 : Int32)) = (0 : Int32)))), .val (.ref b5), .val (.ref b7), .val (.ref dv), .val (.ref b23), .unset, .unset, .unset, .unset, .unset, .unset, .unset] [(.int (0 : Int32)), (.ref b7)])) (fun t k => ?_) ?_
    · show Steps p.tables e below (T26.setTop (mkF m 116 #[.val (.long id), .second, .val (.long start), .second, .val (.long dur), .second, .val (.long rat), .second, .val (.int refu), .val (.int fl), .val (.int (own_b (¬ (fl &&& (1 : Int32)) = (0 : Int32)))), .val (.int (own_b (¬ (fl &&& (2 : Int32)) = (0 : Int32)))), .val (.ref b5), .val (.ref b7), .val (.ref dv), .unset, .unset, .unset, .unset, .unset, .unset, .unset, .unset] [(.ref b23)])) _
      refine XS.astore X26.here hx rfl (hb hby at_116) rfl rfl (l' := #[.val (.long id), .second, .val (.long start), .second, .val (.long dur), .second, .val (.long rat), .second, .val (.int refu), .val (.int fl), .val (.int (own_b (¬ (fl &&& (1 : Int32)) = (0 : Int32)))), .val (.int (own_b (¬ (fl &&& (2 : Int32)) = (0 : Int32)))), .val (.ref b5), .val (.ref b7), .val (.ref dv), .val (.ref b23), .unset, .unset, .unset, .unset, .unset, .unset, .unset]) rfl ?_
      show Steps p.tables e below (T26.setTop (mkF m 118 #[.val (.long id), .second, .val (.long start), .second, .val (.long dur), .second, .val (.long rat), .second, .val (.int refu), .val (.int fl), .val (.int (own_b (¬ (fl &&& (1 : Int32)) = (0 : Int32)))), .val (.int (own_b (¬ (fl &&& (2 : Int32)) = (0 : Int32)))), .val (.ref b5), .val (.ref b7), .val (.ref dv), .val (.ref b23), .unset, .unset, .unset, .unset, .unset, .unset, .unset] [])) _
      refine XS.aload X26.here hx rfl (hb hby at_118) rfl rfl ?_
      show Steps p.tables e below (T26.setTop (mkF m 120 #[.val (.long id), .second, .val (.long start), .second, .val (.long dur), .second, .val (.long rat), .second, .val (.int refu), .val (.int fl), .val (.int (own_b (¬ (fl &&& (1 : Int32)) = (0 : Int32)))), .val (.int (own_b (¬ (fl &&& (2 : Int32)) = (0 : Int32)))), .val (.ref b5), .val (.ref b7), .val (.ref dv), .val (.ref b23), .unset, .unset, .unset, .unset, .unset, .unset, .unset] [(.ref b7)])) _
      refine XS.iconst X26.here hx rfl (hb hby at_120) ?_
      exact k
    obtain ⟨cq27, kq27, q27a, q27b, q27c⟩ := isOf hZ rfl ((Ex8.ext E23).keep K26)
    obtain ⟨_, _, ⟨T27, L27, k27, n27⟩, -, X27, ⟨Lc27, hQ27, l27, y27, z27⟩, st27⟩ := X26.virtualBack hx (y := (⟨"com/example/lichen/lichen/continuous/TakenSpan", "outcome", "(I)Lcom/example/lichen/lichen/continuous/Settlement$Outcome;"⟩ : MethodName)) (z := (⟨"com/example/lichen/lichen/continuous/TakenSpan", "outcome", "(I)Lcom/example/lichen/lichen/continuous/Settlement$Outcome;"⟩ : MethodName)) hown (mvT hZ (hw _ (List.mem_of_getElem? (i := 134) rfl))) (mvT hZ (hw _ (List.mem_of_getElem? (i := 135) rfl))) (notFace_of_selects (args := #[]) (mvT hZ (hw _ (List.mem_of_getElem? (i := 137) rfl)))) (mvT hZ (hw _ (List.mem_of_getElem? (i := 137) rfl))) (mvT hZ (hw _ (List.mem_of_getElem? (i := 136) rfl))) (by decide) (backOf (W := 0) (rm15 l Z a0 hw [] b7 (0 : Int32) oa k .null T26.heap n0 (Nat.le_trans (Nat.le_trans (Nat.le_trans (Nat.le_trans (Nat.le_trans (Nat.le_trans Z0 E5.1) K6.1) E7.1) K8.1) E23.1) K26.1) ((Fo8.ext E23).keep K26 (ninS ne_b7_b23 nin0)) ((Vo8.ext E23).keep K26 (ninS ne_oa_b23 nin0)) rfl rfl) hZ (hw _ (List.mem_of_getElem? (i := 138) rfl)) (hw _ (List.mem_of_getElem? (i := 78) rfl)) (by decide) (by decide)) q27a q27c (g := (mkF m 121 #[.val (.long id), .second, .val (.long start), .second, .val (.long dur), .second, .val (.long rat), .second, .val (.int refu), .val (.int fl), .val (.int (own_b (¬ (fl &&& (1 : Int32)) = (0 : Int32)))), .val (.int (own_b (¬ (fl &&& (2 : Int32)) = (0 : Int32)))), .val (.ref b5), .val (.ref b7), .val (.ref dv), .val (.ref b23), .unset, .unset, .unset, .unset, .unset, .unset, .unset] [(.int (0 : Int32)), (.ref b7)])) rfl (by rw [hml]; rfl) (Steps.refl _) (argsL := [(.int (0 : Int32))]) (rest := []) (lenOf pd_20 rfl) rfl (by show 2 * 0 + _ ≤ _; exact Nat.le_of_eq rfl) (hb hby at_121) (fun _ _ => ⟨rfl, rfl, (by decide : 7 + 0 ≤ _), (by decide : 26 + 0 ≤ _)⟩)
    dsimp only [Pt.U, Pt.locs, Pt.cells, Pt.slots] at X27 l27 y27 z27 st27 hQ27
    subst l27 y27 z27
    obtain ⟨rfl, N27q, e27⟩ := hQ27
    have N27 := Fr.app N26 N27q
    refine own_via st27 ?_
    show own_Go p e below s _ _ _ (T27.setTop (mkF m 124 #[.val (.long id), .second, .val (.long start), .second, .val (.long dur), .second, .val (.long rat), .second, .val (.int refu), .val (.int fl), .val (.int (own_b (¬ (fl &&& (1 : Int32)) = (0 : Int32)))), .val (.int (own_b (¬ (fl &&& (2 : Int32)) = (0 : Int32)))), .val (.ref b5), .val (.ref b7), .val (.ref dv), .val (.ref b23), .unset, .unset, .unset, .unset, .unset, .unset, .unset] [.null]))
    refine own_step (B := T27.setTop (mkF m 139 #[.val (.long id), .second, .val (.long start), .second, .val (.long dur), .second, .val (.long rat), .second, .val (.int refu), .val (.int fl), .val (.int (own_b (¬ (fl &&& (1 : Int32)) = (0 : Int32)))), .val (.int (own_b (¬ (fl &&& (2 : Int32)) = (0 : Int32)))), .val (.ref b5), .val (.ref b7), .val (.ref dv), .val (.ref b23), .val (.int (1 : Int32)), .unset, .unset, .unset, .unset, .unset, .unset] [(.ref dv), (.int (0 : Int32)), (.ref b7)])) (fun t k => ?_) ?_
    · show Steps p.tables e below (T27.setTop (mkF m 124 #[.val (.long id), .second, .val (.long start), .second, .val (.long dur), .second, .val (.long rat), .second, .val (.int refu), .val (.int fl), .val (.int (own_b (¬ (fl &&& (1 : Int32)) = (0 : Int32)))), .val (.int (own_b (¬ (fl &&& (2 : Int32)) = (0 : Int32)))), .val (.ref b5), .val (.ref b7), .val (.ref dv), .val (.ref b23), .unset, .unset, .unset, .unset, .unset, .unset, .unset] [.null])) _
      refine XS.ifnonnullNo X27.here hx rfl (hb hby at_124) rfl ?_
      show Steps p.tables e below (T27.setTop (mkF m 127 #[.val (.long id), .second, .val (.long start), .second, .val (.long dur), .second, .val (.long rat), .second, .val (.int refu), .val (.int fl), .val (.int (own_b (¬ (fl &&& (1 : Int32)) = (0 : Int32)))), .val (.int (own_b (¬ (fl &&& (2 : Int32)) = (0 : Int32)))), .val (.ref b5), .val (.ref b7), .val (.ref dv), .val (.ref b23), .unset, .unset, .unset, .unset, .unset, .unset, .unset] [])) _
      refine XS.iconst X27.here hx rfl (hb hby at_127) ?_
      show Steps p.tables e below (T27.setTop (mkF m 128 #[.val (.long id), .second, .val (.long start), .second, .val (.long dur), .second, .val (.long rat), .second, .val (.int refu), .val (.int fl), .val (.int (own_b (¬ (fl &&& (1 : Int32)) = (0 : Int32)))), .val (.int (own_b (¬ (fl &&& (2 : Int32)) = (0 : Int32)))), .val (.ref b5), .val (.ref b7), .val (.ref dv), .val (.ref b23), .unset, .unset, .unset, .unset, .unset, .unset, .unset] [(.int (1 : Int32))])) _
      refine XS.goto X27.here hx rfl (pc0 := 128) (pc' := 132) rfl (hb hby at_128) (by decide) (by decide) ?_
      show Steps p.tables e below (T27.setTop (mkF m 132 #[.val (.long id), .second, .val (.long start), .second, .val (.long dur), .second, .val (.long rat), .second, .val (.int refu), .val (.int fl), .val (.int (own_b (¬ (fl &&& (1 : Int32)) = (0 : Int32)))), .val (.int (own_b (¬ (fl &&& (2 : Int32)) = (0 : Int32)))), .val (.ref b5), .val (.ref b7), .val (.ref dv), .val (.ref b23), .unset, .unset, .unset, .unset, .unset, .unset, .unset] [(.int (1 : Int32))])) _
      refine XS.istore X27.here hx rfl (hb hby at_132) rfl (l' := #[.val (.long id), .second, .val (.long start), .second, .val (.long dur), .second, .val (.long rat), .second, .val (.int refu), .val (.int fl), .val (.int (own_b (¬ (fl &&& (1 : Int32)) = (0 : Int32)))), .val (.int (own_b (¬ (fl &&& (2 : Int32)) = (0 : Int32)))), .val (.ref b5), .val (.ref b7), .val (.ref dv), .val (.ref b23), .val (.int (1 : Int32)), .unset, .unset, .unset, .unset, .unset, .unset]) rfl ?_
      show Steps p.tables e below (T27.setTop (mkF m 134 #[.val (.long id), .second, .val (.long start), .second, .val (.long dur), .second, .val (.long rat), .second, .val (.int refu), .val (.int fl), .val (.int (own_b (¬ (fl &&& (1 : Int32)) = (0 : Int32)))), .val (.int (own_b (¬ (fl &&& (2 : Int32)) = (0 : Int32)))), .val (.ref b5), .val (.ref b7), .val (.ref dv), .val (.ref b23), .val (.int (1 : Int32)), .unset, .unset, .unset, .unset, .unset, .unset] [])) _
      refine XS.aload X27.here hx rfl (hb hby at_134) rfl rfl ?_
      show Steps p.tables e below (T27.setTop (mkF m 136 #[.val (.long id), .second, .val (.long start), .second, .val (.long dur), .second, .val (.long rat), .second, .val (.int refu), .val (.int fl), .val (.int (own_b (¬ (fl &&& (1 : Int32)) = (0 : Int32)))), .val (.int (own_b (¬ (fl &&& (2 : Int32)) = (0 : Int32)))), .val (.ref b5), .val (.ref b7), .val (.ref dv), .val (.ref b23), .val (.int (1 : Int32)), .unset, .unset, .unset, .unset, .unset, .unset] [(.ref b7)])) _
      refine XS.iconst X27.here hx rfl (hb hby at_136) ?_
      show Steps p.tables e below (T27.setTop (mkF m 137 #[.val (.long id), .second, .val (.long start), .second, .val (.long dur), .second, .val (.long rat), .second, .val (.int refu), .val (.int fl), .val (.int (own_b (¬ (fl &&& (1 : Int32)) = (0 : Int32)))), .val (.int (own_b (¬ (fl &&& (2 : Int32)) = (0 : Int32)))), .val (.ref b5), .val (.ref b7), .val (.ref dv), .val (.ref b23), .val (.int (1 : Int32)), .unset, .unset, .unset, .unset, .unset, .unset] [(.int (0 : Int32)), (.ref b7)])) _
      refine XS.aload X27.here hx rfl (hb hby at_137) rfl rfl ?_
      exact k
    obtain ⟨cq28, kq28, q28a, q28b, q28c⟩ := isOf hZ e27 ((Ex8.ext E23).keep K26)
    obtain ⟨_, _, ⟨T28, L28, k28, n28⟩, -, X28, ⟨Lc28, hQ28, l28, y28, z28⟩, st28⟩ := X27.virtualBack hx (y := (⟨"com/example/lichen/lichen/continuous/TakenSpan", "settle", "(ILcom/example/lichen/lichen/continuous/Settlement$Outcome;)Z"⟩ : MethodName)) (z := (⟨"com/example/lichen/lichen/continuous/TakenSpan", "settle", "(ILcom/example/lichen/lichen/continuous/Settlement$Outcome;)Z"⟩ : MethodName)) hown (mvT hZ (hw _ (List.mem_of_getElem? (i := 139) rfl))) (mvT hZ (hw _ (List.mem_of_getElem? (i := 140) rfl))) (notFace_of_selects (args := #[]) (mvT hZ (hw _ (List.mem_of_getElem? (i := 142) rfl)))) (mvT hZ (hw _ (List.mem_of_getElem? (i := 142) rfl))) (mvT hZ (hw _ (List.mem_of_getElem? (i := 141) rfl))) (by decide) (backOf (W := 0) (rm16 l Z a0 hw [] b7 (0 : Int32) dv oa k .null (0 : Int32) T26.heap n0 (Nat.le_trans (Nat.le_trans (Nat.le_trans (Nat.le_trans (Nat.le_trans (Nat.le_trans Z0 E5.1) K6.1) E7.1) K8.1) E23.1) K26.1) ((Ex8.ext E23).keep K26) ((Fo8.ext E23).keep K26 (ninS ne_b7_b23 nin0)) ((Vo8.ext E23).keep K26 (ninS ne_oa_b23 nin0)) Ok ((((((E_D.ext E5).keep K6).ext E7).keep K8).ext E23).keep K26) ((Fs8.ext E23).keep K26 (ninS ne_b7_b23 nin0)) g_b7 g_oa ne_b7_oa rfl) hZ (hw _ (List.mem_of_getElem? (i := 143) rfl)) (hw _ (List.mem_of_getElem? (i := 78) rfl)) (by decide) (by decide)) q28a q28c (g := (mkF m 139 #[.val (.long id), .second, .val (.long start), .second, .val (.long dur), .second, .val (.long rat), .second, .val (.int refu), .val (.int fl), .val (.int (own_b (¬ (fl &&& (1 : Int32)) = (0 : Int32)))), .val (.int (own_b (¬ (fl &&& (2 : Int32)) = (0 : Int32)))), .val (.ref b5), .val (.ref b7), .val (.ref dv), .val (.ref b23), .val (.int (1 : Int32)), .unset, .unset, .unset, .unset, .unset, .unset] [(.ref dv), (.int (0 : Int32)), (.ref b7)])) rfl (by rw [hml]; rfl) (Steps.refl _) (argsL := [(.int (0 : Int32)), (.ref dv)]) (rest := []) (lenOf pd_21 rfl) rfl (by show 2 * 0 + _ ≤ _; exact Nat.le_of_eq rfl) (hb hby at_139) (fun _ _ => ⟨rfl, e27, (by decide : 7 + 0 ≤ _), (by decide : 26 + 0 ≤ _)⟩)
    dsimp only [Pt.U, Pt.locs, Pt.cells, Pt.slots] at X28 l28 y28 z28 st28 hQ28
    subst l28 y28 z28
    obtain ⟨rfl, N28q, K28, Ex28, Fo28, Vo28, Fs28⟩ := hQ28
    have N28 := Fr.app N27 N28q
    refine own_via st28 ?_
    show own_Go p e below s _ _ _ (T28.setTop (mkF m 142 #[.val (.long id), .second, .val (.long start), .second, .val (.long dur), .second, .val (.long rat), .second, .val (.int refu), .val (.int fl), .val (.int (own_b (¬ (fl &&& (1 : Int32)) = (0 : Int32)))), .val (.int (own_b (¬ (fl &&& (2 : Int32)) = (0 : Int32)))), .val (.ref b5), .val (.ref b7), .val (.ref dv), .val (.ref b23), .val (.int (1 : Int32)), .unset, .unset, .unset, .unset, .unset, .unset] [(.int (own_b ((0 : Int32) = (0 : Int32))))]))
    refine own_step (B := T28.setTop (mkF m 147 #[.val (.long id), .second, .val (.long start), .second, .val (.long dur), .second, .val (.long rat), .second, .val (.int refu), .val (.int fl), .val (.int (own_b (¬ (fl &&& (1 : Int32)) = (0 : Int32)))), .val (.int (own_b (¬ (fl &&& (2 : Int32)) = (0 : Int32)))), .val (.ref b5), .val (.ref b7), .val (.ref dv), .val (.ref b23), .val (.int (1 : Int32)), .val (.int (own_b ((0 : Int32) = (0 : Int32)))), .unset, .unset, .unset, .unset, .unset] [(.int (0 : Int32)), (.ref b7)])) (fun t k => ?_) ?_
    · show Steps p.tables e below (T28.setTop (mkF m 142 #[.val (.long id), .second, .val (.long start), .second, .val (.long dur), .second, .val (.long rat), .second, .val (.int refu), .val (.int fl), .val (.int (own_b (¬ (fl &&& (1 : Int32)) = (0 : Int32)))), .val (.int (own_b (¬ (fl &&& (2 : Int32)) = (0 : Int32)))), .val (.ref b5), .val (.ref b7), .val (.ref dv), .val (.ref b23), .val (.int (1 : Int32)), .unset, .unset, .unset, .unset, .unset, .unset] [(.int (own_b ((0 : Int32) = (0 : Int32))))])) _
      refine XS.istore X28.here hx rfl (hb hby at_142) rfl (l' := #[.val (.long id), .second, .val (.long start), .second, .val (.long dur), .second, .val (.long rat), .second, .val (.int refu), .val (.int fl), .val (.int (own_b (¬ (fl &&& (1 : Int32)) = (0 : Int32)))), .val (.int (own_b (¬ (fl &&& (2 : Int32)) = (0 : Int32)))), .val (.ref b5), .val (.ref b7), .val (.ref dv), .val (.ref b23), .val (.int (1 : Int32)), .val (.int (own_b ((0 : Int32) = (0 : Int32)))), .unset, .unset, .unset, .unset, .unset]) rfl ?_
      show Steps p.tables e below (T28.setTop (mkF m 144 #[.val (.long id), .second, .val (.long start), .second, .val (.long dur), .second, .val (.long rat), .second, .val (.int refu), .val (.int fl), .val (.int (own_b (¬ (fl &&& (1 : Int32)) = (0 : Int32)))), .val (.int (own_b (¬ (fl &&& (2 : Int32)) = (0 : Int32)))), .val (.ref b5), .val (.ref b7), .val (.ref dv), .val (.ref b23), .val (.int (1 : Int32)), .val (.int (own_b ((0 : Int32) = (0 : Int32)))), .unset, .unset, .unset, .unset, .unset] [])) _
      refine XS.aload X28.here hx rfl (hb hby at_144) rfl rfl ?_
      show Steps p.tables e below (T28.setTop (mkF m 146 #[.val (.long id), .second, .val (.long start), .second, .val (.long dur), .second, .val (.long rat), .second, .val (.int refu), .val (.int fl), .val (.int (own_b (¬ (fl &&& (1 : Int32)) = (0 : Int32)))), .val (.int (own_b (¬ (fl &&& (2 : Int32)) = (0 : Int32)))), .val (.ref b5), .val (.ref b7), .val (.ref dv), .val (.ref b23), .val (.int (1 : Int32)), .val (.int (own_b ((0 : Int32) = (0 : Int32)))), .unset, .unset, .unset, .unset, .unset] [(.ref b7)])) _
      refine XS.iconst X28.here hx rfl (hb hby at_146) ?_
      exact k
    obtain ⟨cq29, kq29, q29a, q29b, q29c⟩ := isOf hZ rfl Ex28
    obtain ⟨_, _, ⟨T29, L29, k29, n29⟩, -, X29, ⟨Lc29, hQ29, l29, y29, z29⟩, st29⟩ := X28.virtualBack hx (y := (⟨"com/example/lichen/lichen/continuous/TakenSpan", "outcome", "(I)Lcom/example/lichen/lichen/continuous/Settlement$Outcome;"⟩ : MethodName)) (z := (⟨"com/example/lichen/lichen/continuous/TakenSpan", "outcome", "(I)Lcom/example/lichen/lichen/continuous/Settlement$Outcome;"⟩ : MethodName)) hown (mvT hZ (hw _ (List.mem_of_getElem? (i := 134) rfl))) (mvT hZ (hw _ (List.mem_of_getElem? (i := 135) rfl))) (notFace_of_selects (args := #[]) (mvT hZ (hw _ (List.mem_of_getElem? (i := 137) rfl)))) (mvT hZ (hw _ (List.mem_of_getElem? (i := 137) rfl))) (mvT hZ (hw _ (List.mem_of_getElem? (i := 136) rfl))) (by decide) (backOf (W := 0) (rm15 l Z a0 hw [] b7 (0 : Int32) oa k (.ref dv) T28.heap n0 (Nat.le_trans (Nat.le_trans (Nat.le_trans (Nat.le_trans (Nat.le_trans (Nat.le_trans (Nat.le_trans Z0 E5.1) K6.1) E7.1) K8.1) E23.1) K26.1) K28.1) Fo28 Vo28 rfl rfl) hZ (hw _ (List.mem_of_getElem? (i := 138) rfl)) (hw _ (List.mem_of_getElem? (i := 78) rfl)) (by decide) (by decide)) q29a q29c (g := (mkF m 147 #[.val (.long id), .second, .val (.long start), .second, .val (.long dur), .second, .val (.long rat), .second, .val (.int refu), .val (.int fl), .val (.int (own_b (¬ (fl &&& (1 : Int32)) = (0 : Int32)))), .val (.int (own_b (¬ (fl &&& (2 : Int32)) = (0 : Int32)))), .val (.ref b5), .val (.ref b7), .val (.ref dv), .val (.ref b23), .val (.int (1 : Int32)), .val (.int (own_b ((0 : Int32) = (0 : Int32)))), .unset, .unset, .unset, .unset, .unset] [(.int (0 : Int32)), (.ref b7)])) rfl (by rw [hml]; rfl) (Steps.refl _) (argsL := [(.int (0 : Int32))]) (rest := []) (lenOf pd_20 rfl) rfl (by show 2 * 0 + _ ≤ _; exact Nat.le_of_eq rfl) (hb hby at_147) (fun _ _ => ⟨rfl, rfl, (by decide : 7 + 0 ≤ _), (by decide : 26 + 0 ≤ _)⟩)
    dsimp only [Pt.U, Pt.locs, Pt.cells, Pt.slots] at X29 l29 y29 z29 st29 hQ29
    subst l29 y29 z29
    obtain ⟨rfl, N29q, e29⟩ := hQ29
    have N29 := Fr.app N28 N29q
    refine own_via st29 ?_
    show own_Go p e below s _ _ _ (T29.setTop (mkF m 150 #[.val (.long id), .second, .val (.long start), .second, .val (.long dur), .second, .val (.long rat), .second, .val (.int refu), .val (.int fl), .val (.int (own_b (¬ (fl &&& (1 : Int32)) = (0 : Int32)))), .val (.int (own_b (¬ (fl &&& (2 : Int32)) = (0 : Int32)))), .val (.ref b5), .val (.ref b7), .val (.ref dv), .val (.ref b23), .val (.int (1 : Int32)), .val (.int (own_b ((0 : Int32) = (0 : Int32)))), .unset, .unset, .unset, .unset, .unset] [(.ref dv)]))
    refine own_step (B := T29.setTop (mkF m 167 #[.val (.long id), .second, .val (.long start), .second, .val (.long dur), .second, .val (.long rat), .second, .val (.int refu), .val (.int fl), .val (.int (own_b (¬ (fl &&& (1 : Int32)) = (0 : Int32)))), .val (.int (own_b (¬ (fl &&& (2 : Int32)) = (0 : Int32)))), .val (.ref b5), .val (.ref b7), .val (.ref dv), .val (.ref b23), .val (.int (1 : Int32)), .val (.int (own_b ((0 : Int32) = (0 : Int32)))), .val (.int (1 : Int32)), .unset, .unset, .unset, .unset] [(.ref b23), (.int (0 : Int32)), (.ref b7)])) (fun t k => ?_) ?_
    · show Steps p.tables e below (T29.setTop (mkF m 150 #[.val (.long id), .second, .val (.long start), .second, .val (.long dur), .second, .val (.long rat), .second, .val (.int refu), .val (.int fl), .val (.int (own_b (¬ (fl &&& (1 : Int32)) = (0 : Int32)))), .val (.int (own_b (¬ (fl &&& (2 : Int32)) = (0 : Int32)))), .val (.ref b5), .val (.ref b7), .val (.ref dv), .val (.ref b23), .val (.int (1 : Int32)), .val (.int (own_b ((0 : Int32) = (0 : Int32)))), .unset, .unset, .unset, .unset, .unset] [(.ref dv)])) _
      refine XS.aload X29.here hx rfl (hb hby at_150) rfl rfl ?_
      show Steps p.tables e below (T29.setTop (mkF m 152 #[.val (.long id), .second, .val (.long start), .second, .val (.long dur), .second, .val (.long rat), .second, .val (.int refu), .val (.int fl), .val (.int (own_b (¬ (fl &&& (1 : Int32)) = (0 : Int32)))), .val (.int (own_b (¬ (fl &&& (2 : Int32)) = (0 : Int32)))), .val (.ref b5), .val (.ref b7), .val (.ref dv), .val (.ref b23), .val (.int (1 : Int32)), .val (.int (own_b ((0 : Int32) = (0 : Int32)))), .unset, .unset, .unset, .unset, .unset] [(.ref dv), (.ref dv)])) _
      refine Jvm.RoadKit.acmp (g := (mkF m 152 #[.val (.long id), .second, .val (.long start), .second, .val (.long dur), .second, .val (.long rat), .second, .val (.int refu), .val (.int fl), .val (.int (own_b (¬ (fl &&& (1 : Int32)) = (0 : Int32)))), .val (.int (own_b (¬ (fl &&& (2 : Int32)) = (0 : Int32)))), .val (.ref b5), .val (.ref b7), .val (.ref dv), .val (.ref b23), .val (.int (1 : Int32)), .val (.int (own_b ((0 : Int32) = (0 : Int32)))), .unset, .unset, .unset, .unset, .unset] [(.ref dv), (.ref dv)])) X29 hx rfl rfl rfl (pc0 := 152) (pc' := 155) (same := true) rfl (hb hby at_152) rfl (decide_eq_true rfl) (by decide) (by decide) ?_
      show Steps p.tables e below (T29.setTop (mkF m 155 #[.val (.long id), .second, .val (.long start), .second, .val (.long dur), .second, .val (.long rat), .second, .val (.int refu), .val (.int fl), .val (.int (own_b (¬ (fl &&& (1 : Int32)) = (0 : Int32)))), .val (.int (own_b (¬ (fl &&& (2 : Int32)) = (0 : Int32)))), .val (.ref b5), .val (.ref b7), .val (.ref dv), .val (.ref b23), .val (.int (1 : Int32)), .val (.int (own_b ((0 : Int32) = (0 : Int32)))), .unset, .unset, .unset, .unset, .unset] [])) _
      refine XS.iconst X29.here hx rfl (hb hby at_155) ?_
      show Steps p.tables e below (T29.setTop (mkF m 156 #[.val (.long id), .second, .val (.long start), .second, .val (.long dur), .second, .val (.long rat), .second, .val (.int refu), .val (.int fl), .val (.int (own_b (¬ (fl &&& (1 : Int32)) = (0 : Int32)))), .val (.int (own_b (¬ (fl &&& (2 : Int32)) = (0 : Int32)))), .val (.ref b5), .val (.ref b7), .val (.ref dv), .val (.ref b23), .val (.int (1 : Int32)), .val (.int (own_b ((0 : Int32) = (0 : Int32)))), .unset, .unset, .unset, .unset, .unset] [(.int (1 : Int32))])) _
      refine XS.goto X29.here hx rfl (pc0 := 156) (pc' := 160) rfl (hb hby at_156) (by decide) (by decide) ?_
      show Steps p.tables e below (T29.setTop (mkF m 160 #[.val (.long id), .second, .val (.long start), .second, .val (.long dur), .second, .val (.long rat), .second, .val (.int refu), .val (.int fl), .val (.int (own_b (¬ (fl &&& (1 : Int32)) = (0 : Int32)))), .val (.int (own_b (¬ (fl &&& (2 : Int32)) = (0 : Int32)))), .val (.ref b5), .val (.ref b7), .val (.ref dv), .val (.ref b23), .val (.int (1 : Int32)), .val (.int (own_b ((0 : Int32) = (0 : Int32)))), .unset, .unset, .unset, .unset, .unset] [(.int (1 : Int32))])) _
      refine XS.istore X29.here hx rfl (hb hby at_160) rfl (l' := #[.val (.long id), .second, .val (.long start), .second, .val (.long dur), .second, .val (.long rat), .second, .val (.int refu), .val (.int fl), .val (.int (own_b (¬ (fl &&& (1 : Int32)) = (0 : Int32)))), .val (.int (own_b (¬ (fl &&& (2 : Int32)) = (0 : Int32)))), .val (.ref b5), .val (.ref b7), .val (.ref dv), .val (.ref b23), .val (.int (1 : Int32)), .val (.int (own_b ((0 : Int32) = (0 : Int32)))), .val (.int (1 : Int32)), .unset, .unset, .unset, .unset]) rfl ?_
      show Steps p.tables e below (T29.setTop (mkF m 162 #[.val (.long id), .second, .val (.long start), .second, .val (.long dur), .second, .val (.long rat), .second, .val (.int refu), .val (.int fl), .val (.int (own_b (¬ (fl &&& (1 : Int32)) = (0 : Int32)))), .val (.int (own_b (¬ (fl &&& (2 : Int32)) = (0 : Int32)))), .val (.ref b5), .val (.ref b7), .val (.ref dv), .val (.ref b23), .val (.int (1 : Int32)), .val (.int (own_b ((0 : Int32) = (0 : Int32)))), .val (.int (1 : Int32)), .unset, .unset, .unset, .unset] [])) _
      refine XS.aload X29.here hx rfl (hb hby at_162) rfl rfl ?_
      show Steps p.tables e below (T29.setTop (mkF m 164 #[.val (.long id), .second, .val (.long start), .second, .val (.long dur), .second, .val (.long rat), .second, .val (.int refu), .val (.int fl), .val (.int (own_b (¬ (fl &&& (1 : Int32)) = (0 : Int32)))), .val (.int (own_b (¬ (fl &&& (2 : Int32)) = (0 : Int32)))), .val (.ref b5), .val (.ref b7), .val (.ref dv), .val (.ref b23), .val (.int (1 : Int32)), .val (.int (own_b ((0 : Int32) = (0 : Int32)))), .val (.int (1 : Int32)), .unset, .unset, .unset, .unset] [(.ref b7)])) _
      refine XS.iconst X29.here hx rfl (hb hby at_164) ?_
      show Steps p.tables e below (T29.setTop (mkF m 165 #[.val (.long id), .second, .val (.long start), .second, .val (.long dur), .second, .val (.long rat), .second, .val (.int refu), .val (.int fl), .val (.int (own_b (¬ (fl &&& (1 : Int32)) = (0 : Int32)))), .val (.int (own_b (¬ (fl &&& (2 : Int32)) = (0 : Int32)))), .val (.ref b5), .val (.ref b7), .val (.ref dv), .val (.ref b23), .val (.int (1 : Int32)), .val (.int (own_b ((0 : Int32) = (0 : Int32)))), .val (.int (1 : Int32)), .unset, .unset, .unset, .unset] [(.int (0 : Int32)), (.ref b7)])) _
      refine XS.aload X29.here hx rfl (hb hby at_165) rfl rfl ?_
      exact k
    obtain ⟨cq30, kq30, q30a, q30b, q30c⟩ := isOf hZ e29 Ex28
    obtain ⟨_, _, ⟨T30, L30, k30, n30⟩, -, X30, ⟨Lc30, hQ30, l30, y30, z30⟩, st30⟩ := X29.virtualBack hx (y := (⟨"com/example/lichen/lichen/continuous/TakenSpan", "settle", "(ILcom/example/lichen/lichen/continuous/Settlement$Outcome;)Z"⟩ : MethodName)) (z := (⟨"com/example/lichen/lichen/continuous/TakenSpan", "settle", "(ILcom/example/lichen/lichen/continuous/Settlement$Outcome;)Z"⟩ : MethodName)) hown (mvT hZ (hw _ (List.mem_of_getElem? (i := 139) rfl))) (mvT hZ (hw _ (List.mem_of_getElem? (i := 140) rfl))) (notFace_of_selects (args := #[]) (mvT hZ (hw _ (List.mem_of_getElem? (i := 142) rfl)))) (mvT hZ (hw _ (List.mem_of_getElem? (i := 142) rfl))) (mvT hZ (hw _ (List.mem_of_getElem? (i := 141) rfl))) (by decide) (backOf (W := 0) (rm16 l Z a0 hw [] b7 (0 : Int32) b23 oa k (.ref dv) (1 : Int32) T28.heap n0 (Nat.le_trans (Nat.le_trans (Nat.le_trans (Nat.le_trans (Nat.le_trans (Nat.le_trans (Nat.le_trans Z0 E5.1) K6.1) E7.1) K8.1) E23.1) K26.1) K28.1) Ex28 Fo28 Vo28 Ok (Ex26.keep K28) Fs28 g_b7 g_oa ne_b7_oa rfl) hZ (hw _ (List.mem_of_getElem? (i := 143) rfl)) (hw _ (List.mem_of_getElem? (i := 78) rfl)) (by decide) (by decide)) q30a q30c (g := (mkF m 167 #[.val (.long id), .second, .val (.long start), .second, .val (.long dur), .second, .val (.long rat), .second, .val (.int refu), .val (.int fl), .val (.int (own_b (¬ (fl &&& (1 : Int32)) = (0 : Int32)))), .val (.int (own_b (¬ (fl &&& (2 : Int32)) = (0 : Int32)))), .val (.ref b5), .val (.ref b7), .val (.ref dv), .val (.ref b23), .val (.int (1 : Int32)), .val (.int (own_b ((0 : Int32) = (0 : Int32)))), .val (.int (1 : Int32)), .unset, .unset, .unset, .unset] [(.ref b23), (.int (0 : Int32)), (.ref b7)])) rfl (by rw [hml]; rfl) (Steps.refl _) (argsL := [(.int (0 : Int32)), (.ref b23)]) (rest := []) (lenOf pd_21 rfl) rfl (by show 2 * 0 + _ ≤ _; exact Nat.le_of_eq rfl) (hb hby at_167) (fun _ _ => ⟨rfl, e29, (by decide : 7 + 0 ≤ _), (by decide : 26 + 0 ≤ _)⟩)
    dsimp only [Pt.U, Pt.locs, Pt.cells, Pt.slots] at X30 l30 y30 z30 st30 hQ30
    subst l30 y30 z30
    obtain ⟨rfl, N30q, K30, Ex30, Fo30, Vo30, Fs30⟩ := hQ30
    have N30 := Fr.app N29 N30q
    refine own_via st30 ?_
    show own_Go p e below s _ _ _ (T30.setTop (mkF m 170 #[.val (.long id), .second, .val (.long start), .second, .val (.long dur), .second, .val (.long rat), .second, .val (.int refu), .val (.int fl), .val (.int (own_b (¬ (fl &&& (1 : Int32)) = (0 : Int32)))), .val (.int (own_b (¬ (fl &&& (2 : Int32)) = (0 : Int32)))), .val (.ref b5), .val (.ref b7), .val (.ref dv), .val (.ref b23), .val (.int (1 : Int32)), .val (.int (own_b ((0 : Int32) = (0 : Int32)))), .val (.int (1 : Int32)), .unset, .unset, .unset, .unset] [(.int (own_b ((1 : Int32) = (0 : Int32))))]))
    refine own_step (B := T30.setTop (mkF m 175 #[.val (.long id), .second, .val (.long start), .second, .val (.long dur), .second, .val (.long rat), .second, .val (.int refu), .val (.int fl), .val (.int (own_b (¬ (fl &&& (1 : Int32)) = (0 : Int32)))), .val (.int (own_b (¬ (fl &&& (2 : Int32)) = (0 : Int32)))), .val (.ref b5), .val (.ref b7), .val (.ref dv), .val (.ref b23), .val (.int (1 : Int32)), .val (.int (own_b ((0 : Int32) = (0 : Int32)))), .val (.int (1 : Int32)), .val (.int (own_b ((1 : Int32) = (0 : Int32)))), .unset, .unset, .unset] [(.int (0 : Int32)), (.ref b7)])) (fun t k => ?_) ?_
    · show Steps p.tables e below (T30.setTop (mkF m 170 #[.val (.long id), .second, .val (.long start), .second, .val (.long dur), .second, .val (.long rat), .second, .val (.int refu), .val (.int fl), .val (.int (own_b (¬ (fl &&& (1 : Int32)) = (0 : Int32)))), .val (.int (own_b (¬ (fl &&& (2 : Int32)) = (0 : Int32)))), .val (.ref b5), .val (.ref b7), .val (.ref dv), .val (.ref b23), .val (.int (1 : Int32)), .val (.int (own_b ((0 : Int32) = (0 : Int32)))), .val (.int (1 : Int32)), .unset, .unset, .unset, .unset] [(.int (own_b ((1 : Int32) = (0 : Int32))))])) _
      refine XS.istore X30.here hx rfl (hb hby at_170) rfl (l' := #[.val (.long id), .second, .val (.long start), .second, .val (.long dur), .second, .val (.long rat), .second, .val (.int refu), .val (.int fl), .val (.int (own_b (¬ (fl &&& (1 : Int32)) = (0 : Int32)))), .val (.int (own_b (¬ (fl &&& (2 : Int32)) = (0 : Int32)))), .val (.ref b5), .val (.ref b7), .val (.ref dv), .val (.ref b23), .val (.int (1 : Int32)), .val (.int (own_b ((0 : Int32) = (0 : Int32)))), .val (.int (1 : Int32)), .val (.int (own_b ((1 : Int32) = (0 : Int32)))), .unset, .unset, .unset]) rfl ?_
      show Steps p.tables e below (T30.setTop (mkF m 172 #[.val (.long id), .second, .val (.long start), .second, .val (.long dur), .second, .val (.long rat), .second, .val (.int refu), .val (.int fl), .val (.int (own_b (¬ (fl &&& (1 : Int32)) = (0 : Int32)))), .val (.int (own_b (¬ (fl &&& (2 : Int32)) = (0 : Int32)))), .val (.ref b5), .val (.ref b7), .val (.ref dv), .val (.ref b23), .val (.int (1 : Int32)), .val (.int (own_b ((0 : Int32) = (0 : Int32)))), .val (.int (1 : Int32)), .val (.int (own_b ((1 : Int32) = (0 : Int32)))), .unset, .unset, .unset] [])) _
      refine XS.aload X30.here hx rfl (hb hby at_172) rfl rfl ?_
      show Steps p.tables e below (T30.setTop (mkF m 174 #[.val (.long id), .second, .val (.long start), .second, .val (.long dur), .second, .val (.long rat), .second, .val (.int refu), .val (.int fl), .val (.int (own_b (¬ (fl &&& (1 : Int32)) = (0 : Int32)))), .val (.int (own_b (¬ (fl &&& (2 : Int32)) = (0 : Int32)))), .val (.ref b5), .val (.ref b7), .val (.ref dv), .val (.ref b23), .val (.int (1 : Int32)), .val (.int (own_b ((0 : Int32) = (0 : Int32)))), .val (.int (1 : Int32)), .val (.int (own_b ((1 : Int32) = (0 : Int32)))), .unset, .unset, .unset] [(.ref b7)])) _
      refine XS.iconst X30.here hx rfl (hb hby at_174) ?_
      exact k
    obtain ⟨cq31, kq31, q31a, q31b, q31c⟩ := isOf hZ rfl Ex30
    obtain ⟨_, _, ⟨T31, L31, k31, n31⟩, -, X31, ⟨Lc31, hQ31, l31, y31, z31⟩, st31⟩ := X30.virtualBack hx (y := (⟨"com/example/lichen/lichen/continuous/TakenSpan", "outcome", "(I)Lcom/example/lichen/lichen/continuous/Settlement$Outcome;"⟩ : MethodName)) (z := (⟨"com/example/lichen/lichen/continuous/TakenSpan", "outcome", "(I)Lcom/example/lichen/lichen/continuous/Settlement$Outcome;"⟩ : MethodName)) hown (mvT hZ (hw _ (List.mem_of_getElem? (i := 134) rfl))) (mvT hZ (hw _ (List.mem_of_getElem? (i := 135) rfl))) (notFace_of_selects (args := #[]) (mvT hZ (hw _ (List.mem_of_getElem? (i := 137) rfl)))) (mvT hZ (hw _ (List.mem_of_getElem? (i := 137) rfl))) (mvT hZ (hw _ (List.mem_of_getElem? (i := 136) rfl))) (by decide) (backOf (W := 0) (rm15 l Z a0 hw [] b7 (0 : Int32) oa k (.ref b23) T30.heap n0 (Nat.le_trans (Nat.le_trans (Nat.le_trans (Nat.le_trans (Nat.le_trans (Nat.le_trans (Nat.le_trans (Nat.le_trans Z0 E5.1) K6.1) E7.1) K8.1) E23.1) K26.1) K28.1) K30.1) Fo30 Vo30 rfl rfl) hZ (hw _ (List.mem_of_getElem? (i := 138) rfl)) (hw _ (List.mem_of_getElem? (i := 78) rfl)) (by decide) (by decide)) q31a q31c (g := (mkF m 175 #[.val (.long id), .second, .val (.long start), .second, .val (.long dur), .second, .val (.long rat), .second, .val (.int refu), .val (.int fl), .val (.int (own_b (¬ (fl &&& (1 : Int32)) = (0 : Int32)))), .val (.int (own_b (¬ (fl &&& (2 : Int32)) = (0 : Int32)))), .val (.ref b5), .val (.ref b7), .val (.ref dv), .val (.ref b23), .val (.int (1 : Int32)), .val (.int (own_b ((0 : Int32) = (0 : Int32)))), .val (.int (1 : Int32)), .val (.int (own_b ((1 : Int32) = (0 : Int32)))), .unset, .unset, .unset] [(.int (0 : Int32)), (.ref b7)])) rfl (by rw [hml]; rfl) (Steps.refl _) (argsL := [(.int (0 : Int32))]) (rest := []) (lenOf pd_20 rfl) rfl (by show 2 * 0 + _ ≤ _; exact Nat.le_of_eq rfl) (hb hby at_175) (fun _ _ => ⟨rfl, rfl, (by decide : 7 + 0 ≤ _), (by decide : 26 + 0 ≤ _)⟩)
    dsimp only [Pt.U, Pt.locs, Pt.cells, Pt.slots] at X31 l31 y31 z31 st31 hQ31
    subst l31 y31 z31
    obtain ⟨rfl, N31q, e31⟩ := hQ31
    have N31 := Fr.app N30 N31q
    refine own_via st31 ?_
    show own_Go p e below s _ _ _ (T31.setTop (mkF m 178 #[.val (.long id), .second, .val (.long start), .second, .val (.long dur), .second, .val (.long rat), .second, .val (.int refu), .val (.int fl), .val (.int (own_b (¬ (fl &&& (1 : Int32)) = (0 : Int32)))), .val (.int (own_b (¬ (fl &&& (2 : Int32)) = (0 : Int32)))), .val (.ref b5), .val (.ref b7), .val (.ref dv), .val (.ref b23), .val (.int (1 : Int32)), .val (.int (own_b ((0 : Int32) = (0 : Int32)))), .val (.int (1 : Int32)), .val (.int (own_b ((1 : Int32) = (0 : Int32)))), .unset, .unset, .unset] [(.ref b23)]))
    refine own_step (B := T31.setTop (mkF m 195 #[.val (.long id), .second, .val (.long start), .second, .val (.long dur), .second, .val (.long rat), .second, .val (.int refu), .val (.int fl), .val (.int (own_b (¬ (fl &&& (1 : Int32)) = (0 : Int32)))), .val (.int (own_b (¬ (fl &&& (2 : Int32)) = (0 : Int32)))), .val (.ref b5), .val (.ref b7), .val (.ref dv), .val (.ref b23), .val (.int (1 : Int32)), .val (.int (own_b ((0 : Int32) = (0 : Int32)))), .val (.int (1 : Int32)), .val (.int (own_b ((1 : Int32) = (0 : Int32)))), .val (.int (1 : Int32)), .unset, .unset] [(.ref dv), (.int (0 : Int32)), (.ref b7)])) (fun t k => ?_) ?_
    · show Steps p.tables e below (T31.setTop (mkF m 178 #[.val (.long id), .second, .val (.long start), .second, .val (.long dur), .second, .val (.long rat), .second, .val (.int refu), .val (.int fl), .val (.int (own_b (¬ (fl &&& (1 : Int32)) = (0 : Int32)))), .val (.int (own_b (¬ (fl &&& (2 : Int32)) = (0 : Int32)))), .val (.ref b5), .val (.ref b7), .val (.ref dv), .val (.ref b23), .val (.int (1 : Int32)), .val (.int (own_b ((0 : Int32) = (0 : Int32)))), .val (.int (1 : Int32)), .val (.int (own_b ((1 : Int32) = (0 : Int32)))), .unset, .unset, .unset] [(.ref b23)])) _
      refine XS.aload X31.here hx rfl (hb hby at_178) rfl rfl ?_
      show Steps p.tables e below (T31.setTop (mkF m 180 #[.val (.long id), .second, .val (.long start), .second, .val (.long dur), .second, .val (.long rat), .second, .val (.int refu), .val (.int fl), .val (.int (own_b (¬ (fl &&& (1 : Int32)) = (0 : Int32)))), .val (.int (own_b (¬ (fl &&& (2 : Int32)) = (0 : Int32)))), .val (.ref b5), .val (.ref b7), .val (.ref dv), .val (.ref b23), .val (.int (1 : Int32)), .val (.int (own_b ((0 : Int32) = (0 : Int32)))), .val (.int (1 : Int32)), .val (.int (own_b ((1 : Int32) = (0 : Int32)))), .unset, .unset, .unset] [(.ref b23), (.ref b23)])) _
      refine Jvm.RoadKit.acmp (g := (mkF m 180 #[.val (.long id), .second, .val (.long start), .second, .val (.long dur), .second, .val (.long rat), .second, .val (.int refu), .val (.int fl), .val (.int (own_b (¬ (fl &&& (1 : Int32)) = (0 : Int32)))), .val (.int (own_b (¬ (fl &&& (2 : Int32)) = (0 : Int32)))), .val (.ref b5), .val (.ref b7), .val (.ref dv), .val (.ref b23), .val (.int (1 : Int32)), .val (.int (own_b ((0 : Int32) = (0 : Int32)))), .val (.int (1 : Int32)), .val (.int (own_b ((1 : Int32) = (0 : Int32)))), .unset, .unset, .unset] [(.ref b23), (.ref b23)])) X31 hx rfl rfl rfl (pc0 := 180) (pc' := 183) (same := true) rfl (hb hby at_180) rfl (decide_eq_true rfl) (by decide) (by decide) ?_
      show Steps p.tables e below (T31.setTop (mkF m 183 #[.val (.long id), .second, .val (.long start), .second, .val (.long dur), .second, .val (.long rat), .second, .val (.int refu), .val (.int fl), .val (.int (own_b (¬ (fl &&& (1 : Int32)) = (0 : Int32)))), .val (.int (own_b (¬ (fl &&& (2 : Int32)) = (0 : Int32)))), .val (.ref b5), .val (.ref b7), .val (.ref dv), .val (.ref b23), .val (.int (1 : Int32)), .val (.int (own_b ((0 : Int32) = (0 : Int32)))), .val (.int (1 : Int32)), .val (.int (own_b ((1 : Int32) = (0 : Int32)))), .unset, .unset, .unset] [])) _
      refine XS.iconst X31.here hx rfl (hb hby at_183) ?_
      show Steps p.tables e below (T31.setTop (mkF m 184 #[.val (.long id), .second, .val (.long start), .second, .val (.long dur), .second, .val (.long rat), .second, .val (.int refu), .val (.int fl), .val (.int (own_b (¬ (fl &&& (1 : Int32)) = (0 : Int32)))), .val (.int (own_b (¬ (fl &&& (2 : Int32)) = (0 : Int32)))), .val (.ref b5), .val (.ref b7), .val (.ref dv), .val (.ref b23), .val (.int (1 : Int32)), .val (.int (own_b ((0 : Int32) = (0 : Int32)))), .val (.int (1 : Int32)), .val (.int (own_b ((1 : Int32) = (0 : Int32)))), .unset, .unset, .unset] [(.int (1 : Int32))])) _
      refine XS.goto X31.here hx rfl (pc0 := 184) (pc' := 188) rfl (hb hby at_184) (by decide) (by decide) ?_
      show Steps p.tables e below (T31.setTop (mkF m 188 #[.val (.long id), .second, .val (.long start), .second, .val (.long dur), .second, .val (.long rat), .second, .val (.int refu), .val (.int fl), .val (.int (own_b (¬ (fl &&& (1 : Int32)) = (0 : Int32)))), .val (.int (own_b (¬ (fl &&& (2 : Int32)) = (0 : Int32)))), .val (.ref b5), .val (.ref b7), .val (.ref dv), .val (.ref b23), .val (.int (1 : Int32)), .val (.int (own_b ((0 : Int32) = (0 : Int32)))), .val (.int (1 : Int32)), .val (.int (own_b ((1 : Int32) = (0 : Int32)))), .unset, .unset, .unset] [(.int (1 : Int32))])) _
      refine XS.istore X31.here hx rfl (hb hby at_188) rfl (l' := #[.val (.long id), .second, .val (.long start), .second, .val (.long dur), .second, .val (.long rat), .second, .val (.int refu), .val (.int fl), .val (.int (own_b (¬ (fl &&& (1 : Int32)) = (0 : Int32)))), .val (.int (own_b (¬ (fl &&& (2 : Int32)) = (0 : Int32)))), .val (.ref b5), .val (.ref b7), .val (.ref dv), .val (.ref b23), .val (.int (1 : Int32)), .val (.int (own_b ((0 : Int32) = (0 : Int32)))), .val (.int (1 : Int32)), .val (.int (own_b ((1 : Int32) = (0 : Int32)))), .val (.int (1 : Int32)), .unset, .unset]) rfl ?_
      show Steps p.tables e below (T31.setTop (mkF m 190 #[.val (.long id), .second, .val (.long start), .second, .val (.long dur), .second, .val (.long rat), .second, .val (.int refu), .val (.int fl), .val (.int (own_b (¬ (fl &&& (1 : Int32)) = (0 : Int32)))), .val (.int (own_b (¬ (fl &&& (2 : Int32)) = (0 : Int32)))), .val (.ref b5), .val (.ref b7), .val (.ref dv), .val (.ref b23), .val (.int (1 : Int32)), .val (.int (own_b ((0 : Int32) = (0 : Int32)))), .val (.int (1 : Int32)), .val (.int (own_b ((1 : Int32) = (0 : Int32)))), .val (.int (1 : Int32)), .unset, .unset] [])) _
      refine XS.aload X31.here hx rfl (hb hby at_190) rfl rfl ?_
      show Steps p.tables e below (T31.setTop (mkF m 192 #[.val (.long id), .second, .val (.long start), .second, .val (.long dur), .second, .val (.long rat), .second, .val (.int refu), .val (.int fl), .val (.int (own_b (¬ (fl &&& (1 : Int32)) = (0 : Int32)))), .val (.int (own_b (¬ (fl &&& (2 : Int32)) = (0 : Int32)))), .val (.ref b5), .val (.ref b7), .val (.ref dv), .val (.ref b23), .val (.int (1 : Int32)), .val (.int (own_b ((0 : Int32) = (0 : Int32)))), .val (.int (1 : Int32)), .val (.int (own_b ((1 : Int32) = (0 : Int32)))), .val (.int (1 : Int32)), .unset, .unset] [(.ref b7)])) _
      refine XS.iconst X31.here hx rfl (hb hby at_192) ?_
      show Steps p.tables e below (T31.setTop (mkF m 193 #[.val (.long id), .second, .val (.long start), .second, .val (.long dur), .second, .val (.long rat), .second, .val (.int refu), .val (.int fl), .val (.int (own_b (¬ (fl &&& (1 : Int32)) = (0 : Int32)))), .val (.int (own_b (¬ (fl &&& (2 : Int32)) = (0 : Int32)))), .val (.ref b5), .val (.ref b7), .val (.ref dv), .val (.ref b23), .val (.int (1 : Int32)), .val (.int (own_b ((0 : Int32) = (0 : Int32)))), .val (.int (1 : Int32)), .val (.int (own_b ((1 : Int32) = (0 : Int32)))), .val (.int (1 : Int32)), .unset, .unset] [(.int (0 : Int32)), (.ref b7)])) _
      refine XS.aload X31.here hx rfl (hb hby at_193) rfl rfl ?_
      exact k
    obtain ⟨cq32, kq32, q32a, q32b, q32c⟩ := isOf hZ e31 Ex30
    obtain ⟨_, _, ⟨T32, L32, k32, n32⟩, -, X32, ⟨Lc32, hQ32, l32, y32, z32⟩, st32⟩ := X31.virtualBack hx (y := (⟨"com/example/lichen/lichen/continuous/TakenSpan", "settle", "(ILcom/example/lichen/lichen/continuous/Settlement$Outcome;)Z"⟩ : MethodName)) (z := (⟨"com/example/lichen/lichen/continuous/TakenSpan", "settle", "(ILcom/example/lichen/lichen/continuous/Settlement$Outcome;)Z"⟩ : MethodName)) hown (mvT hZ (hw _ (List.mem_of_getElem? (i := 139) rfl))) (mvT hZ (hw _ (List.mem_of_getElem? (i := 140) rfl))) (notFace_of_selects (args := #[]) (mvT hZ (hw _ (List.mem_of_getElem? (i := 142) rfl)))) (mvT hZ (hw _ (List.mem_of_getElem? (i := 142) rfl))) (mvT hZ (hw _ (List.mem_of_getElem? (i := 141) rfl))) (by decide) (backOf (W := 0) (rm16 l Z a0 hw [] b7 (0 : Int32) dv oa k (.ref b23) (1 : Int32) T30.heap n0 (Nat.le_trans (Nat.le_trans (Nat.le_trans (Nat.le_trans (Nat.le_trans (Nat.le_trans (Nat.le_trans (Nat.le_trans Z0 E5.1) K6.1) E7.1) K8.1) E23.1) K26.1) K28.1) K30.1) Ex30 Fo30 Vo30 Ok ((((((((E_D.ext E5).keep K6).ext E7).keep K8).ext E23).keep K26).keep K28).keep K30) Fs30 g_b7 g_oa ne_b7_oa rfl) hZ (hw _ (List.mem_of_getElem? (i := 143) rfl)) (hw _ (List.mem_of_getElem? (i := 78) rfl)) (by decide) (by decide)) q32a q32c (g := (mkF m 195 #[.val (.long id), .second, .val (.long start), .second, .val (.long dur), .second, .val (.long rat), .second, .val (.int refu), .val (.int fl), .val (.int (own_b (¬ (fl &&& (1 : Int32)) = (0 : Int32)))), .val (.int (own_b (¬ (fl &&& (2 : Int32)) = (0 : Int32)))), .val (.ref b5), .val (.ref b7), .val (.ref dv), .val (.ref b23), .val (.int (1 : Int32)), .val (.int (own_b ((0 : Int32) = (0 : Int32)))), .val (.int (1 : Int32)), .val (.int (own_b ((1 : Int32) = (0 : Int32)))), .val (.int (1 : Int32)), .unset, .unset] [(.ref dv), (.int (0 : Int32)), (.ref b7)])) rfl (by rw [hml]; rfl) (Steps.refl _) (argsL := [(.int (0 : Int32)), (.ref dv)]) (rest := []) (lenOf pd_21 rfl) rfl (by show 2 * 0 + _ ≤ _; exact Nat.le_of_eq rfl) (hb hby at_195) (fun _ _ => ⟨rfl, e31, (by decide : 7 + 0 ≤ _), (by decide : 26 + 0 ≤ _)⟩)
    dsimp only [Pt.U, Pt.locs, Pt.cells, Pt.slots] at X32 l32 y32 z32 st32 hQ32
    subst l32 y32 z32
    obtain ⟨rfl, N32q, K32, Ex32, Fo32, Vo32, Fs32⟩ := hQ32
    have N32 := Fr.app N31 N32q
    refine own_via st32 ?_
    show own_Go p e below s _ _ _ (T32.setTop (mkF m 198 #[.val (.long id), .second, .val (.long start), .second, .val (.long dur), .second, .val (.long rat), .second, .val (.int refu), .val (.int fl), .val (.int (own_b (¬ (fl &&& (1 : Int32)) = (0 : Int32)))), .val (.int (own_b (¬ (fl &&& (2 : Int32)) = (0 : Int32)))), .val (.ref b5), .val (.ref b7), .val (.ref dv), .val (.ref b23), .val (.int (1 : Int32)), .val (.int (own_b ((0 : Int32) = (0 : Int32)))), .val (.int (1 : Int32)), .val (.int (own_b ((1 : Int32) = (0 : Int32)))), .val (.int (1 : Int32)), .unset, .unset] [(.int (own_b ((1 : Int32) = (0 : Int32))))]))
    refine own_step (B := T32.setTop (mkF m 203 #[.val (.long id), .second, .val (.long start), .second, .val (.long dur), .second, .val (.long rat), .second, .val (.int refu), .val (.int fl), .val (.int (own_b (¬ (fl &&& (1 : Int32)) = (0 : Int32)))), .val (.int (own_b (¬ (fl &&& (2 : Int32)) = (0 : Int32)))), .val (.ref b5), .val (.ref b7), .val (.ref dv), .val (.ref b23), .val (.int (1 : Int32)), .val (.int (own_b ((0 : Int32) = (0 : Int32)))), .val (.int (1 : Int32)), .val (.int (own_b ((1 : Int32) = (0 : Int32)))), .val (.int (1 : Int32)), .val (.int (own_b ((1 : Int32) = (0 : Int32)))), .unset] [(.int (0 : Int32)), (.ref b7)])) (fun t k => ?_) ?_
    · show Steps p.tables e below (T32.setTop (mkF m 198 #[.val (.long id), .second, .val (.long start), .second, .val (.long dur), .second, .val (.long rat), .second, .val (.int refu), .val (.int fl), .val (.int (own_b (¬ (fl &&& (1 : Int32)) = (0 : Int32)))), .val (.int (own_b (¬ (fl &&& (2 : Int32)) = (0 : Int32)))), .val (.ref b5), .val (.ref b7), .val (.ref dv), .val (.ref b23), .val (.int (1 : Int32)), .val (.int (own_b ((0 : Int32) = (0 : Int32)))), .val (.int (1 : Int32)), .val (.int (own_b ((1 : Int32) = (0 : Int32)))), .val (.int (1 : Int32)), .unset, .unset] [(.int (own_b ((1 : Int32) = (0 : Int32))))])) _
      refine XS.istore X32.here hx rfl (hb hby at_198) rfl (l' := #[.val (.long id), .second, .val (.long start), .second, .val (.long dur), .second, .val (.long rat), .second, .val (.int refu), .val (.int fl), .val (.int (own_b (¬ (fl &&& (1 : Int32)) = (0 : Int32)))), .val (.int (own_b (¬ (fl &&& (2 : Int32)) = (0 : Int32)))), .val (.ref b5), .val (.ref b7), .val (.ref dv), .val (.ref b23), .val (.int (1 : Int32)), .val (.int (own_b ((0 : Int32) = (0 : Int32)))), .val (.int (1 : Int32)), .val (.int (own_b ((1 : Int32) = (0 : Int32)))), .val (.int (1 : Int32)), .val (.int (own_b ((1 : Int32) = (0 : Int32)))), .unset]) rfl ?_
      show Steps p.tables e below (T32.setTop (mkF m 200 #[.val (.long id), .second, .val (.long start), .second, .val (.long dur), .second, .val (.long rat), .second, .val (.int refu), .val (.int fl), .val (.int (own_b (¬ (fl &&& (1 : Int32)) = (0 : Int32)))), .val (.int (own_b (¬ (fl &&& (2 : Int32)) = (0 : Int32)))), .val (.ref b5), .val (.ref b7), .val (.ref dv), .val (.ref b23), .val (.int (1 : Int32)), .val (.int (own_b ((0 : Int32) = (0 : Int32)))), .val (.int (1 : Int32)), .val (.int (own_b ((1 : Int32) = (0 : Int32)))), .val (.int (1 : Int32)), .val (.int (own_b ((1 : Int32) = (0 : Int32)))), .unset] [])) _
      refine XS.aload X32.here hx rfl (hb hby at_200) rfl rfl ?_
      show Steps p.tables e below (T32.setTop (mkF m 202 #[.val (.long id), .second, .val (.long start), .second, .val (.long dur), .second, .val (.long rat), .second, .val (.int refu), .val (.int fl), .val (.int (own_b (¬ (fl &&& (1 : Int32)) = (0 : Int32)))), .val (.int (own_b (¬ (fl &&& (2 : Int32)) = (0 : Int32)))), .val (.ref b5), .val (.ref b7), .val (.ref dv), .val (.ref b23), .val (.int (1 : Int32)), .val (.int (own_b ((0 : Int32) = (0 : Int32)))), .val (.int (1 : Int32)), .val (.int (own_b ((1 : Int32) = (0 : Int32)))), .val (.int (1 : Int32)), .val (.int (own_b ((1 : Int32) = (0 : Int32)))), .unset] [(.ref b7)])) _
      refine XS.iconst X32.here hx rfl (hb hby at_202) ?_
      exact k
    obtain ⟨cq33, kq33, q33a, q33b, q33c⟩ := isOf hZ rfl Ex32
    obtain ⟨_, _, ⟨T33, L33, k33, n33⟩, -, X33, ⟨Lc33, hQ33, l33, y33, z33⟩, st33⟩ := X32.virtualBack hx (y := (⟨"com/example/lichen/lichen/continuous/TakenSpan", "outcome", "(I)Lcom/example/lichen/lichen/continuous/Settlement$Outcome;"⟩ : MethodName)) (z := (⟨"com/example/lichen/lichen/continuous/TakenSpan", "outcome", "(I)Lcom/example/lichen/lichen/continuous/Settlement$Outcome;"⟩ : MethodName)) hown (mvT hZ (hw _ (List.mem_of_getElem? (i := 134) rfl))) (mvT hZ (hw _ (List.mem_of_getElem? (i := 135) rfl))) (notFace_of_selects (args := #[]) (mvT hZ (hw _ (List.mem_of_getElem? (i := 137) rfl)))) (mvT hZ (hw _ (List.mem_of_getElem? (i := 137) rfl))) (mvT hZ (hw _ (List.mem_of_getElem? (i := 136) rfl))) (by decide) (backOf (W := 0) (rm15 l Z a0 hw [] b7 (0 : Int32) oa k (.ref dv) T32.heap n0 (Nat.le_trans (Nat.le_trans (Nat.le_trans (Nat.le_trans (Nat.le_trans (Nat.le_trans (Nat.le_trans (Nat.le_trans (Nat.le_trans Z0 E5.1) K6.1) E7.1) K8.1) E23.1) K26.1) K28.1) K30.1) K32.1) Fo32 Vo32 rfl rfl) hZ (hw _ (List.mem_of_getElem? (i := 138) rfl)) (hw _ (List.mem_of_getElem? (i := 78) rfl)) (by decide) (by decide)) q33a q33c (g := (mkF m 203 #[.val (.long id), .second, .val (.long start), .second, .val (.long dur), .second, .val (.long rat), .second, .val (.int refu), .val (.int fl), .val (.int (own_b (¬ (fl &&& (1 : Int32)) = (0 : Int32)))), .val (.int (own_b (¬ (fl &&& (2 : Int32)) = (0 : Int32)))), .val (.ref b5), .val (.ref b7), .val (.ref dv), .val (.ref b23), .val (.int (1 : Int32)), .val (.int (own_b ((0 : Int32) = (0 : Int32)))), .val (.int (1 : Int32)), .val (.int (own_b ((1 : Int32) = (0 : Int32)))), .val (.int (1 : Int32)), .val (.int (own_b ((1 : Int32) = (0 : Int32)))), .unset] [(.int (0 : Int32)), (.ref b7)])) rfl (by rw [hml]; rfl) (Steps.refl _) (argsL := [(.int (0 : Int32))]) (rest := []) (lenOf pd_20 rfl) rfl (by show 2 * 0 + _ ≤ _; exact Nat.le_of_eq rfl) (hb hby at_203) (fun _ _ => ⟨rfl, rfl, (by decide : 7 + 0 ≤ _), (by decide : 26 + 0 ≤ _)⟩)
    dsimp only [Pt.U, Pt.locs, Pt.cells, Pt.slots] at X33 l33 y33 z33 st33 hQ33
    subst l33 y33 z33
    obtain ⟨rfl, N33q, e33⟩ := hQ33
    have N33 := Fr.app N32 N33q
    refine own_via st33 ?_
    show own_Go p e below s _ _ _ (T33.setTop (mkF m 206 #[.val (.long id), .second, .val (.long start), .second, .val (.long dur), .second, .val (.long rat), .second, .val (.int refu), .val (.int fl), .val (.int (own_b (¬ (fl &&& (1 : Int32)) = (0 : Int32)))), .val (.int (own_b (¬ (fl &&& (2 : Int32)) = (0 : Int32)))), .val (.ref b5), .val (.ref b7), .val (.ref dv), .val (.ref b23), .val (.int (1 : Int32)), .val (.int (own_b ((0 : Int32) = (0 : Int32)))), .val (.int (1 : Int32)), .val (.int (own_b ((1 : Int32) = (0 : Int32)))), .val (.int (1 : Int32)), .val (.int (own_b ((1 : Int32) = (0 : Int32)))), .unset] [(.ref dv)]))
    refine own_step (B := T33.setTop (mkF m 258 #[.val (.long id), .second, .val (.long start), .second, .val (.long dur), .second, .val (.long rat), .second, .val (.int refu), .val (.int fl), .val (.int (own_b (¬ (fl &&& (1 : Int32)) = (0 : Int32)))), .val (.int (own_b (¬ (fl &&& (2 : Int32)) = (0 : Int32)))), .val (.ref b5), .val (.ref b7), .val (.ref dv), .val (.ref b23), .val (.int (1 : Int32)), .val (.int (own_b ((0 : Int32) = (0 : Int32)))), .val (.int (1 : Int32)), .val (.int (own_b ((1 : Int32) = (0 : Int32)))), .val (.int (1 : Int32)), .val (.int (own_b ((1 : Int32) = (0 : Int32)))), .val (.int (1 : Int32))] [(.int (1 : Int32))])) (fun t k => ?_) ?_
    · show Steps p.tables e below (T33.setTop (mkF m 206 #[.val (.long id), .second, .val (.long start), .second, .val (.long dur), .second, .val (.long rat), .second, .val (.int refu), .val (.int fl), .val (.int (own_b (¬ (fl &&& (1 : Int32)) = (0 : Int32)))), .val (.int (own_b (¬ (fl &&& (2 : Int32)) = (0 : Int32)))), .val (.ref b5), .val (.ref b7), .val (.ref dv), .val (.ref b23), .val (.int (1 : Int32)), .val (.int (own_b ((0 : Int32) = (0 : Int32)))), .val (.int (1 : Int32)), .val (.int (own_b ((1 : Int32) = (0 : Int32)))), .val (.int (1 : Int32)), .val (.int (own_b ((1 : Int32) = (0 : Int32)))), .unset] [(.ref dv)])) _
      refine XS.aload X33.here hx rfl (hb hby at_206) rfl rfl ?_
      show Steps p.tables e below (T33.setTop (mkF m 208 #[.val (.long id), .second, .val (.long start), .second, .val (.long dur), .second, .val (.long rat), .second, .val (.int refu), .val (.int fl), .val (.int (own_b (¬ (fl &&& (1 : Int32)) = (0 : Int32)))), .val (.int (own_b (¬ (fl &&& (2 : Int32)) = (0 : Int32)))), .val (.ref b5), .val (.ref b7), .val (.ref dv), .val (.ref b23), .val (.int (1 : Int32)), .val (.int (own_b ((0 : Int32) = (0 : Int32)))), .val (.int (1 : Int32)), .val (.int (own_b ((1 : Int32) = (0 : Int32)))), .val (.int (1 : Int32)), .val (.int (own_b ((1 : Int32) = (0 : Int32)))), .unset] [(.ref dv), (.ref dv)])) _
      refine Jvm.RoadKit.acmp (g := (mkF m 208 #[.val (.long id), .second, .val (.long start), .second, .val (.long dur), .second, .val (.long rat), .second, .val (.int refu), .val (.int fl), .val (.int (own_b (¬ (fl &&& (1 : Int32)) = (0 : Int32)))), .val (.int (own_b (¬ (fl &&& (2 : Int32)) = (0 : Int32)))), .val (.ref b5), .val (.ref b7), .val (.ref dv), .val (.ref b23), .val (.int (1 : Int32)), .val (.int (own_b ((0 : Int32) = (0 : Int32)))), .val (.int (1 : Int32)), .val (.int (own_b ((1 : Int32) = (0 : Int32)))), .val (.int (1 : Int32)), .val (.int (own_b ((1 : Int32) = (0 : Int32)))), .unset] [(.ref dv), (.ref dv)])) X33 hx rfl rfl rfl (pc0 := 208) (pc' := 211) (same := true) rfl (hb hby at_208) rfl (decide_eq_true rfl) (by decide) (by decide) ?_
      show Steps p.tables e below (T33.setTop (mkF m 211 #[.val (.long id), .second, .val (.long start), .second, .val (.long dur), .second, .val (.long rat), .second, .val (.int refu), .val (.int fl), .val (.int (own_b (¬ (fl &&& (1 : Int32)) = (0 : Int32)))), .val (.int (own_b (¬ (fl &&& (2 : Int32)) = (0 : Int32)))), .val (.ref b5), .val (.ref b7), .val (.ref dv), .val (.ref b23), .val (.int (1 : Int32)), .val (.int (own_b ((0 : Int32) = (0 : Int32)))), .val (.int (1 : Int32)), .val (.int (own_b ((1 : Int32) = (0 : Int32)))), .val (.int (1 : Int32)), .val (.int (own_b ((1 : Int32) = (0 : Int32)))), .unset] [])) _
      refine XS.iconst X33.here hx rfl (hb hby at_211) ?_
      show Steps p.tables e below (T33.setTop (mkF m 212 #[.val (.long id), .second, .val (.long start), .second, .val (.long dur), .second, .val (.long rat), .second, .val (.int refu), .val (.int fl), .val (.int (own_b (¬ (fl &&& (1 : Int32)) = (0 : Int32)))), .val (.int (own_b (¬ (fl &&& (2 : Int32)) = (0 : Int32)))), .val (.ref b5), .val (.ref b7), .val (.ref dv), .val (.ref b23), .val (.int (1 : Int32)), .val (.int (own_b ((0 : Int32) = (0 : Int32)))), .val (.int (1 : Int32)), .val (.int (own_b ((1 : Int32) = (0 : Int32)))), .val (.int (1 : Int32)), .val (.int (own_b ((1 : Int32) = (0 : Int32)))), .unset] [(.int (1 : Int32))])) _
      refine XS.goto X33.here hx rfl (pc0 := 212) (pc' := 216) rfl (hb hby at_212) (by decide) (by decide) ?_
      show Steps p.tables e below (T33.setTop (mkF m 216 #[.val (.long id), .second, .val (.long start), .second, .val (.long dur), .second, .val (.long rat), .second, .val (.int refu), .val (.int fl), .val (.int (own_b (¬ (fl &&& (1 : Int32)) = (0 : Int32)))), .val (.int (own_b (¬ (fl &&& (2 : Int32)) = (0 : Int32)))), .val (.ref b5), .val (.ref b7), .val (.ref dv), .val (.ref b23), .val (.int (1 : Int32)), .val (.int (own_b ((0 : Int32) = (0 : Int32)))), .val (.int (1 : Int32)), .val (.int (own_b ((1 : Int32) = (0 : Int32)))), .val (.int (1 : Int32)), .val (.int (own_b ((1 : Int32) = (0 : Int32)))), .unset] [(.int (1 : Int32))])) _
      refine XS.istore X33.here hx rfl (hb hby at_216) rfl (l' := #[.val (.long id), .second, .val (.long start), .second, .val (.long dur), .second, .val (.long rat), .second, .val (.int refu), .val (.int fl), .val (.int (own_b (¬ (fl &&& (1 : Int32)) = (0 : Int32)))), .val (.int (own_b (¬ (fl &&& (2 : Int32)) = (0 : Int32)))), .val (.ref b5), .val (.ref b7), .val (.ref dv), .val (.ref b23), .val (.int (1 : Int32)), .val (.int (own_b ((0 : Int32) = (0 : Int32)))), .val (.int (1 : Int32)), .val (.int (own_b ((1 : Int32) = (0 : Int32)))), .val (.int (1 : Int32)), .val (.int (own_b ((1 : Int32) = (0 : Int32)))), .val (.int (1 : Int32))]) rfl ?_
      show Steps p.tables e below (T33.setTop (mkF m 218 #[.val (.long id), .second, .val (.long start), .second, .val (.long dur), .second, .val (.long rat), .second, .val (.int refu), .val (.int fl), .val (.int (own_b (¬ (fl &&& (1 : Int32)) = (0 : Int32)))), .val (.int (own_b (¬ (fl &&& (2 : Int32)) = (0 : Int32)))), .val (.ref b5), .val (.ref b7), .val (.ref dv), .val (.ref b23), .val (.int (1 : Int32)), .val (.int (own_b ((0 : Int32) = (0 : Int32)))), .val (.int (1 : Int32)), .val (.int (own_b ((1 : Int32) = (0 : Int32)))), .val (.int (1 : Int32)), .val (.int (own_b ((1 : Int32) = (0 : Int32)))), .val (.int (1 : Int32))] [])) _
      refine XS.iload X33.here hx rfl (hb hby at_218) rfl ?_
      show Steps p.tables e below (T33.setTop (mkF m 220 #[.val (.long id), .second, .val (.long start), .second, .val (.long dur), .second, .val (.long rat), .second, .val (.int refu), .val (.int fl), .val (.int (own_b (¬ (fl &&& (1 : Int32)) = (0 : Int32)))), .val (.int (own_b (¬ (fl &&& (2 : Int32)) = (0 : Int32)))), .val (.ref b5), .val (.ref b7), .val (.ref dv), .val (.ref b23), .val (.int (1 : Int32)), .val (.int (own_b ((0 : Int32) = (0 : Int32)))), .val (.int (1 : Int32)), .val (.int (own_b ((1 : Int32) = (0 : Int32)))), .val (.int (1 : Int32)), .val (.int (own_b ((1 : Int32) = (0 : Int32)))), .val (.int (1 : Int32))] [(.int (1 : Int32))])) _
      refine XS.ifNo X33.here hx rfl (hb hby at_220) rfl ((if0 _ _).trans (feq (by decide : ¬ ((1 : Int32) = (0 : Int32)))).1) ?_
      show Steps p.tables e below (T33.setTop (mkF m 223 #[.val (.long id), .second, .val (.long start), .second, .val (.long dur), .second, .val (.long rat), .second, .val (.int refu), .val (.int fl), .val (.int (own_b (¬ (fl &&& (1 : Int32)) = (0 : Int32)))), .val (.int (own_b (¬ (fl &&& (2 : Int32)) = (0 : Int32)))), .val (.ref b5), .val (.ref b7), .val (.ref dv), .val (.ref b23), .val (.int (1 : Int32)), .val (.int (own_b ((0 : Int32) = (0 : Int32)))), .val (.int (1 : Int32)), .val (.int (own_b ((1 : Int32) = (0 : Int32)))), .val (.int (1 : Int32)), .val (.int (own_b ((1 : Int32) = (0 : Int32)))), .val (.int (1 : Int32))] [])) _
      refine XS.iload X33.here hx rfl (hb hby at_223) rfl ?_
      show Steps p.tables e below (T33.setTop (mkF m 225 #[.val (.long id), .second, .val (.long start), .second, .val (.long dur), .second, .val (.long rat), .second, .val (.int refu), .val (.int fl), .val (.int (own_b (¬ (fl &&& (1 : Int32)) = (0 : Int32)))), .val (.int (own_b (¬ (fl &&& (2 : Int32)) = (0 : Int32)))), .val (.ref b5), .val (.ref b7), .val (.ref dv), .val (.ref b23), .val (.int (1 : Int32)), .val (.int (own_b ((0 : Int32) = (0 : Int32)))), .val (.int (1 : Int32)), .val (.int (own_b ((1 : Int32) = (0 : Int32)))), .val (.int (1 : Int32)), .val (.int (own_b ((1 : Int32) = (0 : Int32)))), .val (.int (1 : Int32))] [(.int (own_b ((0 : Int32) = (0 : Int32))))])) _
      refine XS.ifNo X33.here hx rfl (hb hby at_225) rfl ((if0 _ _).trans (feq (by decide)).1) ?_
      show Steps p.tables e below (T33.setTop (mkF m 228 #[.val (.long id), .second, .val (.long start), .second, .val (.long dur), .second, .val (.long rat), .second, .val (.int refu), .val (.int fl), .val (.int (own_b (¬ (fl &&& (1 : Int32)) = (0 : Int32)))), .val (.int (own_b (¬ (fl &&& (2 : Int32)) = (0 : Int32)))), .val (.ref b5), .val (.ref b7), .val (.ref dv), .val (.ref b23), .val (.int (1 : Int32)), .val (.int (own_b ((0 : Int32) = (0 : Int32)))), .val (.int (1 : Int32)), .val (.int (own_b ((1 : Int32) = (0 : Int32)))), .val (.int (1 : Int32)), .val (.int (own_b ((1 : Int32) = (0 : Int32)))), .val (.int (1 : Int32))] [])) _
      refine XS.iload X33.here hx rfl (hb hby at_228) rfl ?_
      show Steps p.tables e below (T33.setTop (mkF m 230 #[.val (.long id), .second, .val (.long start), .second, .val (.long dur), .second, .val (.long rat), .second, .val (.int refu), .val (.int fl), .val (.int (own_b (¬ (fl &&& (1 : Int32)) = (0 : Int32)))), .val (.int (own_b (¬ (fl &&& (2 : Int32)) = (0 : Int32)))), .val (.ref b5), .val (.ref b7), .val (.ref dv), .val (.ref b23), .val (.int (1 : Int32)), .val (.int (own_b ((0 : Int32) = (0 : Int32)))), .val (.int (1 : Int32)), .val (.int (own_b ((1 : Int32) = (0 : Int32)))), .val (.int (1 : Int32)), .val (.int (own_b ((1 : Int32) = (0 : Int32)))), .val (.int (1 : Int32))] [(.int (1 : Int32))])) _
      refine XS.ifNo X33.here hx rfl (hb hby at_230) rfl ((if0 _ _).trans (feq (by decide : ¬ ((1 : Int32) = (0 : Int32)))).1) ?_
      show Steps p.tables e below (T33.setTop (mkF m 233 #[.val (.long id), .second, .val (.long start), .second, .val (.long dur), .second, .val (.long rat), .second, .val (.int refu), .val (.int fl), .val (.int (own_b (¬ (fl &&& (1 : Int32)) = (0 : Int32)))), .val (.int (own_b (¬ (fl &&& (2 : Int32)) = (0 : Int32)))), .val (.ref b5), .val (.ref b7), .val (.ref dv), .val (.ref b23), .val (.int (1 : Int32)), .val (.int (own_b ((0 : Int32) = (0 : Int32)))), .val (.int (1 : Int32)), .val (.int (own_b ((1 : Int32) = (0 : Int32)))), .val (.int (1 : Int32)), .val (.int (own_b ((1 : Int32) = (0 : Int32)))), .val (.int (1 : Int32))] [])) _
      refine XS.iload X33.here hx rfl (hb hby at_233) rfl ?_
      show Steps p.tables e below (T33.setTop (mkF m 235 #[.val (.long id), .second, .val (.long start), .second, .val (.long dur), .second, .val (.long rat), .second, .val (.int refu), .val (.int fl), .val (.int (own_b (¬ (fl &&& (1 : Int32)) = (0 : Int32)))), .val (.int (own_b (¬ (fl &&& (2 : Int32)) = (0 : Int32)))), .val (.ref b5), .val (.ref b7), .val (.ref dv), .val (.ref b23), .val (.int (1 : Int32)), .val (.int (own_b ((0 : Int32) = (0 : Int32)))), .val (.int (1 : Int32)), .val (.int (own_b ((1 : Int32) = (0 : Int32)))), .val (.int (1 : Int32)), .val (.int (own_b ((1 : Int32) = (0 : Int32)))), .val (.int (1 : Int32))] [(.int (own_b ((1 : Int32) = (0 : Int32))))])) _
      refine XS.ifNo X33.here hx rfl (hb hby at_235) rfl ((if0 _ _).trans (teq (by decide)).2) ?_
      show Steps p.tables e below (T33.setTop (mkF m 238 #[.val (.long id), .second, .val (.long start), .second, .val (.long dur), .second, .val (.long rat), .second, .val (.int refu), .val (.int fl), .val (.int (own_b (¬ (fl &&& (1 : Int32)) = (0 : Int32)))), .val (.int (own_b (¬ (fl &&& (2 : Int32)) = (0 : Int32)))), .val (.ref b5), .val (.ref b7), .val (.ref dv), .val (.ref b23), .val (.int (1 : Int32)), .val (.int (own_b ((0 : Int32) = (0 : Int32)))), .val (.int (1 : Int32)), .val (.int (own_b ((1 : Int32) = (0 : Int32)))), .val (.int (1 : Int32)), .val (.int (own_b ((1 : Int32) = (0 : Int32)))), .val (.int (1 : Int32))] [])) _
      refine XS.iload X33.here hx rfl (hb hby at_238) rfl ?_
      show Steps p.tables e below (T33.setTop (mkF m 240 #[.val (.long id), .second, .val (.long start), .second, .val (.long dur), .second, .val (.long rat), .second, .val (.int refu), .val (.int fl), .val (.int (own_b (¬ (fl &&& (1 : Int32)) = (0 : Int32)))), .val (.int (own_b (¬ (fl &&& (2 : Int32)) = (0 : Int32)))), .val (.ref b5), .val (.ref b7), .val (.ref dv), .val (.ref b23), .val (.int (1 : Int32)), .val (.int (own_b ((0 : Int32) = (0 : Int32)))), .val (.int (1 : Int32)), .val (.int (own_b ((1 : Int32) = (0 : Int32)))), .val (.int (1 : Int32)), .val (.int (own_b ((1 : Int32) = (0 : Int32)))), .val (.int (1 : Int32))] [(.int (1 : Int32))])) _
      refine XS.ifNo X33.here hx rfl (hb hby at_240) rfl ((if0 _ _).trans (feq (by decide : ¬ ((1 : Int32) = (0 : Int32)))).1) ?_
      show Steps p.tables e below (T33.setTop (mkF m 243 #[.val (.long id), .second, .val (.long start), .second, .val (.long dur), .second, .val (.long rat), .second, .val (.int refu), .val (.int fl), .val (.int (own_b (¬ (fl &&& (1 : Int32)) = (0 : Int32)))), .val (.int (own_b (¬ (fl &&& (2 : Int32)) = (0 : Int32)))), .val (.ref b5), .val (.ref b7), .val (.ref dv), .val (.ref b23), .val (.int (1 : Int32)), .val (.int (own_b ((0 : Int32) = (0 : Int32)))), .val (.int (1 : Int32)), .val (.int (own_b ((1 : Int32) = (0 : Int32)))), .val (.int (1 : Int32)), .val (.int (own_b ((1 : Int32) = (0 : Int32)))), .val (.int (1 : Int32))] [])) _
      refine XS.iload X33.here hx rfl (hb hby at_243) rfl ?_
      show Steps p.tables e below (T33.setTop (mkF m 245 #[.val (.long id), .second, .val (.long start), .second, .val (.long dur), .second, .val (.long rat), .second, .val (.int refu), .val (.int fl), .val (.int (own_b (¬ (fl &&& (1 : Int32)) = (0 : Int32)))), .val (.int (own_b (¬ (fl &&& (2 : Int32)) = (0 : Int32)))), .val (.ref b5), .val (.ref b7), .val (.ref dv), .val (.ref b23), .val (.int (1 : Int32)), .val (.int (own_b ((0 : Int32) = (0 : Int32)))), .val (.int (1 : Int32)), .val (.int (own_b ((1 : Int32) = (0 : Int32)))), .val (.int (1 : Int32)), .val (.int (own_b ((1 : Int32) = (0 : Int32)))), .val (.int (1 : Int32))] [(.int (own_b ((1 : Int32) = (0 : Int32))))])) _
      refine XS.ifNo X33.here hx rfl (hb hby at_245) rfl ((if0 _ _).trans (teq (by decide)).2) ?_
      show Steps p.tables e below (T33.setTop (mkF m 248 #[.val (.long id), .second, .val (.long start), .second, .val (.long dur), .second, .val (.long rat), .second, .val (.int refu), .val (.int fl), .val (.int (own_b (¬ (fl &&& (1 : Int32)) = (0 : Int32)))), .val (.int (own_b (¬ (fl &&& (2 : Int32)) = (0 : Int32)))), .val (.ref b5), .val (.ref b7), .val (.ref dv), .val (.ref b23), .val (.int (1 : Int32)), .val (.int (own_b ((0 : Int32) = (0 : Int32)))), .val (.int (1 : Int32)), .val (.int (own_b ((1 : Int32) = (0 : Int32)))), .val (.int (1 : Int32)), .val (.int (own_b ((1 : Int32) = (0 : Int32)))), .val (.int (1 : Int32))] [])) _
      refine XS.iload X33.here hx rfl (hb hby at_248) rfl ?_
      show Steps p.tables e below (T33.setTop (mkF m 250 #[.val (.long id), .second, .val (.long start), .second, .val (.long dur), .second, .val (.long rat), .second, .val (.int refu), .val (.int fl), .val (.int (own_b (¬ (fl &&& (1 : Int32)) = (0 : Int32)))), .val (.int (own_b (¬ (fl &&& (2 : Int32)) = (0 : Int32)))), .val (.ref b5), .val (.ref b7), .val (.ref dv), .val (.ref b23), .val (.int (1 : Int32)), .val (.int (own_b ((0 : Int32) = (0 : Int32)))), .val (.int (1 : Int32)), .val (.int (own_b ((1 : Int32) = (0 : Int32)))), .val (.int (1 : Int32)), .val (.int (own_b ((1 : Int32) = (0 : Int32)))), .val (.int (1 : Int32))] [(.int (1 : Int32))])) _
      refine XS.ifNo X33.here hx rfl (hb hby at_250) rfl ((if0 _ _).trans (feq (by decide : ¬ ((1 : Int32) = (0 : Int32)))).1) ?_
      show Steps p.tables e below (T33.setTop (mkF m 253 #[.val (.long id), .second, .val (.long start), .second, .val (.long dur), .second, .val (.long rat), .second, .val (.int refu), .val (.int fl), .val (.int (own_b (¬ (fl &&& (1 : Int32)) = (0 : Int32)))), .val (.int (own_b (¬ (fl &&& (2 : Int32)) = (0 : Int32)))), .val (.ref b5), .val (.ref b7), .val (.ref dv), .val (.ref b23), .val (.int (1 : Int32)), .val (.int (own_b ((0 : Int32) = (0 : Int32)))), .val (.int (1 : Int32)), .val (.int (own_b ((1 : Int32) = (0 : Int32)))), .val (.int (1 : Int32)), .val (.int (own_b ((1 : Int32) = (0 : Int32)))), .val (.int (1 : Int32))] [])) _
      refine XS.iconst X33.here hx rfl (hb hby at_253) ?_
      show Steps p.tables e below (T33.setTop (mkF m 254 #[.val (.long id), .second, .val (.long start), .second, .val (.long dur), .second, .val (.long rat), .second, .val (.int refu), .val (.int fl), .val (.int (own_b (¬ (fl &&& (1 : Int32)) = (0 : Int32)))), .val (.int (own_b (¬ (fl &&& (2 : Int32)) = (0 : Int32)))), .val (.ref b5), .val (.ref b7), .val (.ref dv), .val (.ref b23), .val (.int (1 : Int32)), .val (.int (own_b ((0 : Int32) = (0 : Int32)))), .val (.int (1 : Int32)), .val (.int (own_b ((1 : Int32) = (0 : Int32)))), .val (.int (1 : Int32)), .val (.int (own_b ((1 : Int32) = (0 : Int32)))), .val (.int (1 : Int32))] [(.int (1 : Int32))])) _
      refine XS.goto X33.here hx rfl (pc0 := 254) (pc' := 258) rfl (hb hby at_254) (by decide) (by decide) ?_
      exact k
    exact own_retN X33 hx Bd.notSynchronized (t := .boolean) Bd.returns (by simp) (hb hby at_258) ⟨rfl, N33⟩ (by decide) (by decide)
set_option maxRecDepth 65536 in
set_option maxHeartbeats 40000000 in
theorem comes_1 {Post : Tables → Env → Array Value → State → Outcome → State → Prop} (hpost : ∀ tb e args s v u, (limb_1_1.after args s (.returned v) u = true ∧ limb_1_2.after args s (.returned v) u = true ∧ True) → FrameEnd s (.returned v) u (Jvm.fieldLocs frame_1_writes args s ++ Jvm.arrayLocs frame_1_arrays args s ++ Jvm.staticLocs frame_1_statics s) 24 128 → Post tb e args s (.returned v) u) :
    ArmFor flags0 classFile x code maxLocals ret World_1 tables_1 room_1 Calls_1 rest_1 Pre_1 Post := by
  intro l hfl _ _ p e ha hc hk s m args below hf hA hF happ hP
  obtain ⟨hcalls, hrest, hpre⟩ := hP
  obtain ⟨-, -, -, hnamed, -, -, -, hat⟩ := (Spec.applies_iff hf).mp happ
  obtain ⟨hg, hn⟩ := and_e (Cond.before_iff.mp (show (Jvm.Cond.and given_1 narrow_1).before args s = true from hpre))
  obtain ⟨g1, g2⟩ := and_e hg
  obtain ⟨g3, g4⟩ := and_e g2
  obtain ⟨g5, g6⟩ := and_e g4
  obtain ⟨g7, g8⟩ := and_e g6
  obtain ⟨g9, g10⟩ := and_e g8
  obtain ⟨g11, g12⟩ := and_e g10
  obtain ⟨w0, w1, w2, w3, w4, w5, rfl⟩ : ∃ w0 w1 w2 w3 w4 w5 : Value, args = #[w0, w1, w2, w3, w4, w5] := by
    have hs : args.size = 6 := by simpa [Cond.value, given_1] using g1
    obtain ⟨L⟩ := args
    match L, hs with
    | [w0, w1, w2, w3, w4, w5], _ => exact ⟨w0, w1, w2, w3, w4, w5, rfl⟩
  have hw := fun d (hd : d ∈ tables_1) => atoms_spec (ws := Jvm.Cond.code x code maxLocals ret :: tables_1) hat d (List.mem_cons_of_mem _ hd)
  have hfit : Fit s := fun {y c} hc i hi => by
    obtain ⟨ha, rfl⟩ := Array.getElem?_eq_some_iff.mp hc
    have q := List.all_eq_true.mp ((Array.all_eq_true_iff_forall_mem.mp hF) _ (Array.getElem_mem ha)) i (List.mem_range.mpr hi)
    simpa [Array.getElem?_eq_getElem hi] using q
  obtain ⟨hsets, hown0⟩ := atoms_of _ (rest_1_c_eq ▸ (show rest_1_c.before _ s = true from hrest))
  have hr0 := Cond.before_iff.mp hown0
  obtain ⟨i0, ei0⟩ := isL_v g3
  obtain rfl : w0 = (.long i0) := Option.some.inj ei0
  obtain ⟨i1, ei1⟩ := isL_v g5
  obtain rfl : w1 = (.long i1) := Option.some.inj ei1
  obtain ⟨i2, ei2⟩ := isL_v g7
  obtain rfl : w2 = (.long i2) := Option.some.inj ei2
  obtain ⟨i3, ei3⟩ := isL_v g9
  obtain rfl : w3 = (.long i3) := Option.some.inj ei3
  obtain ⟨i4, ei4⟩ := is_v g11
  obtain rfl : w4 = (.int i4) := Option.some.inj ei4
  obtain ⟨i5, ei5⟩ := is_v g12
  obtain rfl : w5 = (.int i5) := Option.some.inj ei5
  have hE := Cond.before_iff.mp (hsets _ (List.mem_of_getElem? (i := 2) rfl))
  obtain ⟨em, evE⟩ := exa_v hE
  have S_E := Sta.start evE (Or.inl (hsets _ (List.mem_of_getElem? (i := 1) rfl)))
  have hD := hn
  obtain ⟨dv, evD⟩ := exa_v hD
  have S_D := Sta.start evD (Or.inr ⟨(hw _ (List.mem_of_getElem? (i := 122) rfl)), (hw _ (List.mem_of_getElem? (i := 148) rfl))⟩)
  have E_D := Exa.start evD hD
  obtain ⟨n, o, h1, h2, h3, _, L, rfl, ⟨rfl, N⟩, hq⟩ := rm0 l s _ hw tables_1 i0 i1 i2 i3 i4 i5 em dv s.heap s.heap.size (Nat.le_refl _) S_E S_D E_D p e ha hc hk s m _ below hf ((Spec.applies_iff_loose hf).mp happ).1 ⟨rfl, State.Warmed39.refl s, rfl⟩ trivial
  refine ⟨n, _, h1, h2, h3, hpost _ _ _ _ _ _ ⟨Cond.after_iff.mpr rfl, Cond.after_iff.mpr (eq_i res_at (Term.int_eval (1)) rfl), trivial⟩ ⟨hq.1, hq.2.1, (hq.2.2.sift fun y hy => Or.inr (N y hy)).mono (by decide) (by decide)⟩⟩
theorem main_1_1 : Claimed_1_1 := comes_1 fun _ _ _ _ _ _ h hF => ⟨h.1, hF⟩
theorem main_1_2 : Claimed_1_2 := comes_1 fun _ _ _ _ _ _ h hF => ⟨h.2.1, hF⟩
end Jvm.Pilot.@@N@@
namespace Jvm.Pilot.@@N@@
open Jvm Jvm.ClassFile Sem Op Lib Jvm.Free Jvm.Stand Jvm.Pilot.@@N@@.Jvm.D
/-! MADE BY PROGRAM (witnessworld.py) out of the Statement's table words and the real class files: 28 classes; the members and pool entries that the words name. The judged class is class 1, her method 1. -/
namespace start1
open Jvm.ClassFile
def u (s : String) : CpInfo := .utf8 (stringToUtf16 s)
/-- a pool by its gaps: so many unusable entries, then the entry; so many at the end -/
def gap : Nat → List CpInfo → List CpInfo
  | 0, r => r
  | n + 1, r => .unusable :: gap n r
def poolList (es : List (Nat × CpInfo)) (last : Nat) : List CpInfo := es.foldr (fun e r => gap e.1 (e.2 :: r)) (gap last [])
def pool (es : List (Nat × CpInfo)) (last : Nat) : Array CpInfo := ⟨poolList es last⟩
def fileOf (pool : Array CpInfo) (this : Nat) (attrs : Array Attribute := #[]) (ms : Array MethodInfo := #[]) (fl : Nat := 33) (sup : Nat := 0) (ifs : Array Nat := #[]) (fds : Array FieldInfo := #[]) : ClassFile where
  minorVersion := 0
  majorVersion := 65
  constantPool := pool
  accessFlags := fl
  thisClass := this
  superClass := sup
  interfaces := ifs
  fields := fds
  methods := ms
  attributes := attrs
def plain (name : String) (sup : Option ClassId) : Class where
  name := name
  kind := .ordinary
  loader := none
  accessFlags := 33
  super := sup
  interfaces := #[]
  cf := none
  fields := #[]
  methods := #[]
  instanceTypes := #[]
  staticTypes := #[]
  resolved := #[]
  callSites := []
  init := .initialized
  statics := none
  mirror := none

def pool0 : Array CpInfo := pool [(5, u "<init>"), (0, u "()V"), (1, .class_ 10), (1, u "java/lang/Object")] 113

def k0c0 : Code := { maxStack := 0, maxLocals := 1, code := object_method_1_code, exceptionTable := #[], attributes := #[] }
def k0m0 : Method := { name := "<init>", desc := "()V", sig := { parameters := [], returnType := none }, accessFlags := 1, code := some k0c0 }
/-- java/lang/Object -/
def k0 : Class := { plain "java/lang/Object" none with
  accessFlags := 33
  interfaces := #[]
  cf := some (fileOf pool0 8 #[] #[{ accessFlags := 1, nameIndex := 5, descriptorIndex := 6, attributes := #[] }] 33 0 #[] #[])
  fields := #[]
  methods := #[k0m0]
  instanceTypes := #[]
  staticTypes := #[]
  resolved := Array.replicate 124 none
  statics := none }

def pool1 : Array CpInfo := pool [(2, .class_ 4), (1, u "java/lang/Object"), (0, u "<init>"), (0, u "()V"), (0, .class_ 8), (0, u "com/example/lichen/lichen/continuous/Span"), (0, .methodref 7 10), (0, .nameAndType 5 11), (0, u "(JJJILcom/example/lichen/lichen/bucket/Granularity;)V"), (0, .class_ 13), (0, u "com/example/lichen/lichen/continuous/TakenSpan"), (0, .methodref 12 15), (0, .nameAndType 5 16), (0, u "(JLjava/lang/String;ILcom/example/lichen/lichen/continuous/Span;IZLcom/example/lichen/lichen/usage/Target;Ljava/util/List;)V"), (0, .fieldref 18 19), (0, .class_ 20), (0, .nameAndType 21 22), (0, u "com/example/lichen/lichen/continuous/Settlement$Outcome"), (0, u "DELIVERED"), (0, u "Lcom/example/lichen/lichen/continuous/Settlement$Outcome;"), (0, .methodref 18 24), (0, .nameAndType 5 25), (0, u "(JIZ)V"), (0, .long 18446744073709551615), (1, .methodref 12 29), (0, .nameAndType 30 31), (0, u "outcome"), (0, u "(I)Lcom/example/lichen/lichen/continuous/Settlement$Outcome;"), (0, .methodref 12 33), (0, .nameAndType 34 35), (0, u "settle"), (0, u "(ILcom/example/lichen/lichen/continuous/Settlement$Outcome;)Z"), (0, .class_ 37), (0, u "com/example/lichen/lichen/continuous/TakenSpanSettlePinLaw"), (2, u "law"), (0, u "(JJJJII)Z")] 7

def k1m0 : Method := { name := "<init>", desc := "()V", sig := { parameters := [], returnType := none }, accessFlags := 1, code := none }
def k1c1 : Code := { maxStack := 11, maxLocals := 23, code := code, exceptionTable := #[], attributes := #[] }
def k1m1 : Method := { name := "law", desc := "(JJJJII)Z", sig := { parameters := [.long, .long, .long, .long, .int, .int], returnType := some .boolean }, accessFlags := 9, code := some k1c1 }
/-- com/example/lichen/lichen/continuous/TakenSpanSettlePinLaw -/
def k1 : Class := { plain "com/example/lichen/lichen/continuous/TakenSpanSettlePinLaw" (some 0) with
  accessFlags := 49
  interfaces := #[]
  cf := some (fileOf pool1 36 #[] #[{ accessFlags := 1, nameIndex := 5, descriptorIndex := 6, attributes := #[] }, { accessFlags := 9, nameIndex := 40, descriptorIndex := 41, attributes := #[] }] 49 2 #[] #[])
  fields := #[]
  methods := #[k1m0, k1m1]
  instanceTypes := #[]
  staticTypes := #[]
  resolved := Array.replicate 49 none
  statics := none }

def pool2 : Array CpInfo := pool [(1, .methodref 2 3), (0, .class_ 4), (0, .nameAndType 5 6), (0, u "java/lang/Object"), (0, u "<init>"), (0, u "()V"), (0, .fieldref 8 9), (0, .class_ 10), (0, .nameAndType 11 12), (0, u "com/example/lichen/lichen/continuous/Span"), (0, u "usageId"), (0, u "J"), (0, .fieldref 8 14), (0, .nameAndType 15 12), (0, u "start"), (0, .fieldref 8 17), (0, .nameAndType 18 12), (0, u "duration"), (0, .fieldref 8 20), (0, .nameAndType 21 22), (0, u "measures"), (0, u "I"), (0, .fieldref 8 24), (0, .nameAndType 25 26), (0, u "granularity"), (0, u "Lcom/example/lichen/lichen/bucket/Granularity;"), (0, .methodref 28 29), (0, .class_ 30), (0, .nameAndType 31 32), (0, u "java/lang/Math"), (0, u "abs"), (0, u "(J)J"), (0, .class_ 34), (0, u "com/example/lichen/lichen/bucket/Slice"), (0, .methodref 33 36), (0, .nameAndType 5 37), (0, u "(JJ)V"), (0, .interfaceMethodref 39 40), (0, .class_ 41), (0, .nameAndType 42 43), (0, u "java/util/List"), (0, u "of"), (0, u "(Ljava/lang/Object;)Ljava/util/List;"), (8, u "slices"), (1, .fieldref 8 55), (0, .nameAndType 52 56), (0, u "Ljava/util/List;"), (20, u "(JJJILcom/example/lichen/lichen/bucket/Granularity;)V"), (0, .interfaceMethodref 39 79), (0, .nameAndType 80 81), (0, u "size"), (0, u "()I"), (28, u "intervals")] 4

def k2c0 : Code := { maxStack := 8, maxLocals := 11, code := prog_19_method_1_code, exceptionTable := #[], attributes := #[] }
def k2m0 : Method := { name := "<init>", desc := "(JJJILcom/example/lichen/lichen/bucket/Granularity;)V", sig := { parameters := [.long, .long, .long, .int, (.object "com/example/lichen/lichen/bucket/Granularity")], returnType := none }, accessFlags := 0, code := some k2c0 }
def k2c1 : Code := { maxStack := 1, maxLocals := 1, code := prog_19_method_9_code, exceptionTable := #[], attributes := #[] }
def k2m1 : Method := { name := "intervals", desc := "()I", sig := { parameters := [], returnType := some .int }, accessFlags := 0, code := some k2c1 }
/-- com/example/lichen/lichen/continuous/Span -/
def k2 : Class := { plain "com/example/lichen/lichen/continuous/Span" (some 0) with
  accessFlags := 48
  interfaces := #[]
  cf := some (fileOf pool2 8 #[] #[{ accessFlags := 0, nameIndex := 5, descriptorIndex := 77, attributes := #[] }, { accessFlags := 0, nameIndex := 110, descriptorIndex := 81, attributes := #[] }] 48 2 #[] #[{ accessFlags := 18, nameIndex := 11, descriptorIndex := 12, attributes := #[] }, { accessFlags := 18, nameIndex := 15, descriptorIndex := 12, attributes := #[] }, { accessFlags := 18, nameIndex := 18, descriptorIndex := 12, attributes := #[] }, { accessFlags := 18, nameIndex := 21, descriptorIndex := 22, attributes := #[] }, { accessFlags := 18, nameIndex := 25, descriptorIndex := 26, attributes := #[] }, { accessFlags := 18, nameIndex := 52, descriptorIndex := 56, attributes := #[] }])
  fields := #[{ name := "usageId", type := .long, accessFlags := 18, slot := 0, constantValue := 0 }, { name := "start", type := .long, accessFlags := 18, slot := 1, constantValue := 0 }, { name := "duration", type := .long, accessFlags := 18, slot := 2, constantValue := 0 }, { name := "measures", type := .int, accessFlags := 18, slot := 3, constantValue := 0 }, { name := "granularity", type := (.object "com/example/lichen/lichen/bucket/Granularity"), accessFlags := 18, slot := 4, constantValue := 0 }, { name := "slices", type := (.object "java/util/List"), accessFlags := 18, slot := 5, constantValue := 0 }]
  methods := #[k2m0, k2m1]
  instanceTypes := #[.long, .long, .long, .int, (.object "com/example/lichen/lichen/bucket/Granularity"), (.object "java/util/List")]
  staticTypes := #[]
  resolved := Array.replicate 115 none
  statics := none }

def pool3 : Array CpInfo := pool [(1, .class_ 2), (0, u "java/lang/Math"), (1, .class_ 6), (1, u "java/lang/Object"), (0, u "<init>"), (0, u "()V"), (89, .class_ 100), (1, u "java/lang/Math$RandomNumberGeneratorHolder"), (23, u "abs"), (0, u "(J)J"), (46, u "negativeZeroFloatBits"), (0, u "J"), (2, u "negativeZeroDoubleBits"), (68, u "$assertionsDisabled"), (0, u "Z"), (91, u "twoToTheDoubleScaleDown"), (0, u "D"), (4, u "twoToTheDoubleScaleUp"), (9, u "E"), (3, u "PI"), (2, u "TAU"), (2, u "DEGREES_TO_RADIANS"), (0, u "RADIANS_TO_DEGREES")] 94

def k3m0 : Method := { name := "<init>", desc := "()V", sig := { parameters := [], returnType := none }, accessFlags := 2, code := none }
def k3c1 : Code := { maxStack := 4, maxLocals := 2, code := jdk_29_method_61_code, exceptionTable := #[], attributes := #[] }
def k3m1 : Method := { name := "abs", desc := "(J)J", sig := { parameters := [.long], returnType := some .long }, accessFlags := 9, code := some k3c1 }
/-- java/lang/Math -/
def k3 : Class := { plain "java/lang/Math" (some 0) with
  accessFlags := 49
  interfaces := #[]
  cf := some (fileOf pool3 1 #[.nestMembers #[98]] #[{ accessFlags := 2, nameIndex := 7, descriptorIndex := 8, attributes := #[] }, { accessFlags := 9, nameIndex := 124, descriptorIndex := 125, attributes := #[] }] 49 4 #[] #[{ accessFlags := 25, nameIndex := 354, descriptorIndex := 339, attributes := #[] }, { accessFlags := 25, nameIndex := 358, descriptorIndex := 339, attributes := #[] }, { accessFlags := 25, nameIndex := 361, descriptorIndex := 339, attributes := #[] }, { accessFlags := 26, nameIndex := 364, descriptorIndex := 339, attributes := #[] }, { accessFlags := 26, nameIndex := 365, descriptorIndex := 339, attributes := #[] }, { accessFlags := 26, nameIndex := 172, descriptorIndex := 173, attributes := #[] }, { accessFlags := 26, nameIndex := 176, descriptorIndex := 173, attributes := #[] }, { accessFlags := 8, nameIndex := 344, descriptorIndex := 339, attributes := #[] }, { accessFlags := 8, nameIndex := 338, descriptorIndex := 339, attributes := #[] }, { accessFlags := 4120, nameIndex := 245, descriptorIndex := 246, attributes := #[] }])
  fields := #[{ name := "E", type := .double, accessFlags := 25, slot := 0, constantValue := 0 }, { name := "PI", type := .double, accessFlags := 25, slot := 1, constantValue := 0 }, { name := "TAU", type := .double, accessFlags := 25, slot := 2, constantValue := 0 }, { name := "DEGREES_TO_RADIANS", type := .double, accessFlags := 26, slot := 3, constantValue := 0 }, { name := "RADIANS_TO_DEGREES", type := .double, accessFlags := 26, slot := 4, constantValue := 0 }, { name := "negativeZeroFloatBits", type := .long, accessFlags := 26, slot := 5, constantValue := 0 }, { name := "negativeZeroDoubleBits", type := .long, accessFlags := 26, slot := 6, constantValue := 0 }, { name := "twoToTheDoubleScaleUp", type := .double, accessFlags := 8, slot := 7, constantValue := 0 }, { name := "twoToTheDoubleScaleDown", type := .double, accessFlags := 8, slot := 8, constantValue := 0 }, { name := "$assertionsDisabled", type := .boolean, accessFlags := 4120, slot := 9, constantValue := 0 }]
  methods := #[k3m0, k3m1]
  instanceTypes := #[]
  staticTypes := #[.double, .double, .double, .double, .double, .long, .long, .double, .double, .boolean]
  resolved := Array.replicate 460 none
  statics := none }

def pool4 : Array CpInfo := pool [(1, .methodref 2 3), (0, .class_ 4), (0, .nameAndType 5 6), (0, u "java/lang/Object"), (0, u "<init>"), (0, u "()V"), (0, .fieldref 8 9), (0, .class_ 10), (0, .nameAndType 11 12), (0, u "com/example/lichen/lichen/bucket/Slice"), (0, u "bucketStart"), (0, u "J"), (0, .fieldref 8 14), (0, .nameAndType 15 12), (0, u "millis"), (10, u "(JJ)V")] 26

def k4c0 : Code := { maxStack := 3, maxLocals := 5, code := prog_14_method_1_code, exceptionTable := #[], attributes := #[] }
def k4m0 : Method := { name := "<init>", desc := "(JJ)V", sig := { parameters := [.long, .long], returnType := none }, accessFlags := 1, code := some k4c0 }
/-- com/example/lichen/lichen/bucket/Slice -/
def k4 : Class := { plain "com/example/lichen/lichen/bucket/Slice" (some 0) with
  accessFlags := 49
  interfaces := #[]
  cf := some (fileOf pool4 8 #[] #[{ accessFlags := 1, nameIndex := 5, descriptorIndex := 26, attributes := #[] }] 49 2 #[] #[{ accessFlags := 18, nameIndex := 11, descriptorIndex := 12, attributes := #[] }, { accessFlags := 18, nameIndex := 15, descriptorIndex := 12, attributes := #[] }])
  fields := #[{ name := "bucketStart", type := .long, accessFlags := 18, slot := 0, constantValue := 0 }, { name := "millis", type := .long, accessFlags := 18, slot := 1, constantValue := 0 }]
  methods := #[k4m0]
  instanceTypes := #[.long, .long]
  staticTypes := #[]
  resolved := Array.replicate 53 none
  statics := none }

def pool5 : Array CpInfo := pool [(8, .class_ 10), (1, u "java/lang/Iterable"), (24, .class_ 36), (0, u "java/lang/Object")] 25

/-- java/lang/Iterable -/
def k5 : Class := { plain "java/lang/Iterable" (some 0) with
  accessFlags := 1537
  interfaces := #[]
  cf := some (fileOf pool5 8 #[] #[] 1537 35 #[] #[])
  fields := #[]
  methods := #[]
  instanceTypes := #[]
  staticTypes := #[]
  resolved := Array.replicate 62 none
  statics := none }

def pool6 : Array CpInfo := pool [(10, .class_ 12), (1, u "java/util/Collection"), (47, .class_ 61), (0, u "java/lang/Object"), (0, .class_ 63), (0, u "java/lang/Iterable")] 51

/-- java/util/Collection -/
def k6 : Class := { plain "java/util/Collection" (some 0) with
  accessFlags := 1537
  interfaces := #[5]
  cf := some (fileOf pool6 10 #[] #[] 1537 60 #[62] #[])
  fields := #[]
  methods := #[]
  instanceTypes := #[]
  staticTypes := #[]
  resolved := Array.replicate 115 none
  statics := none }

def pool7 : Array CpInfo := pool [(8, .class_ 10), (1, u "java/util/SequencedCollection"), (15, .class_ 27), (0, u "java/lang/Object"), (0, .class_ 29), (0, u "java/util/Collection")] 27

/-- java/util/SequencedCollection -/
def k7 : Class := { plain "java/util/SequencedCollection" (some 0) with
  accessFlags := 1537
  interfaces := #[6]
  cf := some (fileOf pool7 8 #[] #[] 1537 26 #[28] #[])
  fields := #[]
  methods := #[]
  instanceTypes := #[]
  staticTypes := #[]
  resolved := Array.replicate 57 none
  statics := none }

def pool8 : Array CpInfo := pool [(8, .class_ 10), (1, u "java/util/List"), (20, u "(Ljava/lang/Object;)V"), (16, u "<init>"), (30, u "size"), (0, u "()I"), (7, u "of"), (7, .class_ 97), (0, u "java/util/ImmutableCollections$List12"), (0, .methodref 96 99), (0, .nameAndType 48 31), (3, .class_ 104), (0, u "java/lang/Object"), (15, .class_ 121), (0, u "java/util/SequencedCollection"), (76, u "(Ljava/lang/Object;)Ljava/util/List;")] 52

def k8m0 : Method := { name := "size", desc := "()I", sig := { parameters := [], returnType := some .int }, accessFlags := 1025, code := none }
def k8c1 : Code := { maxStack := 3, maxLocals := 1, code := jdk_40_method_37_code, exceptionTable := #[], attributes := #[] }
def k8m1 : Method := { name := "of", desc := "(Ljava/lang/Object;)Ljava/util/List;", sig := { parameters := [(.object "java/lang/Object")], returnType := some (.object "java/util/List") }, accessFlags := 9, code := some k8c1 }
/-- java/util/List -/
def k8 : Class := { plain "java/util/List" (some 0) with
  accessFlags := 1537
  interfaces := #[7]
  cf := some (fileOf pool8 8 #[] #[{ accessFlags := 1025, nameIndex := 79, descriptorIndex := 80, attributes := #[] }, { accessFlags := 9, nameIndex := 88, descriptorIndex := 198, attributes := #[] }] 1537 103 #[120] #[])
  fields := #[]
  methods := #[k8m0, k8m1]
  instanceTypes := #[]
  staticTypes := #[]
  resolved := Array.replicate 251 none
  statics := none }

def pool9 : Array CpInfo := pool [(1, .methodref 2 3), (0, .class_ 4), (0, .nameAndType 5 6), (0, u "java/lang/Object"), (0, u "<init>"), (0, u "()V"), (1, .class_ 10), (1, u "java/util/AbstractCollection"), (66, .class_ 78), (0, u "java/util/Collection")] 81

def k9c0 : Code := { maxStack := 1, maxLocals := 1, code := jdk_22_method_1_code, exceptionTable := #[], attributes := #[] }
def k9m0 : Method := { name := "<init>", desc := "()V", sig := { parameters := [], returnType := none }, accessFlags := 4, code := some k9c0 }
/-- java/util/AbstractCollection -/
def k9 : Class := { plain "java/util/AbstractCollection" (some 0) with
  accessFlags := 1057
  interfaces := #[6]
  cf := some (fileOf pool9 8 #[] #[{ accessFlags := 4, nameIndex := 5, descriptorIndex := 6, attributes := #[] }] 1057 2 #[77] #[])
  fields := #[]
  methods := #[k9m0]
  instanceTypes := #[]
  staticTypes := #[]
  resolved := Array.replicate 160 none
  statics := none }

def pool10 : Array CpInfo := pool [(1, .methodref 2 3), (0, .class_ 4), (0, .nameAndType 5 6), (0, u "java/util/AbstractCollection"), (0, u "<init>"), (0, u "()V"), (1, .class_ 10), (1, u "java/util/ImmutableCollections"), (2, .class_ 14), (0, u "java/util/ImmutableCollections$AbstractImmutableCollection")] 41

def k10c0 : Code := { maxStack := 1, maxLocals := 1, code := jdk_47_method_1_code, exceptionTable := #[], attributes := #[] }
def k10m0 : Method := { name := "<init>", desc := "()V", sig := { parameters := [], returnType := none }, accessFlags := 0, code := some k10c0 }
/-- java/util/ImmutableCollections$AbstractImmutableCollection -/
def k10 : Class := { plain "java/util/ImmutableCollections$AbstractImmutableCollection" (some 9) with
  accessFlags := 1056
  interfaces := #[]
  cf := some (fileOf pool10 13 #[.nestHost 8] #[{ accessFlags := 0, nameIndex := 5, descriptorIndex := 6, attributes := #[] }] 1056 2 #[] #[])
  fields := #[]
  methods := #[k10m0]
  instanceTypes := #[]
  staticTypes := #[]
  resolved := Array.replicate 56 none
  statics := none }

def pool11 : Array CpInfo := pool [(1, .class_ 2), (0, u "java/util/RandomAccess"), (0, .class_ 4), (0, u "java/lang/Object")] 2

/-- java/util/RandomAccess -/
def k11 : Class := { plain "java/util/RandomAccess" (some 0) with
  accessFlags := 1537
  interfaces := #[]
  cf := some (fileOf pool11 1 #[] #[] 1537 3 #[] #[])
  fields := #[]
  methods := #[]
  instanceTypes := #[]
  staticTypes := #[]
  resolved := Array.replicate 7 none
  statics := none }

def pool12 : Array CpInfo := pool [(1, .methodref 2 3), (0, .class_ 4), (0, .nameAndType 5 6), (0, u "java/util/ImmutableCollections$AbstractImmutableCollection"), (0, u "<init>"), (0, u "()V"), (1, .class_ 10), (1, u "java/util/ImmutableCollections"), (3, .class_ 16), (1, u "java/util/ImmutableCollections$AbstractImmutableList"), (60, .class_ 78), (0, u "java/util/List"), (45, .class_ 125), (0, u "java/util/RandomAccess")] 70

def k12c0 : Code := { maxStack := 1, maxLocals := 1, code := jdk_46_method_1_code, exceptionTable := #[], attributes := #[] }
def k12m0 : Method := { name := "<init>", desc := "()V", sig := { parameters := [], returnType := none }, accessFlags := 0, code := some k12c0 }
/-- java/util/ImmutableCollections$AbstractImmutableList -/
def k12 : Class := { plain "java/util/ImmutableCollections$AbstractImmutableList" (some 10) with
  accessFlags := 1056
  interfaces := #[8, 11]
  cf := some (fileOf pool12 14 #[.nestHost 8] #[{ accessFlags := 0, nameIndex := 5, descriptorIndex := 6, attributes := #[] }] 1056 2 #[77, 124] #[])
  fields := #[]
  methods := #[k12m0]
  instanceTypes := #[]
  staticTypes := #[]
  resolved := Array.replicate 196 none
  statics := none }

def pool13 : Array CpInfo := pool [(1, .class_ 2), (0, u "java/io/Serializable"), (0, .class_ 4), (0, u "java/lang/Object")] 2

/-- java/io/Serializable -/
def k13 : Class := { plain "java/io/Serializable" (some 0) with
  accessFlags := 1537
  interfaces := #[]
  cf := some (fileOf pool13 1 #[] #[] 1537 3 #[] #[])
  fields := #[]
  methods := #[]
  instanceTypes := #[]
  staticTypes := #[]
  resolved := Array.replicate 7 none
  statics := none }

def pool14 : Array CpInfo := pool [(1, .methodref 2 3), (0, .class_ 4), (0, .nameAndType 5 6), (0, u "java/util/ImmutableCollections$AbstractImmutableList"), (0, u "<init>"), (0, u "()V"), (0, .methodref 8 9), (0, .class_ 10), (0, .nameAndType 11 12), (0, u "java/util/Objects"), (0, u "requireNonNull"), (0, u "(Ljava/lang/Object;)Ljava/lang/Object;"), (0, .fieldref 14 15), (0, .class_ 16), (0, .nameAndType 17 18), (0, u "java/util/ImmutableCollections$List12"), (0, u "e0"), (0, u "Ljava/lang/Object;"), (0, .fieldref 20 21), (0, .class_ 22), (0, .nameAndType 23 18), (0, u "java/util/ImmutableCollections"), (0, u "EMPTY"), (0, .fieldref 14 25), (0, .nameAndType 26 18), (0, u "e1"), (24, u "size"), (0, u "()I"), (17, .class_ 71), (0, u "java/io/Serializable"), (4, u "(Ljava/lang/Object;)V")] 48

def k14c0 : Code := { maxStack := 2, maxLocals := 2, code := jdk_44_method_1_code, exceptionTable := #[], attributes := #[] }
def k14m0 : Method := { name := "<init>", desc := "(Ljava/lang/Object;)V", sig := { parameters := [(.object "java/lang/Object")], returnType := none }, accessFlags := 0, code := some k14c0 }
def k14c1 : Code := { maxStack := 2, maxLocals := 1, code := jdk_44_method_3_code, exceptionTable := #[], attributes := #[] }
def k14m1 : Method := { name := "size", desc := "()I", sig := { parameters := [], returnType := some .int }, accessFlags := 1, code := some k14c1 }
/-- java/util/ImmutableCollections$List12 -/
def k14 : Class := { plain "java/util/ImmutableCollections$List12" (some 12) with
  accessFlags := 48
  interfaces := #[13]
  cf := some (fileOf pool14 14 #[.nestHost 20] #[{ accessFlags := 0, nameIndex := 5, descriptorIndex := 76, attributes := #[] }, { accessFlags := 1, nameIndex := 51, descriptorIndex := 52, attributes := #[] }] 48 2 #[70] #[{ accessFlags := 18, nameIndex := 17, descriptorIndex := 18, attributes := #[] }, { accessFlags := 18, nameIndex := 26, descriptorIndex := 18, attributes := #[] }])
  fields := #[{ name := "e0", type := (.object "java/lang/Object"), accessFlags := 18, slot := 0, constantValue := 0 }, { name := "e1", type := (.object "java/lang/Object"), accessFlags := 18, slot := 1, constantValue := 0 }]
  methods := #[k14m0, k14m1]
  instanceTypes := #[(.object "java/lang/Object"), (.object "java/lang/Object")]
  staticTypes := #[]
  resolved := Array.replicate 125 none
  statics := none }

def pool15 : Array CpInfo := pool [(2, .class_ 4), (1, u "java/lang/Object"), (0, u "<init>"), (0, u "()V"), (35, .class_ 44), (1, u "java/util/Objects"), (0, u "requireNonNull"), (0, u "(Ljava/lang/Object;)Ljava/lang/Object;")] 137

def k15m0 : Method := { name := "<init>", desc := "()V", sig := { parameters := [], returnType := none }, accessFlags := 2, code := none }
def k15c1 : Code := { maxStack := 2, maxLocals := 1, code := jdk_31_method_10_code, exceptionTable := #[], attributes := #[] }
def k15m1 : Method := { name := "requireNonNull", desc := "(Ljava/lang/Object;)Ljava/lang/Object;", sig := { parameters := [(.object "java/lang/Object")], returnType := some (.object "java/lang/Object") }, accessFlags := 9, code := some k15c1 }
/-- java/util/Objects -/
def k15 : Class := { plain "java/util/Objects" (some 0) with
  accessFlags := 49
  interfaces := #[]
  cf := some (fileOf pool15 42 #[] #[{ accessFlags := 2, nameIndex := 5, descriptorIndex := 6, attributes := #[] }, { accessFlags := 9, nameIndex := 45, descriptorIndex := 46, attributes := #[] }] 49 2 #[] #[])
  fields := #[]
  methods := #[k15m0, k15m1]
  instanceTypes := #[]
  staticTypes := #[]
  resolved := Array.replicate 184 none
  statics := none }

def pool16 : Array CpInfo := pool [(2, .class_ 4), (1, u "java/lang/Object"), (0, u "<init>"), (0, u "()V"), (3, .class_ 11), (0, u "java/util/ImmutableCollections$List12"), (0, .class_ 13), (0, u "java/util/ImmutableCollections$ListN"), (3, u "Z"), (29, .class_ 49), (1, u "java/util/ImmutableCollections"), (0, u "$assertionsDisabled"), (5, u "[Ljava/lang/Object;"), (5, u "EMPTY_LIST"), (0, u "Ljava/util/ImmutableCollections$ListN;"), (8, u "EMPTY_LIST_NULLS"), (22, u "SALT32L"), (0, u "J"), (2, u "REVERSE"), (6, u "archivedObjects"), (2, u "EMPTY"), (0, u "Ljava/lang/Object;"), (0, .class_ 112), (0, u "java/util/ImmutableCollections$SetN"), (5, u "EMPTY_SET"), (0, u "Ljava/util/ImmutableCollections$SetN;"), (0, .class_ 121), (0, u "java/util/ImmutableCollections$MapN"), (3, u "EMPTY_MAP"), (0, u "Ljava/util/ImmutableCollections$MapN;"), (4, u "EXPAND_FACTOR"), (0, u "I"), (36, .class_ 170), (0, u "java/util/ImmutableCollections$MapN$MapNIterator"), (0, .class_ 172), (0, u "java/util/ImmutableCollections$MapN$1"), (0, .class_ 174), (0, u "java/util/ImmutableCollections$Map1"), (0, .class_ 176), (0, u "java/util/ImmutableCollections$AbstractImmutableMap"), (0, .class_ 178), (0, u "java/util/ImmutableCollections$SetN$SetNIterator"), (0, .class_ 180), (0, u "java/util/ImmutableCollections$Set12"), (0, .class_ 182), (0, u "java/util/ImmutableCollections$Set12$1"), (0, .class_ 184), (0, u "java/util/ImmutableCollections$AbstractImmutableSet"), (0, .class_ 186), (0, u "java/util/ImmutableCollections$SubList"), (0, .class_ 188), (0, u "java/util/ImmutableCollections$ListItr"), (0, .class_ 190), (0, u "java/util/ImmutableCollections$AbstractImmutableList"), (0, .class_ 192), (0, u "java/util/ImmutableCollections$AbstractImmutableCollection"), (0, .class_ 194), (0, u "java/util/ImmutableCollections$Access"), (0, .class_ 196), (0, u "java/util/ImmutableCollections$Access$1")] 16

def k16m0 : Method := { name := "<init>", desc := "()V", sig := { parameters := [], returnType := none }, accessFlags := 2, code := none }
/-- java/util/ImmutableCollections -/
def k16 : Class := { plain "java/util/ImmutableCollections" (some 0) with
  accessFlags := 32
  interfaces := #[]
  cf := some (fileOf pool16 47 #[.nestMembers #[120, 169, 171, 173, 175, 111, 177, 179, 181, 183, 12, 10, 185, 187, 189, 191, 193, 195]] #[{ accessFlags := 2, nameIndex := 5, descriptorIndex := 6, attributes := #[] }] 32 2 #[] #[{ accessFlags := 26, nameIndex := 95, descriptorIndex := 96, attributes := #[] }, { accessFlags := 26, nameIndex := 99, descriptorIndex := 17, attributes := #[] }, { accessFlags := 10, nameIndex := 106, descriptorIndex := 56, attributes := #[] }, { accessFlags := 26, nameIndex := 109, descriptorIndex := 110, attributes := #[] }, { accessFlags := 24, nameIndex := 62, descriptorIndex := 63, attributes := #[] }, { accessFlags := 24, nameIndex := 72, descriptorIndex := 63, attributes := #[] }, { accessFlags := 24, nameIndex := 118, descriptorIndex := 119, attributes := #[] }, { accessFlags := 24, nameIndex := 125, descriptorIndex := 126, attributes := #[] }, { accessFlags := 24, nameIndex := 131, descriptorIndex := 132, attributes := #[] }, { accessFlags := 4120, nameIndex := 50, descriptorIndex := 17, attributes := #[] }])
  fields := #[{ name := "SALT32L", type := .long, accessFlags := 26, slot := 0, constantValue := 0 }, { name := "REVERSE", type := .boolean, accessFlags := 26, slot := 1, constantValue := 0 }, { name := "archivedObjects", type := (.array (.object "java/lang/Object")), accessFlags := 10, slot := 2, constantValue := 0 }, { name := "EMPTY", type := (.object "java/lang/Object"), accessFlags := 26, slot := 3, constantValue := 0 }, { name := "EMPTY_LIST", type := (.object "java/util/ImmutableCollections$ListN"), accessFlags := 24, slot := 4, constantValue := 0 }, { name := "EMPTY_LIST_NULLS", type := (.object "java/util/ImmutableCollections$ListN"), accessFlags := 24, slot := 5, constantValue := 0 }, { name := "EMPTY_SET", type := (.object "java/util/ImmutableCollections$SetN"), accessFlags := 24, slot := 6, constantValue := 0 }, { name := "EMPTY_MAP", type := (.object "java/util/ImmutableCollections$MapN"), accessFlags := 24, slot := 7, constantValue := 0 }, { name := "EXPAND_FACTOR", type := .int, accessFlags := 24, slot := 8, constantValue := 0 }, { name := "$assertionsDisabled", type := .boolean, accessFlags := 4120, slot := 9, constantValue := 0 }]
  methods := #[k16m0]
  instanceTypes := #[]
  staticTypes := #[.long, .boolean, (.array (.object "java/lang/Object")), (.object "java/lang/Object"), (.object "java/util/ImmutableCollections$ListN"), (.object "java/util/ImmutableCollections$ListN"), (.object "java/util/ImmutableCollections$SetN"), (.object "java/util/ImmutableCollections$MapN"), .int, .boolean]
  resolved := Array.replicate 213 none
  statics := some 0 }

def pool17 : Array CpInfo := pool [(1, .methodref 2 3), (0, .class_ 4), (0, .nameAndType 5 6), (0, u "java/lang/Object"), (0, u "<init>"), (0, u "()V"), (0, .fieldref 8 9), (0, .class_ 10), (0, .nameAndType 11 12), (0, u "com/example/lichen/lichen/continuous/TakenSpan"), (0, u "id"), (0, u "J"), (0, .fieldref 8 14), (0, .nameAndType 15 16), (0, u "documentId"), (0, u "Ljava/lang/String;"), (0, .fieldref 8 18), (0, .nameAndType 19 20), (0, u "firstInterval"), (0, u "I"), (0, .fieldref 8 22), (0, .nameAndType 23 24), (0, u "span"), (0, u "Lcom/example/lichen/lichen/continuous/Span;"), (0, .fieldref 8 26), (0, .nameAndType 27 20), (0, u "refusals"), (0, .fieldref 8 29), (0, .nameAndType 30 31), (0, u "sent"), (0, u "Z"), (0, .fieldref 8 33), (0, .nameAndType 34 35), (0, u "target"), (0, u "Lcom/example/lichen/lichen/usage/Target;"), (0, .fieldref 8 37), (0, .nameAndType 38 39), (0, u "startMeasurements"), (0, u "Ljava/util/List;"), (0, .methodref 41 42), (0, .class_ 43), (0, .nameAndType 44 45), (0, u "com/example/lichen/lichen/continuous/Span"), (0, u "intervals"), (0, u "()I"), (0, .class_ 47), (0, u "com/example/lichen/lichen/continuous/Settlement$Outcome"), (0, .fieldref 8 49), (0, .nameAndType 50 51), (0, u "outcomes"), (0, u "[Lcom/example/lichen/lichen/continuous/Settlement$Outcome;"), (0, .fieldref 8 53), (0, .nameAndType 54 55), (0, u "reached"), (0, u "[Z"), (17, .class_ 74), (0, u "com/example/lichen/lichen/continuous/TakenSpan$DocumentIds"), (26, .fieldref 8 102), (0, .nameAndType 103 31), (0, u "settled"), (2, u "(JLjava/lang/String;ILcom/example/lichen/lichen/continuous/Span;IZLcom/example/lichen/lichen/usage/Target;Ljava/util/List;)V"), (9, u "outcome"), (0, u "(I)Lcom/example/lichen/lichen/continuous/Settlement$Outcome;"), (0, u "settle"), (0, u "(ILcom/example/lichen/lichen/continuous/Settlement$Outcome;)Z")] 24

def k17c0 : Code := { maxStack := 3, maxLocals := 10, code := prog_20_method_1_code, exceptionTable := #[], attributes := #[] }
def k17m0 : Method := { name := "<init>", desc := "(JLjava/lang/String;ILcom/example/lichen/lichen/continuous/Span;IZLcom/example/lichen/lichen/usage/Target;Ljava/util/List;)V", sig := { parameters := [.long, (.object "java/lang/String"), .int, (.object "com/example/lichen/lichen/continuous/Span"), .int, .boolean, (.object "com/example/lichen/lichen/usage/Target"), (.object "java/util/List")], returnType := none }, accessFlags := 0, code := some k17c0 }
def k17c1 : Code := { maxStack := 2, maxLocals := 2, code := prog_20_method_7_code, exceptionTable := #[], attributes := #[] }
def k17m1 : Method := { name := "outcome", desc := "(I)Lcom/example/lichen/lichen/continuous/Settlement$Outcome;", sig := { parameters := [.int], returnType := some (.object "com/example/lichen/lichen/continuous/Settlement$Outcome") }, accessFlags := 0, code := some k17c1 }
def k17c2 : Code := { maxStack := 3, maxLocals := 4, code := prog_20_method_8_code, exceptionTable := #[], attributes := #[] }
def k17m2 : Method := { name := "settle", desc := "(ILcom/example/lichen/lichen/continuous/Settlement$Outcome;)Z", sig := { parameters := [.int, (.object "com/example/lichen/lichen/continuous/Settlement$Outcome")], returnType := some .boolean }, accessFlags := 0, code := some k17c2 }
/-- com/example/lichen/lichen/continuous/TakenSpan -/
def k17 : Class := { plain "com/example/lichen/lichen/continuous/TakenSpan" (some 0) with
  accessFlags := 48
  interfaces := #[]
  cf := some (fileOf pool17 8 #[.nestMembers #[73]] #[{ accessFlags := 0, nameIndex := 5, descriptorIndex := 106, attributes := #[] }, { accessFlags := 0, nameIndex := 116, descriptorIndex := 117, attributes := #[] }, { accessFlags := 0, nameIndex := 118, descriptorIndex := 119, attributes := #[] }] 48 2 #[] #[{ accessFlags := 18, nameIndex := 11, descriptorIndex := 12, attributes := #[] }, { accessFlags := 18, nameIndex := 15, descriptorIndex := 16, attributes := #[] }, { accessFlags := 18, nameIndex := 19, descriptorIndex := 20, attributes := #[] }, { accessFlags := 18, nameIndex := 23, descriptorIndex := 24, attributes := #[] }, { accessFlags := 18, nameIndex := 27, descriptorIndex := 20, attributes := #[] }, { accessFlags := 18, nameIndex := 30, descriptorIndex := 31, attributes := #[] }, { accessFlags := 18, nameIndex := 34, descriptorIndex := 35, attributes := #[] }, { accessFlags := 18, nameIndex := 38, descriptorIndex := 39, attributes := #[] }, { accessFlags := 18, nameIndex := 50, descriptorIndex := 51, attributes := #[] }, { accessFlags := 18, nameIndex := 54, descriptorIndex := 55, attributes := #[] }, { accessFlags := 2, nameIndex := 103, descriptorIndex := 31, attributes := #[] }])
  fields := #[{ name := "id", type := .long, accessFlags := 18, slot := 0, constantValue := 0 }, { name := "documentId", type := (.object "java/lang/String"), accessFlags := 18, slot := 1, constantValue := 0 }, { name := "firstInterval", type := .int, accessFlags := 18, slot := 2, constantValue := 0 }, { name := "span", type := (.object "com/example/lichen/lichen/continuous/Span"), accessFlags := 18, slot := 3, constantValue := 0 }, { name := "refusals", type := .int, accessFlags := 18, slot := 4, constantValue := 0 }, { name := "sent", type := .boolean, accessFlags := 18, slot := 5, constantValue := 0 }, { name := "target", type := (.object "com/example/lichen/lichen/usage/Target"), accessFlags := 18, slot := 6, constantValue := 0 }, { name := "startMeasurements", type := (.object "java/util/List"), accessFlags := 18, slot := 7, constantValue := 0 }, { name := "outcomes", type := (.array (.object "com/example/lichen/lichen/continuous/Settlement$Outcome")), accessFlags := 18, slot := 8, constantValue := 0 }, { name := "reached", type := (.array .boolean), accessFlags := 18, slot := 9, constantValue := 0 }, { name := "settled", type := .boolean, accessFlags := 2, slot := 10, constantValue := 0 }]
  methods := #[k17m0, k17m1, k17m2]
  instanceTypes := #[.long, (.object "java/lang/String"), .int, (.object "com/example/lichen/lichen/continuous/Span"), .int, .boolean, (.object "com/example/lichen/lichen/usage/Target"), (.object "java/util/List"), (.array (.object "com/example/lichen/lichen/continuous/Settlement$Outcome")), (.array .boolean), .boolean]
  staticTypes := #[]
  resolved := Array.replicate 144 none
  statics := none }

def pool18 : Array CpInfo := pool [(1, .methodref 2 3), (0, .class_ 4), (0, .nameAndType 5 6), (0, u "java/lang/Object"), (0, u "<init>"), (0, u "()V"), (0, .fieldref 8 9), (0, .class_ 10), (0, .nameAndType 11 12), (0, u "com/example/lichen/lichen/continuous/Settlement$Outcome"), (0, u "retryAt"), (0, u "J"), (0, .fieldref 8 14), (0, .nameAndType 15 16), (0, u "refusals"), (0, u "I"), (0, .fieldref 8 18), (0, .nameAndType 19 20), (0, u "sent"), (0, u "Z"), (2, u "DELIVERED"), (0, u "Lcom/example/lichen/lichen/continuous/Settlement$Outcome;"), (4, u "(JIZ)V"), (13, .class_ 44), (0, u "com/example/lichen/lichen/continuous/Settlement")] 2

def k18c0 : Code := { maxStack := 3, maxLocals := 5, code := prog_18_method_1_code, exceptionTable := #[], attributes := #[] }
def k18m0 : Method := { name := "<init>", desc := "(JIZ)V", sig := { parameters := [.long, .int, .boolean], returnType := none }, accessFlags := 0, code := some k18c0 }
/-- com/example/lichen/lichen/continuous/Settlement$Outcome -/
def k18 : Class := { plain "com/example/lichen/lichen/continuous/Settlement$Outcome" (some 0) with
  accessFlags := 48
  interfaces := #[]
  cf := some (fileOf pool18 8 #[.nestHost 43] #[{ accessFlags := 0, nameIndex := 5, descriptorIndex := 29, attributes := #[] }] 48 2 #[] #[{ accessFlags := 24, nameIndex := 23, descriptorIndex := 24, attributes := #[] }, { accessFlags := 18, nameIndex := 11, descriptorIndex := 12, attributes := #[] }, { accessFlags := 18, nameIndex := 15, descriptorIndex := 16, attributes := #[] }, { accessFlags := 18, nameIndex := 19, descriptorIndex := 20, attributes := #[] }])
  fields := #[{ name := "DELIVERED", type := (.object "com/example/lichen/lichen/continuous/Settlement$Outcome"), accessFlags := 24, slot := 0, constantValue := 0 }, { name := "retryAt", type := .long, accessFlags := 18, slot := 0, constantValue := 0 }, { name := "refusals", type := .int, accessFlags := 18, slot := 1, constantValue := 0 }, { name := "sent", type := .boolean, accessFlags := 18, slot := 2, constantValue := 0 }]
  methods := #[k18m0]
  instanceTypes := #[.long, .int, .boolean]
  staticTypes := #[(.object "com/example/lichen/lichen/continuous/Settlement$Outcome")]
  resolved := Array.replicate 47 none
  statics := some 1 }

def pool19 : Array CpInfo := pool [(2, .class_ 4), (1, u "java/util/ImmutableCollections$AbstractImmutableList"), (3, .class_ 10), (1, u "java/util/ImmutableCollections$ListN"), (0, u "elements"), (0, u "[Ljava/lang/Object;"), (2, u "allowNulls"), (0, u "Z"), (42, .class_ 60), (0, u "java/io/Serializable"), (53, .class_ 115), (0, u "java/util/ImmutableCollections")] 3

/-- java/util/ImmutableCollections$ListN -/
def k19 : Class := { plain "java/util/ImmutableCollections$ListN" (some 12) with
  accessFlags := 48
  interfaces := #[13]
  cf := some (fileOf pool19 8 #[.nestHost 114] #[] 48 2 #[59] #[{ accessFlags := 18, nameIndex := 11, descriptorIndex := 12, attributes := #[] }, { accessFlags := 18, nameIndex := 15, descriptorIndex := 16, attributes := #[] }])
  fields := #[{ name := "elements", type := (.array (.object "java/lang/Object")), accessFlags := 18, slot := 0, constantValue := 0 }, { name := "allowNulls", type := .boolean, accessFlags := 18, slot := 1, constantValue := 0 }]
  methods := #[]
  instanceTypes := #[(.array (.object "java/lang/Object")), .boolean]
  staticTypes := #[]
  resolved := Array.replicate 119 none
  statics := none }

def pool20 : Array CpInfo := pool [(1, u "java/lang/Cloneable"), (0, .class_ 1), (0, u "java/lang/Object"), (0, .class_ 3)] 3

/-- java/lang/Cloneable -/
def k20 : Class := { plain "java/lang/Cloneable" (some 0) with
  accessFlags := 1537
  interfaces := #[]
  cf := some (fileOf pool20 2 #[] #[] 1537 4 #[] #[])
  fields := #[]
  methods := #[]
  instanceTypes := #[]
  staticTypes := #[]
  resolved := Array.replicate 8 none
  statics := none }

/-- the primitive boolean -/
def k21 : Class := { plain "boolean" none with kind := .primitive 'Z', accessFlags := 0x411 }
/-- [Z -/
def k22 : Class := { plain "[Z" (some 0) with kind := .array 21 .boolean, interfaces := #[20, 13], accessFlags := 1041 }

/-- the primitive byte -/
def k23 : Class := { plain "byte" none with kind := .primitive 'B', accessFlags := 0x411 }
/-- [B -/
def k24 : Class := { plain "[B" (some 0) with kind := .array 23 .byte, interfaces := #[20, 13], accessFlags := 1041 }

/-- the primitive int -/
def k25 : Class := { plain "int" none with kind := .primitive 'I', accessFlags := 0x411 }
/-- [I -/
def k26 : Class := { plain "[I" (some 0) with kind := .array 25 .int, interfaces := #[20, 13], accessFlags := 1041 }

/-- [Lcom/example/lichen/lichen/continuous/Settlement$Outcome; -/
def k27 : Class := { plain "[Lcom/example/lichen/lichen/continuous/Settlement$Outcome;" (some 0) with kind := .array 18 (.object "com/example/lichen/lichen/continuous/Settlement$Outcome"), interfaces := #[20, 13], accessFlags := 1041 }

def heap : Heap := #[{ cls := 16, slots := #[.long 0, .int 0, .null, .ref 3, .ref 4, .null, .null, .null, .int 0, .int 1], vm := .statics 16 },
  { cls := 18, slots := #[.ref 2], vm := .statics 18 },
  { cls := 18, slots := #[.long 0, .int 0, .int 0], vm := .none },
  { cls := 0, slots := #[], vm := .none },
  { cls := 19, slots := #[.null, .int 0], vm := .none }]
def classes : Array Class := #[k0, k1, k2, k3, k4, k5, k6, k7, k8, k9, k10, k11, k12, k13, k14, k15, k16, k17, k18, k19, k20, k21, k22, k23, k24, k25, k26, k27]
def interned : List (Array UInt16 × Addr) := []
def slotsUsed : Nat := 16
def theMethod : MethodId := ⟨1, 1⟩
def args0 : Array Value := #[.long 5, .long 5, .long 5, .long 5, .int 5, .int 5]
def aboutOver (below : List Frame) : State where
  vm := { classes := classes, interned := interned.toArray }
  heap := heap
  slotsUsed := slotsUsed
  threads := #[{ frames := .invoking theMethod args0 :: below }]
def below0 : List Frame := [.native { method := ⟨0, 0⟩, args := #[] }]
def about1 : State := aboutOver below0
def p0 : Program := .bare "" "" ""
def e0 : Env := launch0.env 0 0 0
theorem w_frames : about1.frames = Frame.invoking theMethod args0 :: below0 := rfl
set_option maxRecDepth 65536 in
theorem w_args : argsFit about1.vm theMethod args0 = true := by decide +kernel
set_option maxRecDepth 65536 in
theorem w_heap : heapFits about1 = true := by decide +kernel
set_option maxRecDepth 65536 in
theorem w_runnable : about1.curStatus? = some .runnable := by decide +kernel
set_option maxRecDepth 65536 in
theorem w_alone : about1.alone = true := by decide +kernel
set_option maxRecDepth 65536 in
theorem w_named : about1.methodNamed? x = some theMethod := by decide +kernel
set_option maxRecDepth 65536 in
theorem w_hears : about1.hears theMethod below0 = true := by decide +kernel
set_option maxRecDepth 65536 in
theorem w_ripe : about1.ripe theMethod args0 below0 = true := by decide +kernel
theorem w_running : about1.status = .running := rfl
set_option maxRecDepth 65536 in
theorem w_room : about1.hasRoom e0.platform room_1 = true :=
  launch0.hasRoom_least _ room_1 (by decide +kernel) (by decide +kernel) (by decide +kernel) (by decide +kernel) (by decide +kernel) (by decide +kernel)
theorem allAtoms_all (ts : List Jvm.Cond) (a : Array Jvm.Value) (st : Jvm.State) : (allAtoms ts).before a st = ts.all (fun c => c.before a st) := by
  induction ts with
  | nil => rfl
  | cons c t ih =>
    show (Jvm.Cond.and c (allAtoms t)).before a st = _
    rw [Jvm.Cond.before_and, ih, List.all_cons]
def words1 : List Jvm.Cond := Jvm.Cond.code x code maxLocals ret :: tables_1
/-- a 'code' word, met by the world's own term for the bytes: nothing is compared byte by byte -/
theorem code_word {y : MethodName} {bytes : ByteArray} {mx : Nat} {rt : Option FieldType} {a : Array Value} {s : State} {m : MethodId} {meth : Method} {c : Code} (h1 : s.methodNamed? y = some m) (h2 : s.vm.method? m = some meth) (h3 : meth.code = some c) (h4 : c.code = bytes)
    (h5 : (c.maxLocals == mx && c.exceptionTable.isEmpty && decide (c.maxStack ≤ mostOperands) && decide (meth.sig.returnType = rt) && !meth.locks && decide (parseMethodDescriptor y.desc = some meth.sig)) = true) : (Jvm.Cond.code y bytes mx rt).before a s = true := by
  simp only [Bool.and_eq_true, beq_iff_eq, Bool.not_eq_true', decide_eq_true_eq] at h5
  obtain ⟨⟨⟨⟨⟨g1, g2⟩, g3⟩, g4⟩, g5⟩, g6⟩ := h5
  simp [Cond.before, Cond.holds, Cond.value, h1, h2, h3, h4, g1, g2, g3, g4, g5, g6]
def isCode : Jvm.Cond → Bool
  | .code _ _ _ _ => true
  | _ => false
theorem all_split {L : List Jvm.Cond} {P : Jvm.Cond → Bool} (h1 : L.all (fun c => isCode c || P c) = true) (h2 : ∀ c ∈ L.filter isCode, P c = true) : L.all P = true := by
  refine List.all_eq_true.mpr fun c hc => ?_
  have h := List.all_eq_true.mp h1 c hc
  rcases Bool.eq_false_or_eq_true (isCode c) with hi | hi
  · exact h2 c (List.mem_filter.mpr ⟨hc, hi⟩)
  · simpa [hi] using h
set_option maxRecDepth 65536 in
theorem w_c0 : (Jvm.Cond.code x code maxLocals ret).before args0 about1 = true := code_word (m := ⟨1, 1⟩) (meth := k1m1) (c := k1c1) (by decide +kernel) rfl rfl rfl (by decide +kernel)
set_option maxRecDepth 65536 in
theorem w_c1 : (Jvm.Cond.code ({ cls := "com/example/lichen/lichen/continuous/Span", name := "<init>", desc := "(JJJILcom/example/lichen/lichen/bucket/Granularity;)V" } : Jvm.MethodName) prog_19_method_1_code (11 : Nat) (Option.none : Option Jvm.ClassFile.FieldType)).before args0 about1 = true := code_word (m := ⟨2, 0⟩) (meth := k2m0) (c := k2c0) (by decide +kernel) rfl rfl rfl (by decide +kernel)
set_option maxRecDepth 65536 in
theorem w_c2 : (Jvm.Cond.code ({ cls := "java/lang/Object", name := "<init>", desc := "()V" } : Jvm.MethodName) object_method_1_code (1 : Nat) (Option.none : Option Jvm.ClassFile.FieldType)).before args0 about1 = true := code_word (m := ⟨0, 0⟩) (meth := k0m0) (c := k0c0) (by decide +kernel) rfl rfl rfl (by decide +kernel)
set_option maxRecDepth 65536 in
theorem w_c3 : (Jvm.Cond.code ({ cls := "java/lang/Math", name := "abs", desc := "(J)J" } : Jvm.MethodName) jdk_29_method_61_code (2 : Nat) (Option.some Jvm.ClassFile.FieldType.long)).before args0 about1 = true := code_word (m := ⟨3, 1⟩) (meth := k3m1) (c := k3c1) (by decide +kernel) rfl rfl rfl (by decide +kernel)
set_option maxRecDepth 65536 in
theorem w_c4 : (Jvm.Cond.code ({ cls := "com/example/lichen/lichen/bucket/Slice", name := "<init>", desc := "(JJ)V" } : Jvm.MethodName) prog_14_method_1_code (5 : Nat) (Option.none : Option Jvm.ClassFile.FieldType)).before args0 about1 = true := code_word (m := ⟨4, 0⟩) (meth := k4m0) (c := k4c0) (by decide +kernel) rfl rfl rfl (by decide +kernel)
set_option maxRecDepth 65536 in
theorem w_c5 : (Jvm.Cond.code ({ cls := "java/util/List", name := "of", desc := "(Ljava/lang/Object;)Ljava/util/List;" } : Jvm.MethodName) jdk_40_method_37_code (1 : Nat) (Option.some (Jvm.ClassFile.FieldType.object "java/util/List"))).before args0 about1 = true := code_word (m := ⟨8, 1⟩) (meth := k8m1) (c := k8c1) (by decide +kernel) rfl rfl rfl (by decide +kernel)
set_option maxRecDepth 65536 in
theorem w_c6 : (Jvm.Cond.code ({ cls := "java/util/ImmutableCollections$List12", name := "<init>", desc := "(Ljava/lang/Object;)V" } : Jvm.MethodName) jdk_44_method_1_code (2 : Nat) (Option.none : Option Jvm.ClassFile.FieldType)).before args0 about1 = true := code_word (m := ⟨14, 0⟩) (meth := k14m0) (c := k14c0) (by decide +kernel) rfl rfl rfl (by decide +kernel)
set_option maxRecDepth 65536 in
theorem w_c7 : (Jvm.Cond.code ({ cls := "java/util/ImmutableCollections$AbstractImmutableList", name := "<init>", desc := "()V" } : Jvm.MethodName) jdk_46_method_1_code (1 : Nat) (Option.none : Option Jvm.ClassFile.FieldType)).before args0 about1 = true := code_word (m := ⟨12, 0⟩) (meth := k12m0) (c := k12c0) (by decide +kernel) rfl rfl rfl (by decide +kernel)
set_option maxRecDepth 65536 in
theorem w_c8 : (Jvm.Cond.code ({ cls := "java/util/ImmutableCollections$AbstractImmutableCollection", name := "<init>", desc := "()V" } : Jvm.MethodName) jdk_47_method_1_code (1 : Nat) (Option.none : Option Jvm.ClassFile.FieldType)).before args0 about1 = true := code_word (m := ⟨10, 0⟩) (meth := k10m0) (c := k10c0) (by decide +kernel) rfl rfl rfl (by decide +kernel)
set_option maxRecDepth 65536 in
theorem w_c9 : (Jvm.Cond.code ({ cls := "java/util/AbstractCollection", name := "<init>", desc := "()V" } : Jvm.MethodName) jdk_22_method_1_code (1 : Nat) (Option.none : Option Jvm.ClassFile.FieldType)).before args0 about1 = true := code_word (m := ⟨9, 0⟩) (meth := k9m0) (c := k9c0) (by decide +kernel) rfl rfl rfl (by decide +kernel)
set_option maxRecDepth 65536 in
theorem w_c10 : (Jvm.Cond.code ({ cls := "java/util/Objects", name := "requireNonNull", desc := "(Ljava/lang/Object;)Ljava/lang/Object;" } : Jvm.MethodName) jdk_31_method_10_code (1 : Nat) (Option.some (Jvm.ClassFile.FieldType.object "java/lang/Object"))).before args0 about1 = true := code_word (m := ⟨15, 1⟩) (meth := k15m1) (c := k15c1) (by decide +kernel) rfl rfl rfl (by decide +kernel)
set_option maxRecDepth 65536 in
theorem w_c11 : (Jvm.Cond.code ({ cls := "com/example/lichen/lichen/continuous/TakenSpan", name := "<init>", desc := "(JLjava/lang/String;ILcom/example/lichen/lichen/continuous/Span;IZLcom/example/lichen/lichen/usage/Target;Ljava/util/List;)V" } : Jvm.MethodName) prog_20_method_1_code (10 : Nat) (Option.none : Option Jvm.ClassFile.FieldType)).before args0 about1 = true := code_word (m := ⟨17, 0⟩) (meth := k17m0) (c := k17c0) (by decide +kernel) rfl rfl rfl (by decide +kernel)
set_option maxRecDepth 65536 in
theorem w_c12 : (Jvm.Cond.code ({ cls := "com/example/lichen/lichen/continuous/Span", name := "intervals", desc := "()I" } : Jvm.MethodName) prog_19_method_9_code (1 : Nat) (Option.some Jvm.ClassFile.FieldType.int)).before args0 about1 = true := code_word (m := ⟨2, 1⟩) (meth := k2m1) (c := k2c1) (by decide +kernel) rfl rfl rfl (by decide +kernel)
set_option maxRecDepth 65536 in
theorem w_c13 : (Jvm.Cond.code ({ cls := "java/util/ImmutableCollections$List12", name := "size", desc := "()I" } : Jvm.MethodName) jdk_44_method_3_code (1 : Nat) (Option.some Jvm.ClassFile.FieldType.int)).before args0 about1 = true := code_word (m := ⟨14, 1⟩) (meth := k14m1) (c := k14c1) (by decide +kernel) rfl rfl rfl (by decide +kernel)
set_option maxRecDepth 65536 in
theorem w_c14 : (Jvm.Cond.code ({ cls := "com/example/lichen/lichen/continuous/Settlement$Outcome", name := "<init>", desc := "(JIZ)V" } : Jvm.MethodName) prog_18_method_1_code (5 : Nat) (Option.none : Option Jvm.ClassFile.FieldType)).before args0 about1 = true := code_word (m := ⟨18, 0⟩) (meth := k18m0) (c := k18c0) (by decide +kernel) rfl rfl rfl (by decide +kernel)
set_option maxRecDepth 65536 in
theorem w_c15 : (Jvm.Cond.code ({ cls := "com/example/lichen/lichen/continuous/TakenSpan", name := "outcome", desc := "(I)Lcom/example/lichen/lichen/continuous/Settlement$Outcome;" } : Jvm.MethodName) prog_20_method_7_code (2 : Nat) (Option.some (Jvm.ClassFile.FieldType.object "com/example/lichen/lichen/continuous/Settlement$Outcome"))).before args0 about1 = true := code_word (m := ⟨17, 1⟩) (meth := k17m1) (c := k17c1) (by decide +kernel) rfl rfl rfl (by decide +kernel)
set_option maxRecDepth 65536 in
theorem w_c16 : (Jvm.Cond.code ({ cls := "com/example/lichen/lichen/continuous/TakenSpan", name := "settle", desc := "(ILcom/example/lichen/lichen/continuous/Settlement$Outcome;)Z" } : Jvm.MethodName) prog_20_method_8_code (4 : Nat) (Option.some Jvm.ClassFile.FieldType.boolean)).before args0 about1 = true := code_word (m := ⟨17, 2⟩) (meth := k17m2) (c := k17c2) (by decide +kernel) rfl rfl rfl (by decide +kernel)
def codes1 : List Jvm.Cond := [Jvm.Cond.code x code maxLocals ret, Jvm.Cond.code ({ cls := "com/example/lichen/lichen/continuous/Span", name := "<init>", desc := "(JJJILcom/example/lichen/lichen/bucket/Granularity;)V" } : Jvm.MethodName) prog_19_method_1_code (11 : Nat) (Option.none : Option Jvm.ClassFile.FieldType), Jvm.Cond.code ({ cls := "java/lang/Object", name := "<init>", desc := "()V" } : Jvm.MethodName) object_method_1_code (1 : Nat) (Option.none : Option Jvm.ClassFile.FieldType), Jvm.Cond.code ({ cls := "java/lang/Math", name := "abs", desc := "(J)J" } : Jvm.MethodName) jdk_29_method_61_code (2 : Nat) (Option.some Jvm.ClassFile.FieldType.long), Jvm.Cond.code ({ cls := "com/example/lichen/lichen/bucket/Slice", name := "<init>", desc := "(JJ)V" } : Jvm.MethodName) prog_14_method_1_code (5 : Nat) (Option.none : Option Jvm.ClassFile.FieldType), Jvm.Cond.code ({ cls := "java/util/List", name := "of", desc := "(Ljava/lang/Object;)Ljava/util/List;" } : Jvm.MethodName) jdk_40_method_37_code (1 : Nat) (Option.some (Jvm.ClassFile.FieldType.object "java/util/List")), Jvm.Cond.code ({ cls := "java/util/ImmutableCollections$List12", name := "<init>", desc := "(Ljava/lang/Object;)V" } : Jvm.MethodName) jdk_44_method_1_code (2 : Nat) (Option.none : Option Jvm.ClassFile.FieldType), Jvm.Cond.code ({ cls := "java/util/ImmutableCollections$AbstractImmutableList", name := "<init>", desc := "()V" } : Jvm.MethodName) jdk_46_method_1_code (1 : Nat) (Option.none : Option Jvm.ClassFile.FieldType), Jvm.Cond.code ({ cls := "java/util/ImmutableCollections$AbstractImmutableCollection", name := "<init>", desc := "()V" } : Jvm.MethodName) jdk_47_method_1_code (1 : Nat) (Option.none : Option Jvm.ClassFile.FieldType), Jvm.Cond.code ({ cls := "java/util/AbstractCollection", name := "<init>", desc := "()V" } : Jvm.MethodName) jdk_22_method_1_code (1 : Nat) (Option.none : Option Jvm.ClassFile.FieldType), Jvm.Cond.code ({ cls := "java/util/Objects", name := "requireNonNull", desc := "(Ljava/lang/Object;)Ljava/lang/Object;" } : Jvm.MethodName) jdk_31_method_10_code (1 : Nat) (Option.some (Jvm.ClassFile.FieldType.object "java/lang/Object")), Jvm.Cond.code ({ cls := "com/example/lichen/lichen/continuous/TakenSpan", name := "<init>", desc := "(JLjava/lang/String;ILcom/example/lichen/lichen/continuous/Span;IZLcom/example/lichen/lichen/usage/Target;Ljava/util/List;)V" } : Jvm.MethodName) prog_20_method_1_code (10 : Nat) (Option.none : Option Jvm.ClassFile.FieldType), Jvm.Cond.code ({ cls := "com/example/lichen/lichen/continuous/Span", name := "intervals", desc := "()I" } : Jvm.MethodName) prog_19_method_9_code (1 : Nat) (Option.some Jvm.ClassFile.FieldType.int), Jvm.Cond.code ({ cls := "java/util/ImmutableCollections$List12", name := "size", desc := "()I" } : Jvm.MethodName) jdk_44_method_3_code (1 : Nat) (Option.some Jvm.ClassFile.FieldType.int), Jvm.Cond.code ({ cls := "com/example/lichen/lichen/continuous/Settlement$Outcome", name := "<init>", desc := "(JIZ)V" } : Jvm.MethodName) prog_18_method_1_code (5 : Nat) (Option.none : Option Jvm.ClassFile.FieldType), Jvm.Cond.code ({ cls := "com/example/lichen/lichen/continuous/TakenSpan", name := "outcome", desc := "(I)Lcom/example/lichen/lichen/continuous/Settlement$Outcome;" } : Jvm.MethodName) prog_20_method_7_code (2 : Nat) (Option.some (Jvm.ClassFile.FieldType.object "com/example/lichen/lichen/continuous/Settlement$Outcome")), Jvm.Cond.code ({ cls := "com/example/lichen/lichen/continuous/TakenSpan", name := "settle", desc := "(ILcom/example/lichen/lichen/continuous/Settlement$Outcome;)Z" } : Jvm.MethodName) prog_20_method_8_code (4 : Nat) (Option.some Jvm.ClassFile.FieldType.boolean)]
set_option maxRecDepth 65536 in
theorem codes_eq : words1.filter isCode = codes1 := rfl
theorem w_codes : ∀ c ∈ words1.filter isCode, c.before args0 about1 = true := by
  rw [codes_eq]
  intro c hc
  simp only [codes1, List.mem_cons, List.not_mem_nil, or_false] at hc
  rcases hc with rfl | rfl | rfl | rfl | rfl | rfl | rfl | rfl | rfl | rfl | rfl | rfl | rfl | rfl | rfl | rfl | rfl
  · exact w_c0
  · exact w_c1
  · exact w_c2
  · exact w_c3
  · exact w_c4
  · exact w_c5
  · exact w_c6
  · exact w_c7
  · exact w_c8
  · exact w_c9
  · exact w_c10
  · exact w_c11
  · exact w_c12
  · exact w_c13
  · exact w_c14
  · exact w_c15
  · exact w_c16
set_option maxRecDepth 65536 in
theorem w_t1 : (words1.take 24).all (fun c => isCode c || c.before args0 about1) = true := by decide +kernel
set_option maxRecDepth 65536 in
theorem w_t2 : ((words1.drop 24).take 24).all (fun c => isCode c || c.before args0 about1) = true := by decide +kernel
set_option maxRecDepth 65536 in
theorem w_t3 : (((words1.drop 24).drop 24).take 24).all (fun c => isCode c || c.before args0 about1) = true := by decide +kernel
set_option maxRecDepth 65536 in
theorem w_t4 : ((((words1.drop 24).drop 24).drop 24).take 24).all (fun c => isCode c || c.before args0 about1) = true := by decide +kernel
set_option maxRecDepth 65536 in
theorem w_t5 : (((((words1.drop 24).drop 24).drop 24).drop 24).take 24).all (fun c => isCode c || c.before args0 about1) = true := by decide +kernel
set_option maxRecDepth 65536 in
theorem w_t6 : ((((((words1.drop 24).drop 24).drop 24).drop 24).drop 24).take 24).all (fun c => isCode c || c.before args0 about1) = true := by decide +kernel
set_option maxRecDepth 65536 in
theorem w_t7 : ((((((words1.drop 24).drop 24).drop 24).drop 24).drop 24).drop 24).all (fun c => isCode c || c.before args0 about1) = true := by decide +kernel
theorem w_tables : (allAtoms (Jvm.Cond.code x code maxLocals ret :: tables_1)).before args0 about1 = true := by
  rw [allAtoms_all]
  show words1.all (fun c => c.before args0 about1) = true
  refine all_split ?_ w_codes
  rw [← List.take_append_drop 24 words1, List.all_append, w_t1, ← List.take_append_drop 24 (words1.drop 24), List.all_append, w_t2, ← List.take_append_drop 24 ((words1.drop 24).drop 24), List.all_append, w_t3, ← List.take_append_drop 24 (((words1.drop 24).drop 24).drop 24), List.all_append, w_t4, ← List.take_append_drop 24 ((((words1.drop 24).drop 24).drop 24).drop 24), List.all_append, w_t5, ← List.take_append_drop 24 (((((words1.drop 24).drop 24).drop 24).drop 24).drop 24), List.all_append, w_t6, w_t7]
  rfl
set_option maxRecDepth 65536 in
theorem w_rest : rest_1_c.before args0 about1 = true := by decide +kernel
set_option maxRecDepth 65536 in
theorem w_case : (Jvm.Cond.and given_1 narrow_1).before args0 about1 = true := by decide +kernel
theorem w_applies : (headSpec (Jvm.Cond.code x code maxLocals ret :: tables_1) room_1).applies x e0.platform about1 = true :=
  (Spec.applies_iff w_frames).mpr ⟨w_running, w_runnable, w_alone, w_named, w_hears, w_ripe, w_room, w_tables⟩
theorem atStart : AtStart classFile x code maxLocals ret World_1 tables_1 room_1 Calls_1 rest_1 Pre_1 launch0 p0 e0 about1 theMethod args0 below0 :=
  ⟨lists_1, trivial, launch0.admits_env _ _ _, launch0.least_env, fairChoices_fair.cas, fairChoices_fair.clock, w_frames, w_args, w_heap, w_applies, trivial, w_rest, w_case⟩
end start1
theorem witness_1 : WitnessClaimed_1 := ⟨start1.p0, start1.e0, start1.about1, start1.theMethod, start1.args0, start1.below0, start1.atStart⟩
end Jvm.Pilot.@@N@@
