import JvmDerived
import JvmDerived.Pilot.@@N@@Statement
import JvmDerived.Pilot.@@N@@Code
set_option linter.unusedVariables false
set_option linter.unusedSimpArgs false
namespace Jvm.RoadKit
open Sem ClassFile Op Lib Jvm.Stand Jvm.Free Jvm.LawKit
section New
variable {p : Program} {l : Launch} {e : Env} {R : Room} {s : State} {m : MethodId} {args : Array Value} {below : List Frame} {meth : Method} {c : Code} {T : State} {locs : List Loc} {cells slots : Nat}
theorem retI (X : Stand p l e R s m args below meth c T locs cells slots) (hx : p.tables.exec = Jvm.exec) {pc : Nat} {Ls : Array Slot} {z : Int32} {rest : List Value} (hret : meth.sig.returnType = some .int) (hd : decode c.code pc = .ok (.ireturn, 1)) {fs : List Frame}
    (hl : ∀ (f : JFrame) (acts : List Action), f.method = m → f.locked = none → f.entered = [] → (doReturn e (T.setTop f) acts (some (.int z))).1 = T.setFrames fs) : Steps p.tables e below (T.setTop (mkF m pc Ls (.int z :: rest))) (T.setFrames fs) := by
  have hm' : T.vm.method? m = some meth := X.method'
  have hn : narrow .int (.int z) = .int z := rfl
  show Steps p.tables e below (T.setTop { method := m, pc := pc, locals := Ls, stack := _ :: rest, locked := none }) _
  jvm_step X.here [X.here.top, hx, hd, hm', hret, hn]
  first | (intro acts; rw [hl _ acts rfl rfl rfl]) | rw [hl _ _ rfl rfl rfl]
  exact Steps.refl _
end New
end Jvm.RoadKit
namespace Jvm.Pilot.@@N@@
open Jvm Jvm.ClassFile Sem Op Lib Jvm.Free Jvm.Stand Jvm.LawKit Jvm.RoadKit Bundle Jvm.Pilot.@@N@@.Jvm.D
section OwnGo
variable {p : Program} {l : Launch} {e : Env} {R : Room} {s : State} {m : MethodId} {args : Array Value} {below : List Frame} {meth : Method} {c : Code} {T : State} {locs : List Loc} {cells slots : Nat}
/-- what a body owes from the state A on: the run comes to an end of the invocation with Q, within C cells and S slots -/
def own_Go (p : Program) (e : Env) (below : List Frame) (s : State) (Q : Option Value → Heap → List Loc → Prop) (C S : Nat) (A : State) : Prop :=
  ∃ s₂ o, Steps p.tables e below A s₂ ∧ s₂.status = .running ∧ Ended s₂ below o ∧ ∃ v L, o = .returned v ∧ Q v s₂.heap L ∧ FrameEnd s o s₂ L C S
variable {Q : Option Value → Heap → List Loc → Prop} {C S : Nat} {A B : State}
theorem own_step (h : ∀ t, Steps p.tables e below B t → Steps p.tables e below A t) (k : own_Go p e below s Q C S B) : own_Go p e below s Q C S A := by
  obtain ⟨s₂, o, h1, h2⟩ := k; exact ⟨s₂, o, h _ h1, h2⟩
theorem own_via (h : Steps p.tables e below A B) (k : own_Go p e below s Q C S B) : own_Go p e below s Q C S A := own_step (fun _ q => h.trans q) k
theorem own_retN (X : Stand p l e R s m args below meth c T locs cells slots) (hx : p.tables.exec = Jvm.exec) (hlocks : meth.locks = false) {pc : Nat} {Ls : Array Slot} {z : Int32} {t : FieldType} {rest : List Value} (hret : meth.sig.returnType = some t) (ht : t = .boolean ∨ t = .byte ∨ t = .char ∨ t = .short)
    (hd : decode c.code pc = .ok (.ireturn, 1)) (hq : Q (some (.int (nar t z))) T.heap locs) (hC : cells ≤ C) (hS : slots ≤ S) : own_Go p e below s Q C S (T.setTop (mkF m pc Ls (.int z :: rest))) := by
  obtain ⟨fs, hr, hrun, hended, hW, hsame⟩ := X.leave (v := some (.int (nar t z))) (fun h => by rw [hret] at h; cases h) hlocks
  exact ⟨_, _, retN X hx hret ht hd hr, hrun, hended, _, _, rfl, hq, ⟨_, rfl⟩, hW, hsame.mono hC hS⟩
theorem own_retI (X : Stand p l e R s m args below meth c T locs cells slots) (hx : p.tables.exec = Jvm.exec) (hlocks : meth.locks = false) {pc : Nat} {Ls : Array Slot} {z : Int32} {rest : List Value} (hret : meth.sig.returnType = some .int)
    (hd : decode c.code pc = .ok (.ireturn, 1)) (hq : Q (some (.int z)) T.heap locs) (hC : cells ≤ C) (hS : slots ≤ S) : own_Go p e below s Q C S (T.setTop (mkF m pc Ls (.int z :: rest))) := by
  obtain ⟨fs, hr, hrun, hended, hW, hsame⟩ := X.leave (v := some (.int z)) (fun h => by rw [hret] at h; cases h) hlocks
  exact ⟨_, _, retI X hx hret hd hr, hrun, hended, _, _, rfl, hq, ⟨_, rfl⟩, hW, hsame.mono hC hS⟩
theorem own_retJ (X : Stand p l e R s m args below meth c T locs cells slots) (hx : p.tables.exec = Jvm.exec) (hlocks : meth.locks = false) {pc : Nat} {Ls : Array Slot} {z : Int64} {rest : List Value} (hret : meth.sig.returnType = some .long)
    (hd : decode c.code pc = .ok (.lreturn, 1)) (hq : Q (some (.long z)) T.heap locs) (hC : cells ≤ C) (hS : slots ≤ S) : own_Go p e below s Q C S (T.setTop (mkF m pc Ls (.long z :: rest))) := by
  obtain ⟨fs, hr, hrun, hended, hW, hsame⟩ := X.leave (v := some (.long z)) (fun h => by rw [hret] at h; cases h) hlocks
  refine ⟨_, _, ?_, hrun, hended, _, _, rfl, hq, ⟨_, rfl⟩, hW, hsame.mono hC hS⟩
  have hm' : T.vm.method? m = some meth := X.method'
  show Steps p.tables e below (T.setTop { method := m, pc := pc, locals := Ls, stack := _ :: rest, locked := none }) _
  jvm_step X.here [X.here.top, hx, hd, hm', hret, narrow]
  first | (intro acts; rw [hr _ acts rfl rfl rfl]) | rw [hr _ _ rfl rfl rfl]
  exact Steps.refl _
theorem own_retV (X : Stand p l e R s m args below meth c T locs cells slots) (hx : p.tables.exec = Jvm.exec) (hlocks : meth.locks = false) {pc : Nat} {Ls : Array Slot} (hret : meth.sig.returnType = none)
    (hd : decode c.code pc = .ok (.return_, 1)) (hq : Q none T.heap locs) (hC : cells ≤ C) (hS : slots ≤ S) : own_Go p e below s Q C S (T.setTop (mkF m pc Ls [])) := by
  obtain ⟨fs, hr, hrun, hended, hW, hsame⟩ := X.leave (v := none) (fun _ => rfl) hlocks
  exact ⟨_, _, X.returnOut hx hret hd hr, hrun, hended, _, _, rfl, hq, ⟨_, rfl⟩, hW, hsame.mono hC hS⟩
theorem own_retR (X : Stand p l e R s m args below meth c T locs cells slots) (hx : p.tables.exec = Jvm.exec) (hlocks : meth.locks = false) {pc : Nat} {Ls : Array Slot} {v : Value} {t : FieldType} {rest : List Value} (hret : meth.sig.returnType = some t) (hv : v.isRef = true) (ht : t.isReference = true)
    (hd : decode c.code pc = .ok (.areturn, 1)) (hq : Q (some v) T.heap locs) (hC : cells ≤ C) (hS : slots ≤ S) : own_Go p e below s Q C S (T.setTop (mkF m pc Ls (v :: rest))) := by
  obtain ⟨fs, hr, hrun, hended, hW, hsame⟩ := X.leave (v := some v) (fun h => by rw [hret] at h; cases h) hlocks
  refine ⟨_, _, ?_, hrun, hended, _, _, rfl, hq, ⟨_, rfl⟩, hW, hsame.mono hC hS⟩
  have hm' : T.vm.method? m = some meth := X.method'
  show Steps p.tables e below (T.setTop { method := m, pc := pc, locals := Ls, stack := _ :: rest, locked := none }) _
  jvm_step X.here [X.here.top, hx, hd, hm', hret, hv, ht]
  first | (intro acts; rw [hr _ acts rfl rfl rfl]) | rw [hr _ _ rfl rfl rfl]
  exact Steps.refl _
theorem own_staKeep {Z : State} {h h' : Heap} {ws : List Addr} {C n d : String} {v : Value} (F : Sta Z h C n d v) (K : Keep h h' ws) (q : ∀ x ∈ ws, ∀ cell : Cell, h[x]? = some cell → cell.vm.isStatics = false) : Sta Z h' C n d v := by
  obtain ⟨cf, i, k, f, st, cell, h1, h2, h3, h4, h5, h6, h7⟩ := F
  exact ⟨cf, i, k, f, st, cell, h1, h2, h3, h4, K.2.1 st cell h5 (fun m => by have := q st m cell h5; rw [h6] at this; cases this), h6, h7⟩
/-- the same under the wide frame (a String constant may have been loaded) -/
def own_GoW (p : Program) (e : Env) (below : List Frame) (s : State) (Q : Option Value → Heap → List Loc → Prop) (C S : Nat) (A : State) : Prop :=
  ∃ s₂ o, Steps p.tables e below A s₂ ∧ s₂.status = .running ∧ Ended s₂ below o ∧ ∃ v L, o = .returned v ∧ Q v s₂.heap L ∧ ReturnedEndW s o s₂ L C S
theorem own_stepW (h : ∀ t, Steps p.tables e below B t → Steps p.tables e below A t) (k : own_GoW p e below s Q C S B) : own_GoW p e below s Q C S A := by
  obtain ⟨s₂, o, h1, h2⟩ := k; exact ⟨s₂, o, h _ h1, h2⟩
theorem own_viaW (h : Steps p.tables e below A B) (k : own_GoW p e below s Q C S B) : own_GoW p e below s Q C S A := own_stepW (fun _ q => h.trans q) k
theorem own_retNW {vm1 : Vm} {n : Nat} (X : Stand p l e R (s.setVm vm1) m args below meth c T locs cells slots) (hS : s.Since vm1 n) (hn : n ≤ T.heap.size) (hx : p.tables.exec = Jvm.exec) (hlocks : meth.locks = false) {pc : Nat} {Ls : Array Slot} {z : Int32} {t : FieldType} {rest : List Value} (hret : meth.sig.returnType = some t) (ht : t = .boolean ∨ t = .byte ∨ t = .char ∨ t = .short)
    (hd : decode c.code pc = .ok (.ireturn, 1)) (hq : Q (some (.int (nar t z))) T.heap locs) (hC : cells ≤ C) (hS' : slots ≤ S) : own_GoW p e below s Q C S (T.setTop (mkF m pc Ls (.int z :: rest))) := by
  obtain ⟨fs, hr, hrun, hended, h1, h2, h3, h4⟩ := X.leaveW hS hn (v := some (.int (nar t z))) (fun h => by rw [hret] at h; cases h) hlocks
  exact ⟨_, _, retN X hx hret ht hd hr, hrun, hended, _, _, rfl, hq, h1, h2, h3, h4.mono hC hS'⟩
theorem own_retVW {vm1 : Vm} {n : Nat} (X : Stand p l e R (s.setVm vm1) m args below meth c T locs cells slots) (hS : s.Since vm1 n) (hn : n ≤ T.heap.size) (hx : p.tables.exec = Jvm.exec) (hlocks : meth.locks = false) {pc : Nat} {Ls : Array Slot} (hret : meth.sig.returnType = none)
    (hd : decode c.code pc = .ok (.return_, 1)) (hq : Q none T.heap locs) (hC : cells ≤ C) (hS' : slots ≤ S) : own_GoW p e below s Q C S (T.setTop (mkF m pc Ls [])) := by
  obtain ⟨fs, hr, hrun, hended, h1, h2, h3, h4⟩ := X.leaveW hS hn (v := none) (fun _ => rfl) hlocks
  exact ⟨_, _, X.returnOut hx hret hd hr, hrun, hended, _, _, rfl, hq, h1, h2, h3, h4.mono hC hS'⟩
end OwnGo

def own_b (p : Prop) [Decidable p] : Int32 := if p then 1 else 0
theorem own_ord {t : Term} {x : Addr} {k : Int32} {C n d : String} {args : Array Value} {s : State} (ht : t.eval args s none [] s = some (.ref x)) (h : (Cond.eq (.field t C n d) (.int k)).value args s none s [] = some true) : s.fieldOf? x C n d = some (.int k) := by
  rw [← fld_at (C := C) (n := n) (dd := d) ht]
  exact Jvm.Free.NT.SwA.eq_int (Cond.before_iff.mpr h)
theorem own_apart {x y : Addr} {j k : Int32} {C n d : String} {s : State} (h1 : s.fieldOf? x C n d = some (.int j)) (h2 : s.fieldOf? y C n d = some (.int k)) (hjk : j ≠ k) : ¬ (x = y) := by
  rintro rfl
  exact hjk (Value.int.inj (Option.some.inj (h1.symm.trans h2)))
def own_kt (xD xI xO a : Addr) (p : Int32) : Int32 := if a = xD then 1 else if a = xI then 1 else if a = xO then (if p = 0 then 1 else 0) else 0
theorem d1_0 : decode prog_17_method_6_code 0 = .ok (.aload_n 0, 1) := by decide +kernel
theorem d1_1 : decode prog_17_method_6_code 1 = .ok (.getstatic 3, 3) := by decide +kernel
theorem d1_4 : decode prog_17_method_6_code 4 = .ok (.if_acmp .eq 21, 3) := by decide +kernel
theorem d1_7 : decode prog_17_method_6_code 7 = .ok (.aload_n 0, 1) := by decide +kernel
theorem d1_8 : decode prog_17_method_6_code 8 = .ok (.getstatic 7, 3) := by decide +kernel
theorem d1_11 : decode prog_17_method_6_code 11 = .ok (.if_acmp .eq 14, 3) := by decide +kernel
theorem d1_14 : decode prog_17_method_6_code 14 = .ok (.aload_n 0, 1) := by decide +kernel
theorem d1_15 : decode prog_17_method_6_code 15 = .ok (.getstatic 10, 3) := by decide +kernel
theorem d1_18 : decode prog_17_method_6_code 18 = .ok (.if_acmp .ne 11, 3) := by decide +kernel
theorem d1_21 : decode prog_17_method_6_code 21 = .ok (.iload_n 1, 1) := by decide +kernel
theorem d1_22 : decode prog_17_method_6_code 22 = .ok (.ifCond .ne 7, 3) := by decide +kernel
theorem d1_25 : decode prog_17_method_6_code 25 = .ok (.iconst 1, 1) := by decide +kernel
theorem d1_26 : decode prog_17_method_6_code 26 = .ok (.goto 4, 3) := by decide +kernel
theorem d1_29 : decode prog_17_method_6_code 29 = .ok (.iconst 0, 1) := by decide +kernel
theorem d1_30 : decode prog_17_method_6_code 30 = .ok (.ireturn, 1) := by decide +kernel
theorem pn_0 : plainName "com/example/cotran/cotran/pool/StatementKind" = true := by first | (simp [plainName, overriddenIn]; done) | decide +kernel
theorem ef_1 (m : MethodId) (a1 : Addr) (p2 : Int32) : entryFrame m #[(.ref a1), (.int p2)] 2 = mkF m 0 #[.val (.ref a1), .val (.int p2)] [] := by first | (simp [entryFrame, mkF, argsToLocals, Value.category]; done) | rfl
def Q1 (Z : State) (a1 : Addr) (p2 : Int32) (xD : Addr) (xI : Addr) (xO : Addr) (h0 : Heap) (n0 : Nat) (v : Option Value) (h : Heap) (L : List Loc) : Prop := v = some (.int (own_kt xD xI xO a1 p2)) ∧ Fr n0 L ∧ h = h0
set_option maxRecDepth 65536 in
set_option maxHeartbeats 40000000 in
theorem rm1 (l : Launch) (Z : State) (a0 : Array Value) (hw : ∀ d ∈ tables_1, d.before a0 Z = true) (ws : List Jvm.Cond) (a1 : Addr) (p2 : Int32) (xD : Addr) (xI : Addr) (xO : Addr) (h0 : Heap) (n0 : Nat) (Z0 : n0 ≤ h0.size) (S_DATA : Sta Z h0 "com/example/cotran/cotran/pool/StatementKind" "DATA" "Lcom/example/cotran/cotran/pool/StatementKind;" (.ref xD)) (S_IN_TRANSACTION : Sta Z h0 "com/example/cotran/cotran/pool/StatementKind" "IN_TRANSACTION" "Lcom/example/cotran/cotran/pool/StatementKind;" (.ref xI)) (S_OTHER : Sta Z h0 "com/example/cotran/cotran/pool/StatementKind" "OTHER" "Lcom/example/cotran/cotran/pool/StatementKind;" (.ref xO)) :
    MetFree l (⟨"com/example/cotran/cotran/pool/StatementKind", "keepsTransaction", "(Z)Z"⟩ : MethodName) (head1 (Jvm.Cond.code (⟨"com/example/cotran/cotran/pool/StatementKind", "keepsTransaction", "(Z)Z"⟩ : MethodName) prog_17_method_6_code 2 (some .boolean) :: ws) ({ frames := 0, cells := 0, slots := 0, locals := 0 } : Room)) (fun a U => a = #[(.ref a1), (.int p2)] ∧ Z.Warmed39 U.vm ∧ U.heap = h0) (fun _ _ _ _ _ => True) (fun _ U o U' => ∃ v L, o = .returned v ∧ Q1 Z a1 p2 xD xI xO h0 n0 v U'.heap L ∧ FrameEnd U o U' L ({ frames := 0, cells := 0, slots := 0, locals := 0 } : Room).cells ({ frames := 0, cells := 0, slots := 0, locals := 0 } : Room).slots) := by
  refine MetFree.of_bodySF (plainFor_of_name pn_0) hisR ?_
  intro p e s m args below meth c s₁ Bd hml0 hP hK
  obtain ⟨rfl, hZ, hh⟩ := hP
  have hx := Bd.exec
  have hby := Bd.bytes
  have hml : c.maxLocals = 2 := hml0
  have hown : s.vm.findClass "com/example/cotran/cotran/pool/StatementKind" = some m.cls := findClass_of_methodNamed Bd.named
  have hnm := (name_of_methodNamed Bd.named Bd.method).1
  have X0 : Stand p l e ({ frames := 0, cells := 0, slots := 0, locals := 0 } : Room) s m #[(.ref a1), (.int p2)] below meth c s₁ [] 0 0 := Stand.of_body Bd
  have e0 : s₁.heap = h0 := by rw [← hh, Bd.state]; rfl
  have N0 := Fr.nil n0
  skip
  show own_Go p e below s (Q1 Z a1 p2 xD xI xO h0 n0) ({ frames := 0, cells := 0, slots := 0, locals := 0 } : Room).cells ({ frames := 0, cells := 0, slots := 0, locals := 0 } : Room).slots _
  refine own_step (B := s₁.setTop (mkF m 0 #[.val (.ref a1), .val (.int p2)] [])) (fun t k => castTop (ef_1 m a1 p2) k) ?_
  refine own_step (B := s₁.setTop (mkF m 1 #[.val (.ref a1), .val (.int p2)] [(.ref a1)])) (fun t k => ?_) ?_
  · show Steps p.tables e below (s₁.setTop (mkF m 0 #[.val (.ref a1), .val (.int p2)] [])) _
    refine XS.aloadN X0.here hx rfl (hb hby d1_0) rfl rfl ?_
    exact k
  obtain ⟨T1, X1, e1, st1⟩ := getS2 X0 hx hZ hown (host := "") (Or.inl (hw _ (List.mem_of_getElem? (i := 8) rfl))) Via.refl e0 S_DATA (g := (mkF m 1 #[.val (.ref a1), .val (.int p2)] [(.ref a1)])) rfl (hb hby d1_1)
  refine own_step st1 ?_
  show own_Go p e below s _ _ _ (T1.setTop (mkF m 4 #[.val (.ref a1), .val (.int p2)] [(.ref xD), (.ref a1)]))
  by_cases ha4 : a1 = xD
  · refine own_step (B := T1.setTop (mkF m 30 #[.val (.ref a1), .val (.int p2)] [(.int (1 : Int32))])) (fun t k => ?_) ?_
    · show Steps p.tables e below (T1.setTop (mkF m 4 #[.val (.ref a1), .val (.int p2)] [(.ref xD), (.ref a1)])) _
      refine Jvm.RoadKit.acmp (g := (mkF m 4 #[.val (.ref a1), .val (.int p2)] [(.ref xD), (.ref a1)])) X1 hx rfl rfl rfl (pc0 := 4) (pc' := 25) (same := true) rfl (hb hby d1_4) rfl (decide_eq_true (congrArg Value.ref ha4)) (by decide) (by decide) ?_
      show Steps p.tables e below (T1.setTop (mkF m 25 #[.val (.ref a1), .val (.int p2)] [])) _
      refine XS.iconst X1.here hx rfl (hb hby d1_25) ?_
      show Steps p.tables e below (T1.setTop (mkF m 26 #[.val (.ref a1), .val (.int p2)] [(.int (1 : Int32))])) _
      refine XS.goto X1.here hx rfl (pc0 := 26) (pc' := 30) rfl (hb hby d1_26) (by decide) (by decide) ?_
      exact k
    exact own_retN X1 hx Bd.notSynchronized (t := .boolean) Bd.returns (by simp) (hb hby d1_30) ⟨by show some (Value.int ((1 : Int32))) = _; rw [own_kt, if_pos ha4], N0, e1⟩ (by decide) (by decide)
  · refine own_step (B := T1.setTop (mkF m 8 #[.val (.ref a1), .val (.int p2)] [(.ref a1)])) (fun t k => ?_) ?_
    · show Steps p.tables e below (T1.setTop (mkF m 4 #[.val (.ref a1), .val (.int p2)] [(.ref xD), (.ref a1)])) _
      refine Jvm.RoadKit.acmp (g := (mkF m 4 #[.val (.ref a1), .val (.int p2)] [(.ref xD), (.ref a1)])) X1 hx rfl rfl rfl (pc0 := 4) (pc' := 7) (same := false) rfl (hb hby d1_4) rfl (decide_eq_false fun q => ha4 (Value.ref.inj q)) (by decide) (by decide) ?_
      show Steps p.tables e below (T1.setTop (mkF m 7 #[.val (.ref a1), .val (.int p2)] [])) _
      refine XS.aloadN X1.here hx rfl (hb hby d1_7) rfl rfl ?_
      exact k
    obtain ⟨T2, X2, e2, st2⟩ := getS2 X1 hx hZ hown (host := "") (Or.inl (hw _ (List.mem_of_getElem? (i := 11) rfl))) Via.refl e1 S_IN_TRANSACTION (g := (mkF m 8 #[.val (.ref a1), .val (.int p2)] [(.ref a1)])) rfl (hb hby d1_8)
    refine own_step st2 ?_
    show own_Go p e below s _ _ _ (T2.setTop (mkF m 11 #[.val (.ref a1), .val (.int p2)] [(.ref xI), (.ref a1)]))
    by_cases ha11 : a1 = xI
    · refine own_step (B := T2.setTop (mkF m 30 #[.val (.ref a1), .val (.int p2)] [(.int (1 : Int32))])) (fun t k => ?_) ?_
      · show Steps p.tables e below (T2.setTop (mkF m 11 #[.val (.ref a1), .val (.int p2)] [(.ref xI), (.ref a1)])) _
        refine Jvm.RoadKit.acmp (g := (mkF m 11 #[.val (.ref a1), .val (.int p2)] [(.ref xI), (.ref a1)])) X2 hx rfl rfl rfl (pc0 := 11) (pc' := 25) (same := true) rfl (hb hby d1_11) rfl (decide_eq_true (congrArg Value.ref ha11)) (by decide) (by decide) ?_
        show Steps p.tables e below (T2.setTop (mkF m 25 #[.val (.ref a1), .val (.int p2)] [])) _
        refine XS.iconst X2.here hx rfl (hb hby d1_25) ?_
        show Steps p.tables e below (T2.setTop (mkF m 26 #[.val (.ref a1), .val (.int p2)] [(.int (1 : Int32))])) _
        refine XS.goto X2.here hx rfl (pc0 := 26) (pc' := 30) rfl (hb hby d1_26) (by decide) (by decide) ?_
        exact k
      exact own_retN X2 hx Bd.notSynchronized (t := .boolean) Bd.returns (by simp) (hb hby d1_30) ⟨by show some (Value.int ((1 : Int32))) = _; rw [own_kt, if_neg ha4, if_pos ha11], N0, e2⟩ (by decide) (by decide)
    · refine own_step (B := T2.setTop (mkF m 15 #[.val (.ref a1), .val (.int p2)] [(.ref a1)])) (fun t k => ?_) ?_
      · show Steps p.tables e below (T2.setTop (mkF m 11 #[.val (.ref a1), .val (.int p2)] [(.ref xI), (.ref a1)])) _
        refine Jvm.RoadKit.acmp (g := (mkF m 11 #[.val (.ref a1), .val (.int p2)] [(.ref xI), (.ref a1)])) X2 hx rfl rfl rfl (pc0 := 11) (pc' := 14) (same := false) rfl (hb hby d1_11) rfl (decide_eq_false fun q => ha11 (Value.ref.inj q)) (by decide) (by decide) ?_
        show Steps p.tables e below (T2.setTop (mkF m 14 #[.val (.ref a1), .val (.int p2)] [])) _
        refine XS.aloadN X2.here hx rfl (hb hby d1_14) rfl rfl ?_
        exact k
      obtain ⟨T3, X3, e3, st3⟩ := getS2 X2 hx hZ hown (host := "") (Or.inl (hw _ (List.mem_of_getElem? (i := 13) rfl))) Via.refl e2 S_OTHER (g := (mkF m 15 #[.val (.ref a1), .val (.int p2)] [(.ref a1)])) rfl (hb hby d1_15)
      refine own_step st3 ?_
      show own_Go p e below s _ _ _ (T3.setTop (mkF m 18 #[.val (.ref a1), .val (.int p2)] [(.ref xO), (.ref a1)]))
      by_cases ha18 : a1 = xO
      · refine own_step (B := T3.setTop (mkF m 22 #[.val (.ref a1), .val (.int p2)] [(.int p2)])) (fun t k => ?_) ?_
        · show Steps p.tables e below (T3.setTop (mkF m 18 #[.val (.ref a1), .val (.int p2)] [(.ref xO), (.ref a1)])) _
          refine Jvm.RoadKit.acmp (g := (mkF m 18 #[.val (.ref a1), .val (.int p2)] [(.ref xO), (.ref a1)])) X3 hx rfl rfl rfl (pc0 := 18) (pc' := 21) (same := true) rfl (hb hby d1_18) rfl (decide_eq_true (congrArg Value.ref ha18)) (by decide) (by decide) ?_
          show Steps p.tables e below (T3.setTop (mkF m 21 #[.val (.ref a1), .val (.int p2)] [])) _
          refine XS.iloadN X3.here hx rfl (hb hby d1_21) rfl ?_
          exact k
        by_cases hc22 : p2 = (0 : Int32)
        · refine own_step (B := T3.setTop (mkF m 30 #[.val (.ref a1), .val (.int p2)] [(.int (1 : Int32))])) (fun t k => ?_) ?_
          · show Steps p.tables e below (T3.setTop (mkF m 22 #[.val (.ref a1), .val (.int p2)] [(.int p2)])) _
            refine XS.ifNo X3.here hx rfl (hb hby d1_22) rfl ((if0 _ _).trans (teq hc22).2) ?_
            show Steps p.tables e below (T3.setTop (mkF m 25 #[.val (.ref a1), .val (.int p2)] [])) _
            refine XS.iconst X3.here hx rfl (hb hby d1_25) ?_
            show Steps p.tables e below (T3.setTop (mkF m 26 #[.val (.ref a1), .val (.int p2)] [(.int (1 : Int32))])) _
            refine XS.goto X3.here hx rfl (pc0 := 26) (pc' := 30) rfl (hb hby d1_26) (by decide) (by decide) ?_
            exact k
          exact own_retN X3 hx Bd.notSynchronized (t := .boolean) Bd.returns (by simp) (hb hby d1_30) ⟨by show some (Value.int ((1 : Int32))) = _; rw [own_kt, if_neg ha4, if_neg ha11, if_pos ha18, if_pos hc22], N0, e3⟩ (by decide) (by decide)
        · refine own_step (B := T3.setTop (mkF m 30 #[.val (.ref a1), .val (.int p2)] [(.int (0 : Int32))])) (fun t k => ?_) ?_
          · show Steps p.tables e below (T3.setTop (mkF m 22 #[.val (.ref a1), .val (.int p2)] [(.int p2)])) _
            refine XS.ifYes X3.here hx rfl (pc0 := 22) (pc' := 29) rfl (hb hby d1_22) rfl ((if0 _ _).trans (feq hc22).2) (by decide) (by decide) ?_
            show Steps p.tables e below (T3.setTop (mkF m 29 #[.val (.ref a1), .val (.int p2)] [])) _
            refine XS.iconst X3.here hx rfl (hb hby d1_29) ?_
            exact k
          exact own_retN X3 hx Bd.notSynchronized (t := .boolean) Bd.returns (by simp) (hb hby d1_30) ⟨by show some (Value.int ((0 : Int32))) = _; rw [own_kt, if_neg ha4, if_neg ha11, if_pos ha18, if_neg hc22], N0, e3⟩ (by decide) (by decide)
      · refine own_step (B := T3.setTop (mkF m 30 #[.val (.ref a1), .val (.int p2)] [(.int (0 : Int32))])) (fun t k => ?_) ?_
        · show Steps p.tables e below (T3.setTop (mkF m 18 #[.val (.ref a1), .val (.int p2)] [(.ref xO), (.ref a1)])) _
          refine Jvm.RoadKit.acmp (g := (mkF m 18 #[.val (.ref a1), .val (.int p2)] [(.ref xO), (.ref a1)])) X3 hx rfl rfl rfl (pc0 := 18) (pc' := 29) (same := false) rfl (hb hby d1_18) rfl (decide_eq_false fun q => ha18 (Value.ref.inj q)) (by decide) (by decide) ?_
          show Steps p.tables e below (T3.setTop (mkF m 29 #[.val (.ref a1), .val (.int p2)] [])) _
          refine XS.iconst X3.here hx rfl (hb hby d1_29) ?_
          exact k
        exact own_retN X3 hx Bd.notSynchronized (t := .boolean) Bd.returns (by simp) (hb hby d1_30) ⟨by show some (Value.int ((0 : Int32))) = _; rw [own_kt, if_neg ha4, if_neg ha11, if_neg ha18], N0, e3⟩ (by decide) (by decide)
theorem pd_1 : parseMethodDescriptor "(Z)Z" = some ⟨[.boolean], some .boolean⟩ := by decide +kernel
theorem pn_2 : plainName "com/example/cotran/cotran/pool/StatementKindKeepsTransactionPinLaw" = true := by first | (simp [plainName, overriddenIn]; done) | decide +kernel
theorem ef_0 (m : MethodId) (p1 : Int32) (p2 : Int32) : entryFrame m #[(.int p1), (.int p2)] maxLocals = mkF m 0 #[.val (.int p1), .val (.int p2), .unset, .unset, .unset, .unset] [] := by first | (simp [entryFrame, mkF, argsToLocals, Value.category, maxLocals]; done) | rfl
def Q0 (Z : State) (p1 : Int32) (p2 : Int32) (xD : Addr) (xI : Addr) (xO : Addr) (xT : Addr) (h0 : Heap) (n0 : Nat) (v : Option Value) (h : Heap) (L : List Loc) : Prop := v = some (.int (1 : Int32)) ∧ Fr n0 L
set_option maxRecDepth 65536 in
set_option maxHeartbeats 40000000 in
theorem rm0 (l : Launch) (Z : State) (a0 : Array Value) (hw : ∀ d ∈ tables_1, d.before a0 Z = true) (ws : List Jvm.Cond) (p1 : Int32) (p2 : Int32) (xD : Addr) (xI : Addr) (xO : Addr) (xT : Addr) (h0 : Heap) (n0 : Nat) (Z0 : n0 ≤ h0.size) (S_DATA : Sta Z h0 "com/example/cotran/cotran/pool/StatementKind" "DATA" "Lcom/example/cotran/cotran/pool/StatementKind;" (.ref xD)) (S_IN_TRANSACTION : Sta Z h0 "com/example/cotran/cotran/pool/StatementKind" "IN_TRANSACTION" "Lcom/example/cotran/cotran/pool/StatementKind;" (.ref xI)) (S_OTHER : Sta Z h0 "com/example/cotran/cotran/pool/StatementKind" "OTHER" "Lcom/example/cotran/cotran/pool/StatementKind;" (.ref xO)) (S_TRANSACTION_CONTROL : Sta Z h0 "com/example/cotran/cotran/pool/StatementKind" "TRANSACTION_CONTROL" "Lcom/example/cotran/cotran/pool/StatementKind;" (.ref xT)) (E_xD : Exa Z h0 xD "com/example/cotran/cotran/pool/StatementKind") (E_xI : Exa Z h0 xI "com/example/cotran/cotran/pool/StatementKind") (E_xO : Exa Z h0 xO "com/example/cotran/cotran/pool/StatementKind") (E_xT : Exa Z h0 xT "com/example/cotran/cotran/pool/StatementKind") (n_xI_xD : ¬ (xI = xD)) (n_xO_xD : ¬ (xO = xD)) (n_xO_xI : ¬ (xO = xI)) (n_xT_xD : ¬ (xT = xD)) (n_xT_xI : ¬ (xT = xI)) (n_xT_xO : ¬ (xT = xO)) :
    MetFree l x (head1 (Jvm.Cond.code x code maxLocals ret :: ws) room_1) (fun a U => a = #[(.int p1), (.int p2)] ∧ Z.Warmed39 U.vm ∧ U.heap = h0) (fun _ _ _ _ _ => True) (fun _ U o U' => ∃ v L, o = .returned v ∧ Q0 Z p1 p2 xD xI xO xT h0 n0 v U'.heap L ∧ FrameEnd U o U' L room_1.cells room_1.slots) := by
  refine MetFree.of_bodySF (plainFor_of_name pn_2) hisR ?_
  intro p e s m args below meth c s₁ Bd hml0 hP hK
  obtain ⟨rfl, hZ, hh⟩ := hP
  have hx := Bd.exec
  have hby := Bd.bytes
  have hml : c.maxLocals = 6 := hml0
  have hown : s.vm.findClass "com/example/cotran/cotran/pool/StatementKindKeepsTransactionPinLaw" = some m.cls := findClass_of_methodNamed Bd.named
  have hnm := (name_of_methodNamed Bd.named Bd.method).1
  have X0 : Stand p l e room_1 s m #[(.int p1), (.int p2)] below meth c s₁ [] 0 0 := Stand.of_body Bd
  have e0 : s₁.heap = h0 := by rw [← hh, Bd.state]; rfl
  have N0 := Fr.nil n0
  skip
  show own_Go p e below s (Q0 Z p1 p2 xD xI xO xT h0 n0) room_1.cells room_1.slots _
  refine own_step (B := s₁.setTop (mkF m 0 #[.val (.int p1), .val (.int p2), .unset, .unset, .unset, .unset] [])) (fun t k => castTop (ef_0 m p1 p2) k) ?_
  refine own_step (B := s₁.setTop (mkF m 4 #[.val (.int p1), .val (.int p2), .val (.int (p1 &&& (3 : Int32))), .unset, .unset, .unset] [])) (fun t k => ?_) ?_
  · show Steps p.tables e below (s₁.setTop (mkF m 0 #[.val (.int p1), .val (.int p2), .unset, .unset, .unset, .unset] [])) _
    refine XS.iloadN X0.here hx rfl (hb hby at_0) rfl ?_
    show Steps p.tables e below (s₁.setTop (mkF m 1 #[.val (.int p1), .val (.int p2), .unset, .unset, .unset, .unset] [(.int p1)])) _
    refine XS.iconst X0.here hx rfl (hb hby at_1) ?_
    show Steps p.tables e below (s₁.setTop (mkF m 2 #[.val (.int p1), .val (.int p2), .unset, .unset, .unset, .unset] [(.int (3 : Int32)), (.int p1)])) _
    refine XS.iand X0.here hx rfl (hb hby at_2) rfl ?_
    show Steps p.tables e below (s₁.setTop (mkF m 3 #[.val (.int p1), .val (.int p2), .unset, .unset, .unset, .unset] [(.int (p1 &&& (3 : Int32)))])) _
    refine XS.istoreN X0.here hx rfl (hb hby at_3) rfl (l' := #[.val (.int p1), .val (.int p2), .val (.int (p1 &&& (3 : Int32))), .unset, .unset, .unset]) rfl ?_
    exact k
  refine own_step (B := s₁.setTop (mkF m 15 #[.val (.int p1), .val (.int p2), .val (.int (p1 &&& (3 : Int32))), .unset, .unset, .unset] [(.int (own_b (¬ (p2 &&& (1 : Int32)) = (0 : Int32))))])) (fun t k => ?_) ?_
  · show Steps p.tables e below (s₁.setTop (mkF m 4 #[.val (.int p1), .val (.int p2), .val (.int (p1 &&& (3 : Int32))), .unset, .unset, .unset] [])) _
    refine XS.iloadN X0.here hx rfl (hb hby at_4) rfl ?_
    show Steps p.tables e below (s₁.setTop (mkF m 5 #[.val (.int p1), .val (.int p2), .val (.int (p1 &&& (3 : Int32))), .unset, .unset, .unset] [(.int p2)])) _
    refine XS.iconst X0.here hx rfl (hb hby at_5) ?_
    show Steps p.tables e below (s₁.setTop (mkF m 6 #[.val (.int p1), .val (.int p2), .val (.int (p1 &&& (3 : Int32))), .unset, .unset, .unset] [(.int (1 : Int32)), (.int p2)])) _
    refine XS.iand X0.here hx rfl (hb hby at_6) rfl ?_
    by_cases hc7 : (p2 &&& (1 : Int32)) = (0 : Int32)
    · show Steps p.tables e below (s₁.setTop (mkF m 7 #[.val (.int p1), .val (.int p2), .val (.int (p1 &&& (3 : Int32))), .unset, .unset, .unset] [(.int (p2 &&& (1 : Int32)))])) _
      refine XS.ifYes X0.here hx rfl (pc0 := 7) (pc' := 14) rfl (hb hby at_7) rfl ((if0 _ _).trans (teq hc7).1) (by decide) (by decide) ?_
      show Steps p.tables e below (s₁.setTop (mkF m 14 #[.val (.int p1), .val (.int p2), .val (.int (p1 &&& (3 : Int32))), .unset, .unset, .unset] [])) _
      refine XS.iconst X0.here hx rfl (hb hby at_14) ?_
      show Steps p.tables e below (s₁.setTop (mkF m 15 #[.val (.int p1), .val (.int p2), .val (.int (p1 &&& (3 : Int32))), .unset, .unset, .unset] [(.int (0 : Int32))])) _
      have q1 : (own_b (¬ (p2 &&& (1 : Int32)) = (0 : Int32))) = (0 : Int32) := by simp [own_b, hc7]
      rw [q1] at k
      exact k
    · show Steps p.tables e below (s₁.setTop (mkF m 7 #[.val (.int p1), .val (.int p2), .val (.int (p1 &&& (3 : Int32))), .unset, .unset, .unset] [(.int (p2 &&& (1 : Int32)))])) _
      refine XS.ifNo X0.here hx rfl (hb hby at_7) rfl ((if0 _ _).trans (feq hc7).1) ?_
      show Steps p.tables e below (s₁.setTop (mkF m 10 #[.val (.int p1), .val (.int p2), .val (.int (p1 &&& (3 : Int32))), .unset, .unset, .unset] [])) _
      refine XS.iconst X0.here hx rfl (hb hby at_10) ?_
      show Steps p.tables e below (s₁.setTop (mkF m 11 #[.val (.int p1), .val (.int p2), .val (.int (p1 &&& (3 : Int32))), .unset, .unset, .unset] [(.int (1 : Int32))])) _
      refine XS.goto X0.here hx rfl (pc0 := 11) (pc' := 15) rfl (hb hby at_11) (by decide) (by decide) ?_
      show Steps p.tables e below (s₁.setTop (mkF m 15 #[.val (.int p1), .val (.int p2), .val (.int (p1 &&& (3 : Int32))), .unset, .unset, .unset] [(.int (1 : Int32))])) _
      have q2 : (own_b (¬ (p2 &&& (1 : Int32)) = (0 : Int32))) = (1 : Int32) := by simp [own_b, hc7]
      rw [q2] at k
      exact k
  refine own_step (B := s₁.setTop (mkF m 17 #[.val (.int p1), .val (.int p2), .val (.int (p1 &&& (3 : Int32))), .val (.int (own_b (¬ (p2 &&& (1 : Int32)) = (0 : Int32)))), .unset, .unset] [(.int (p1 &&& (3 : Int32)))])) (fun t k => ?_) ?_
  · show Steps p.tables e below (s₁.setTop (mkF m 15 #[.val (.int p1), .val (.int p2), .val (.int (p1 &&& (3 : Int32))), .unset, .unset, .unset] [(.int (own_b (¬ (p2 &&& (1 : Int32)) = (0 : Int32))))])) _
    refine XS.istoreN X0.here hx rfl (hb hby at_15) rfl (l' := #[.val (.int p1), .val (.int p2), .val (.int (p1 &&& (3 : Int32))), .val (.int (own_b (¬ (p2 &&& (1 : Int32)) = (0 : Int32)))), .unset, .unset]) rfl ?_
    show Steps p.tables e below (s₁.setTop (mkF m 16 #[.val (.int p1), .val (.int p2), .val (.int (p1 &&& (3 : Int32))), .val (.int (own_b (¬ (p2 &&& (1 : Int32)) = (0 : Int32)))), .unset, .unset] [])) _
    refine XS.iloadN X0.here hx rfl (hb hby at_16) rfl ?_
    exact k
  by_cases hc17 : (p1 &&& (3 : Int32)) = (0 : Int32)
  · refine own_step (B := s₁.setTop (mkF m 20 #[.val (.int p1), .val (.int p2), .val (.int (p1 &&& (3 : Int32))), .val (.int (own_b (¬ (p2 &&& (1 : Int32)) = (0 : Int32)))), .unset, .unset] [])) (fun t k => ?_) ?_
    · show Steps p.tables e below (s₁.setTop (mkF m 17 #[.val (.int p1), .val (.int p2), .val (.int (p1 &&& (3 : Int32))), .val (.int (own_b (¬ (p2 &&& (1 : Int32)) = (0 : Int32)))), .unset, .unset] [(.int (p1 &&& (3 : Int32)))])) _
      refine XS.ifNo X0.here hx rfl (hb hby at_17) rfl ((if0 _ _).trans (teq hc17).2) ?_
      exact k
    obtain ⟨T3, X3, e3, st3⟩ := getS2 X0 hx hZ hown (host := "") (Or.inl (hw _ (List.mem_of_getElem? (i := 0) rfl))) Via.refl e0 S_DATA (g := (mkF m 20 #[.val (.int p1), .val (.int p2), .val (.int (p1 &&& (3 : Int32))), .val (.int (own_b (¬ (p2 &&& (1 : Int32)) = (0 : Int32)))), .unset, .unset] [])) rfl (hb hby at_20)
    refine own_step st3 ?_
    show own_Go p e below s _ _ _ (T3.setTop (mkF m 23 #[.val (.int p1), .val (.int p2), .val (.int (p1 &&& (3 : Int32))), .val (.int (own_b (¬ (p2 &&& (1 : Int32)) = (0 : Int32)))), .unset, .unset] [(.ref xD)]))
    refine own_step (B := T3.setTop (mkF m 82 #[.val (.int p1), .val (.int p2), .val (.int (p1 &&& (3 : Int32))), .val (.int (own_b (¬ (p2 &&& (1 : Int32)) = (0 : Int32)))), .val (.ref xD), .val (.int (1 : Int32))] [(.int (own_b (¬ (p2 &&& (1 : Int32)) = (0 : Int32)))), (.ref xD)])) (fun t k => ?_) ?_
    · show Steps p.tables e below (T3.setTop (mkF m 23 #[.val (.int p1), .val (.int p2), .val (.int (p1 &&& (3 : Int32))), .val (.int (own_b (¬ (p2 &&& (1 : Int32)) = (0 : Int32)))), .unset, .unset] [(.ref xD)])) _
      refine XS.astore X3.here hx rfl (hb hby at_23) rfl rfl (l' := #[.val (.int p1), .val (.int p2), .val (.int (p1 &&& (3 : Int32))), .val (.int (own_b (¬ (p2 &&& (1 : Int32)) = (0 : Int32)))), .val (.ref xD), .unset]) rfl ?_
      show Steps p.tables e below (T3.setTop (mkF m 25 #[.val (.int p1), .val (.int p2), .val (.int (p1 &&& (3 : Int32))), .val (.int (own_b (¬ (p2 &&& (1 : Int32)) = (0 : Int32)))), .val (.ref xD), .unset] [])) _
      refine XS.iconst X3.here hx rfl (hb hby at_25) ?_
      show Steps p.tables e below (T3.setTop (mkF m 26 #[.val (.int p1), .val (.int p2), .val (.int (p1 &&& (3 : Int32))), .val (.int (own_b (¬ (p2 &&& (1 : Int32)) = (0 : Int32)))), .val (.ref xD), .unset] [(.int (1 : Int32))])) _
      refine XS.istore X3.here hx rfl (hb hby at_26) rfl (l' := #[.val (.int p1), .val (.int p2), .val (.int (p1 &&& (3 : Int32))), .val (.int (own_b (¬ (p2 &&& (1 : Int32)) = (0 : Int32)))), .val (.ref xD), .val (.int (1 : Int32))]) rfl ?_
      show Steps p.tables e below (T3.setTop (mkF m 28 #[.val (.int p1), .val (.int p2), .val (.int (p1 &&& (3 : Int32))), .val (.int (own_b (¬ (p2 &&& (1 : Int32)) = (0 : Int32)))), .val (.ref xD), .val (.int (1 : Int32))] [])) _
      refine XS.goto X3.here hx rfl (pc0 := 28) (pc' := 79) rfl (hb hby at_28) (by decide) (by decide) ?_
      show Steps p.tables e below (T3.setTop (mkF m 79 #[.val (.int p1), .val (.int p2), .val (.int (p1 &&& (3 : Int32))), .val (.int (own_b (¬ (p2 &&& (1 : Int32)) = (0 : Int32)))), .val (.ref xD), .val (.int (1 : Int32))] [])) _
      refine XS.aload X3.here hx rfl (hb hby at_79) rfl rfl ?_
      show Steps p.tables e below (T3.setTop (mkF m 81 #[.val (.int p1), .val (.int p2), .val (.int (p1 &&& (3 : Int32))), .val (.int (own_b (¬ (p2 &&& (1 : Int32)) = (0 : Int32)))), .val (.ref xD), .val (.int (1 : Int32))] [(.ref xD)])) _
      refine XS.iloadN X3.here hx rfl (hb hby at_81) rfl ?_
      exact k
    obtain ⟨cq4, kq4, q4a, q4b, q4c⟩ := isOf hZ e3 E_xD
    obtain ⟨_, _, ⟨T4, L4, k4, n4⟩, -, X4, ⟨Lc4, hQ4, l4, y4, z4⟩, st4⟩ := X3.virtualBack hx (y := (⟨"com/example/cotran/cotran/pool/StatementKind", "keepsTransaction", "(Z)Z"⟩ : MethodName)) (z := (⟨"com/example/cotran/cotran/pool/StatementKind", "keepsTransaction", "(Z)Z"⟩ : MethodName)) hown (mvT hZ (hw _ (List.mem_of_getElem? (i := 3) rfl))) (mvT hZ (hw _ (List.mem_of_getElem? (i := 4) rfl))) (notFace_of_selects (args := #[]) (mvT hZ (hw _ (List.mem_of_getElem? (i := 6) rfl)))) (mvT hZ (hw _ (List.mem_of_getElem? (i := 6) rfl))) (mvT hZ (hw _ (List.mem_of_getElem? (i := 5) rfl))) (by decide) (backOf (W := 0) (rm1 l Z a0 hw [] xD (own_b (¬ (p2 &&& (1 : Int32)) = (0 : Int32))) xD xI xO h0 n0 Z0 S_DATA S_IN_TRANSACTION S_OTHER) hZ (hw _ (List.mem_of_getElem? (i := 7) rfl)) (hw _ (List.mem_of_getElem? (i := 1) rfl)) (by decide) (by decide)) q4a q4c (g := (mkF m 82 #[.val (.int p1), .val (.int p2), .val (.int (p1 &&& (3 : Int32))), .val (.int (own_b (¬ (p2 &&& (1 : Int32)) = (0 : Int32)))), .val (.ref xD), .val (.int (1 : Int32))] [(.int (own_b (¬ (p2 &&& (1 : Int32)) = (0 : Int32)))), (.ref xD)])) rfl (by rw [hml]; rfl) (Steps.refl _) (argsL := [(.int (own_b (¬ (p2 &&& (1 : Int32)) = (0 : Int32))))]) (rest := []) (lenOf pd_1 rfl) rfl (by show 2 * 0 + _ ≤ _; exact Nat.le_of_eq rfl) (hb hby at_82) (fun _ _ => ⟨rfl, e3, (by decide : 0 + 0 ≤ _), (by decide : 0 + 0 ≤ _)⟩)
    dsimp only [Pt.U, Pt.locs, Pt.cells, Pt.slots] at X4 l4 y4 z4 st4 hQ4
    subst l4 y4 z4
    obtain ⟨rfl, N4q, e4⟩ := hQ4
    have N4 := Fr.app N0 N4q
    refine own_via st4 ?_
    show own_Go p e below s _ _ _ (T4.setTop (mkF m 85 #[.val (.int p1), .val (.int p2), .val (.int (p1 &&& (3 : Int32))), .val (.int (own_b (¬ (p2 &&& (1 : Int32)) = (0 : Int32)))), .val (.ref xD), .val (.int (1 : Int32))] [(.int (own_kt xD xI xO xD (own_b (¬ (p2 &&& (1 : Int32)) = (0 : Int32)))))]))
    refine own_step (B := T4.setTop (mkF m 95 #[.val (.int p1), .val (.int p2), .val (.int (p1 &&& (3 : Int32))), .val (.int (own_b (¬ (p2 &&& (1 : Int32)) = (0 : Int32)))), .val (.ref xD), .val (.int (1 : Int32))] [(.int (1 : Int32))])) (fun t k => ?_) ?_
    · show Steps p.tables e below (T4.setTop (mkF m 85 #[.val (.int p1), .val (.int p2), .val (.int (p1 &&& (3 : Int32))), .val (.int (own_b (¬ (p2 &&& (1 : Int32)) = (0 : Int32)))), .val (.ref xD), .val (.int (1 : Int32))] [(.int (own_kt xD xI xO xD (own_b (¬ (p2 &&& (1 : Int32)) = (0 : Int32)))))])) _
      refine XS.iload X4.here hx rfl (hb hby at_85) rfl ?_
      show Steps p.tables e below (T4.setTop (mkF m 87 #[.val (.int p1), .val (.int p2), .val (.int (p1 &&& (3 : Int32))), .val (.int (own_b (¬ (p2 &&& (1 : Int32)) = (0 : Int32)))), .val (.ref xD), .val (.int (1 : Int32))] [(.int (1 : Int32)), (.int (own_kt xD xI xO xD (own_b (¬ (p2 &&& (1 : Int32)) = (0 : Int32)))))])) _
      refine XS.icmpNo X4.here hx rfl (hb hby at_87) rfl (teq (by simp [own_kt])).2 ?_
      show Steps p.tables e below (T4.setTop (mkF m 90 #[.val (.int p1), .val (.int p2), .val (.int (p1 &&& (3 : Int32))), .val (.int (own_b (¬ (p2 &&& (1 : Int32)) = (0 : Int32)))), .val (.ref xD), .val (.int (1 : Int32))] [])) _
      refine XS.iconst X4.here hx rfl (hb hby at_90) ?_
      show Steps p.tables e below (T4.setTop (mkF m 91 #[.val (.int p1), .val (.int p2), .val (.int (p1 &&& (3 : Int32))), .val (.int (own_b (¬ (p2 &&& (1 : Int32)) = (0 : Int32)))), .val (.ref xD), .val (.int (1 : Int32))] [(.int (1 : Int32))])) _
      refine XS.goto X4.here hx rfl (pc0 := 91) (pc' := 95) rfl (hb hby at_91) (by decide) (by decide) ?_
      exact k
    exact own_retN X4 hx Bd.notSynchronized (t := .boolean) Bd.returns (by simp) (hb hby at_95) ⟨rfl, N4⟩ (by decide) (by decide)
  · refine own_step (B := s₁.setTop (mkF m 33 #[.val (.int p1), .val (.int p2), .val (.int (p1 &&& (3 : Int32))), .val (.int (own_b (¬ (p2 &&& (1 : Int32)) = (0 : Int32)))), .unset, .unset] [(.int (1 : Int32)), (.int (p1 &&& (3 : Int32)))])) (fun t k => ?_) ?_
    · show Steps p.tables e below (s₁.setTop (mkF m 17 #[.val (.int p1), .val (.int p2), .val (.int (p1 &&& (3 : Int32))), .val (.int (own_b (¬ (p2 &&& (1 : Int32)) = (0 : Int32)))), .unset, .unset] [(.int (p1 &&& (3 : Int32)))])) _
      refine XS.ifYes X0.here hx rfl (pc0 := 17) (pc' := 31) rfl (hb hby at_17) rfl ((if0 _ _).trans (feq hc17).2) (by decide) (by decide) ?_
      show Steps p.tables e below (s₁.setTop (mkF m 31 #[.val (.int p1), .val (.int p2), .val (.int (p1 &&& (3 : Int32))), .val (.int (own_b (¬ (p2 &&& (1 : Int32)) = (0 : Int32)))), .unset, .unset] [])) _
      refine XS.iloadN X0.here hx rfl (hb hby at_31) rfl ?_
      show Steps p.tables e below (s₁.setTop (mkF m 32 #[.val (.int p1), .val (.int p2), .val (.int (p1 &&& (3 : Int32))), .val (.int (own_b (¬ (p2 &&& (1 : Int32)) = (0 : Int32)))), .unset, .unset] [(.int (p1 &&& (3 : Int32)))])) _
      refine XS.iconst X0.here hx rfl (hb hby at_32) ?_
      exact k
    by_cases hc33 : (p1 &&& (3 : Int32)) = (1 : Int32)
    · refine own_step (B := s₁.setTop (mkF m 36 #[.val (.int p1), .val (.int p2), .val (.int (p1 &&& (3 : Int32))), .val (.int (own_b (¬ (p2 &&& (1 : Int32)) = (0 : Int32)))), .unset, .unset] [])) (fun t k => ?_) ?_
      · show Steps p.tables e below (s₁.setTop (mkF m 33 #[.val (.int p1), .val (.int p2), .val (.int (p1 &&& (3 : Int32))), .val (.int (own_b (¬ (p2 &&& (1 : Int32)) = (0 : Int32)))), .unset, .unset] [(.int (1 : Int32)), (.int (p1 &&& (3 : Int32)))])) _
        refine XS.icmpNo X0.here hx rfl (hb hby at_33) rfl (teq hc33).2 ?_
        exact k
      obtain ⟨T5, X5, e5, st5⟩ := getS2 X0 hx hZ hown (host := "") (Or.inl (hw _ (List.mem_of_getElem? (i := 14) rfl))) Via.refl e0 S_IN_TRANSACTION (g := (mkF m 36 #[.val (.int p1), .val (.int p2), .val (.int (p1 &&& (3 : Int32))), .val (.int (own_b (¬ (p2 &&& (1 : Int32)) = (0 : Int32)))), .unset, .unset] [])) rfl (hb hby at_36)
      refine own_step st5 ?_
      show own_Go p e below s _ _ _ (T5.setTop (mkF m 39 #[.val (.int p1), .val (.int p2), .val (.int (p1 &&& (3 : Int32))), .val (.int (own_b (¬ (p2 &&& (1 : Int32)) = (0 : Int32)))), .unset, .unset] [(.ref xI)]))
      refine own_step (B := T5.setTop (mkF m 82 #[.val (.int p1), .val (.int p2), .val (.int (p1 &&& (3 : Int32))), .val (.int (own_b (¬ (p2 &&& (1 : Int32)) = (0 : Int32)))), .val (.ref xI), .val (.int (1 : Int32))] [(.int (own_b (¬ (p2 &&& (1 : Int32)) = (0 : Int32)))), (.ref xI)])) (fun t k => ?_) ?_
      · show Steps p.tables e below (T5.setTop (mkF m 39 #[.val (.int p1), .val (.int p2), .val (.int (p1 &&& (3 : Int32))), .val (.int (own_b (¬ (p2 &&& (1 : Int32)) = (0 : Int32)))), .unset, .unset] [(.ref xI)])) _
        refine XS.astore X5.here hx rfl (hb hby at_39) rfl rfl (l' := #[.val (.int p1), .val (.int p2), .val (.int (p1 &&& (3 : Int32))), .val (.int (own_b (¬ (p2 &&& (1 : Int32)) = (0 : Int32)))), .val (.ref xI), .unset]) rfl ?_
        show Steps p.tables e below (T5.setTop (mkF m 41 #[.val (.int p1), .val (.int p2), .val (.int (p1 &&& (3 : Int32))), .val (.int (own_b (¬ (p2 &&& (1 : Int32)) = (0 : Int32)))), .val (.ref xI), .unset] [])) _
        refine XS.iconst X5.here hx rfl (hb hby at_41) ?_
        show Steps p.tables e below (T5.setTop (mkF m 42 #[.val (.int p1), .val (.int p2), .val (.int (p1 &&& (3 : Int32))), .val (.int (own_b (¬ (p2 &&& (1 : Int32)) = (0 : Int32)))), .val (.ref xI), .unset] [(.int (1 : Int32))])) _
        refine XS.istore X5.here hx rfl (hb hby at_42) rfl (l' := #[.val (.int p1), .val (.int p2), .val (.int (p1 &&& (3 : Int32))), .val (.int (own_b (¬ (p2 &&& (1 : Int32)) = (0 : Int32)))), .val (.ref xI), .val (.int (1 : Int32))]) rfl ?_
        show Steps p.tables e below (T5.setTop (mkF m 44 #[.val (.int p1), .val (.int p2), .val (.int (p1 &&& (3 : Int32))), .val (.int (own_b (¬ (p2 &&& (1 : Int32)) = (0 : Int32)))), .val (.ref xI), .val (.int (1 : Int32))] [])) _
        refine XS.goto X5.here hx rfl (pc0 := 44) (pc' := 79) rfl (hb hby at_44) (by decide) (by decide) ?_
        show Steps p.tables e below (T5.setTop (mkF m 79 #[.val (.int p1), .val (.int p2), .val (.int (p1 &&& (3 : Int32))), .val (.int (own_b (¬ (p2 &&& (1 : Int32)) = (0 : Int32)))), .val (.ref xI), .val (.int (1 : Int32))] [])) _
        refine XS.aload X5.here hx rfl (hb hby at_79) rfl rfl ?_
        show Steps p.tables e below (T5.setTop (mkF m 81 #[.val (.int p1), .val (.int p2), .val (.int (p1 &&& (3 : Int32))), .val (.int (own_b (¬ (p2 &&& (1 : Int32)) = (0 : Int32)))), .val (.ref xI), .val (.int (1 : Int32))] [(.ref xI)])) _
        refine XS.iloadN X5.here hx rfl (hb hby at_81) rfl ?_
        exact k
      obtain ⟨cq6, kq6, q6a, q6b, q6c⟩ := isOf hZ e5 E_xI
      obtain ⟨_, _, ⟨T6, L6, k6, n6⟩, -, X6, ⟨Lc6, hQ6, l6, y6, z6⟩, st6⟩ := X5.virtualBack hx (y := (⟨"com/example/cotran/cotran/pool/StatementKind", "keepsTransaction", "(Z)Z"⟩ : MethodName)) (z := (⟨"com/example/cotran/cotran/pool/StatementKind", "keepsTransaction", "(Z)Z"⟩ : MethodName)) hown (mvT hZ (hw _ (List.mem_of_getElem? (i := 3) rfl))) (mvT hZ (hw _ (List.mem_of_getElem? (i := 4) rfl))) (notFace_of_selects (args := #[]) (mvT hZ (hw _ (List.mem_of_getElem? (i := 6) rfl)))) (mvT hZ (hw _ (List.mem_of_getElem? (i := 6) rfl))) (mvT hZ (hw _ (List.mem_of_getElem? (i := 5) rfl))) (by decide) (backOf (W := 0) (rm1 l Z a0 hw [] xI (own_b (¬ (p2 &&& (1 : Int32)) = (0 : Int32))) xD xI xO h0 n0 Z0 S_DATA S_IN_TRANSACTION S_OTHER) hZ (hw _ (List.mem_of_getElem? (i := 7) rfl)) (hw _ (List.mem_of_getElem? (i := 1) rfl)) (by decide) (by decide)) q6a q6c (g := (mkF m 82 #[.val (.int p1), .val (.int p2), .val (.int (p1 &&& (3 : Int32))), .val (.int (own_b (¬ (p2 &&& (1 : Int32)) = (0 : Int32)))), .val (.ref xI), .val (.int (1 : Int32))] [(.int (own_b (¬ (p2 &&& (1 : Int32)) = (0 : Int32)))), (.ref xI)])) rfl (by rw [hml]; rfl) (Steps.refl _) (argsL := [(.int (own_b (¬ (p2 &&& (1 : Int32)) = (0 : Int32))))]) (rest := []) (lenOf pd_1 rfl) rfl (by show 2 * 0 + _ ≤ _; exact Nat.le_of_eq rfl) (hb hby at_82) (fun _ _ => ⟨rfl, e5, (by decide : 0 + 0 ≤ _), (by decide : 0 + 0 ≤ _)⟩)
      dsimp only [Pt.U, Pt.locs, Pt.cells, Pt.slots] at X6 l6 y6 z6 st6 hQ6
      subst l6 y6 z6
      obtain ⟨rfl, N6q, e6⟩ := hQ6
      have N6 := Fr.app N0 N6q
      refine own_via st6 ?_
      show own_Go p e below s _ _ _ (T6.setTop (mkF m 85 #[.val (.int p1), .val (.int p2), .val (.int (p1 &&& (3 : Int32))), .val (.int (own_b (¬ (p2 &&& (1 : Int32)) = (0 : Int32)))), .val (.ref xI), .val (.int (1 : Int32))] [(.int (own_kt xD xI xO xI (own_b (¬ (p2 &&& (1 : Int32)) = (0 : Int32)))))]))
      refine own_step (B := T6.setTop (mkF m 95 #[.val (.int p1), .val (.int p2), .val (.int (p1 &&& (3 : Int32))), .val (.int (own_b (¬ (p2 &&& (1 : Int32)) = (0 : Int32)))), .val (.ref xI), .val (.int (1 : Int32))] [(.int (1 : Int32))])) (fun t k => ?_) ?_
      · show Steps p.tables e below (T6.setTop (mkF m 85 #[.val (.int p1), .val (.int p2), .val (.int (p1 &&& (3 : Int32))), .val (.int (own_b (¬ (p2 &&& (1 : Int32)) = (0 : Int32)))), .val (.ref xI), .val (.int (1 : Int32))] [(.int (own_kt xD xI xO xI (own_b (¬ (p2 &&& (1 : Int32)) = (0 : Int32)))))])) _
        refine XS.iload X6.here hx rfl (hb hby at_85) rfl ?_
        show Steps p.tables e below (T6.setTop (mkF m 87 #[.val (.int p1), .val (.int p2), .val (.int (p1 &&& (3 : Int32))), .val (.int (own_b (¬ (p2 &&& (1 : Int32)) = (0 : Int32)))), .val (.ref xI), .val (.int (1 : Int32))] [(.int (1 : Int32)), (.int (own_kt xD xI xO xI (own_b (¬ (p2 &&& (1 : Int32)) = (0 : Int32)))))])) _
        refine XS.icmpNo X6.here hx rfl (hb hby at_87) rfl (teq (by simp [own_kt])).2 ?_
        show Steps p.tables e below (T6.setTop (mkF m 90 #[.val (.int p1), .val (.int p2), .val (.int (p1 &&& (3 : Int32))), .val (.int (own_b (¬ (p2 &&& (1 : Int32)) = (0 : Int32)))), .val (.ref xI), .val (.int (1 : Int32))] [])) _
        refine XS.iconst X6.here hx rfl (hb hby at_90) ?_
        show Steps p.tables e below (T6.setTop (mkF m 91 #[.val (.int p1), .val (.int p2), .val (.int (p1 &&& (3 : Int32))), .val (.int (own_b (¬ (p2 &&& (1 : Int32)) = (0 : Int32)))), .val (.ref xI), .val (.int (1 : Int32))] [(.int (1 : Int32))])) _
        refine XS.goto X6.here hx rfl (pc0 := 91) (pc' := 95) rfl (hb hby at_91) (by decide) (by decide) ?_
        exact k
      exact own_retN X6 hx Bd.notSynchronized (t := .boolean) Bd.returns (by simp) (hb hby at_95) ⟨rfl, N6⟩ (by decide) (by decide)
    · refine own_step (B := s₁.setTop (mkF m 49 #[.val (.int p1), .val (.int p2), .val (.int (p1 &&& (3 : Int32))), .val (.int (own_b (¬ (p2 &&& (1 : Int32)) = (0 : Int32)))), .unset, .unset] [(.int (2 : Int32)), (.int (p1 &&& (3 : Int32)))])) (fun t k => ?_) ?_
      · show Steps p.tables e below (s₁.setTop (mkF m 33 #[.val (.int p1), .val (.int p2), .val (.int (p1 &&& (3 : Int32))), .val (.int (own_b (¬ (p2 &&& (1 : Int32)) = (0 : Int32)))), .unset, .unset] [(.int (1 : Int32)), (.int (p1 &&& (3 : Int32)))])) _
        refine XS.icmpYes X0.here hx rfl (pc0 := 33) (pc' := 47) rfl (hb hby at_33) rfl (feq hc33).2 (by decide) (by decide) ?_
        show Steps p.tables e below (s₁.setTop (mkF m 47 #[.val (.int p1), .val (.int p2), .val (.int (p1 &&& (3 : Int32))), .val (.int (own_b (¬ (p2 &&& (1 : Int32)) = (0 : Int32)))), .unset, .unset] [])) _
        refine XS.iloadN X0.here hx rfl (hb hby at_47) rfl ?_
        show Steps p.tables e below (s₁.setTop (mkF m 48 #[.val (.int p1), .val (.int p2), .val (.int (p1 &&& (3 : Int32))), .val (.int (own_b (¬ (p2 &&& (1 : Int32)) = (0 : Int32)))), .unset, .unset] [(.int (p1 &&& (3 : Int32)))])) _
        refine XS.iconst X0.here hx rfl (hb hby at_48) ?_
        exact k
      by_cases hc49 : (p1 &&& (3 : Int32)) = (2 : Int32)
      · refine own_step (B := s₁.setTop (mkF m 52 #[.val (.int p1), .val (.int p2), .val (.int (p1 &&& (3 : Int32))), .val (.int (own_b (¬ (p2 &&& (1 : Int32)) = (0 : Int32)))), .unset, .unset] [])) (fun t k => ?_) ?_
        · show Steps p.tables e below (s₁.setTop (mkF m 49 #[.val (.int p1), .val (.int p2), .val (.int (p1 &&& (3 : Int32))), .val (.int (own_b (¬ (p2 &&& (1 : Int32)) = (0 : Int32)))), .unset, .unset] [(.int (2 : Int32)), (.int (p1 &&& (3 : Int32)))])) _
          refine XS.icmpNo X0.here hx rfl (hb hby at_49) rfl (teq hc49).2 ?_
          exact k
        obtain ⟨T7, X7, e7, st7⟩ := getS2 X0 hx hZ hown (host := "") (Or.inl (hw _ (List.mem_of_getElem? (i := 9) rfl))) Via.refl e0 S_OTHER (g := (mkF m 52 #[.val (.int p1), .val (.int p2), .val (.int (p1 &&& (3 : Int32))), .val (.int (own_b (¬ (p2 &&& (1 : Int32)) = (0 : Int32)))), .unset, .unset] [])) rfl (hb hby at_52)
        refine own_step st7 ?_
        show own_Go p e below s _ _ _ (T7.setTop (mkF m 55 #[.val (.int p1), .val (.int p2), .val (.int (p1 &&& (3 : Int32))), .val (.int (own_b (¬ (p2 &&& (1 : Int32)) = (0 : Int32)))), .unset, .unset] [(.ref xO)]))
        refine own_step (B := T7.setTop (mkF m 57 #[.val (.int p1), .val (.int p2), .val (.int (p1 &&& (3 : Int32))), .val (.int (own_b (¬ (p2 &&& (1 : Int32)) = (0 : Int32)))), .val (.ref xO), .unset] [])) (fun t k => ?_) ?_
        · show Steps p.tables e below (T7.setTop (mkF m 55 #[.val (.int p1), .val (.int p2), .val (.int (p1 &&& (3 : Int32))), .val (.int (own_b (¬ (p2 &&& (1 : Int32)) = (0 : Int32)))), .unset, .unset] [(.ref xO)])) _
          refine XS.astore X7.here hx rfl (hb hby at_55) rfl rfl (l' := #[.val (.int p1), .val (.int p2), .val (.int (p1 &&& (3 : Int32))), .val (.int (own_b (¬ (p2 &&& (1 : Int32)) = (0 : Int32)))), .val (.ref xO), .unset]) rfl ?_
          exact k
        refine own_step (B := T7.setTop (mkF m 66 #[.val (.int p1), .val (.int p2), .val (.int (p1 &&& (3 : Int32))), .val (.int (own_b (¬ (p2 &&& (1 : Int32)) = (0 : Int32)))), .val (.ref xO), .unset] [(.int (if (own_b (¬ (p2 &&& (1 : Int32)) = (0 : Int32))) = (0 : Int32) then (1 : Int32) else (0 : Int32)))])) (fun t k => ?_) ?_
        · show Steps p.tables e below (T7.setTop (mkF m 57 #[.val (.int p1), .val (.int p2), .val (.int (p1 &&& (3 : Int32))), .val (.int (own_b (¬ (p2 &&& (1 : Int32)) = (0 : Int32)))), .val (.ref xO), .unset] [])) _
          refine XS.iloadN X7.here hx rfl (hb hby at_57) rfl ?_
          by_cases hc58 : (own_b (¬ (p2 &&& (1 : Int32)) = (0 : Int32))) = (0 : Int32)
          · show Steps p.tables e below (T7.setTop (mkF m 58 #[.val (.int p1), .val (.int p2), .val (.int (p1 &&& (3 : Int32))), .val (.int (own_b (¬ (p2 &&& (1 : Int32)) = (0 : Int32)))), .val (.ref xO), .unset] [(.int (own_b (¬ (p2 &&& (1 : Int32)) = (0 : Int32))))])) _
            refine XS.ifNo X7.here hx rfl (hb hby at_58) rfl ((if0 _ _).trans (teq hc58).2) ?_
            show Steps p.tables e below (T7.setTop (mkF m 61 #[.val (.int p1), .val (.int p2), .val (.int (p1 &&& (3 : Int32))), .val (.int (own_b (¬ (p2 &&& (1 : Int32)) = (0 : Int32)))), .val (.ref xO), .unset] [])) _
            refine XS.iconst X7.here hx rfl (hb hby at_61) ?_
            show Steps p.tables e below (T7.setTop (mkF m 62 #[.val (.int p1), .val (.int p2), .val (.int (p1 &&& (3 : Int32))), .val (.int (own_b (¬ (p2 &&& (1 : Int32)) = (0 : Int32)))), .val (.ref xO), .unset] [(.int (1 : Int32))])) _
            refine XS.goto X7.here hx rfl (pc0 := 62) (pc' := 66) rfl (hb hby at_62) (by decide) (by decide) ?_
            show Steps p.tables e below (T7.setTop (mkF m 66 #[.val (.int p1), .val (.int p2), .val (.int (p1 &&& (3 : Int32))), .val (.int (own_b (¬ (p2 &&& (1 : Int32)) = (0 : Int32)))), .val (.ref xO), .unset] [(.int (1 : Int32))])) _
            have q8 : (if (own_b (¬ (p2 &&& (1 : Int32)) = (0 : Int32))) = (0 : Int32) then (1 : Int32) else (0 : Int32)) = (1 : Int32) := by simp [hc58]
            rw [q8] at k
            exact k
          · show Steps p.tables e below (T7.setTop (mkF m 58 #[.val (.int p1), .val (.int p2), .val (.int (p1 &&& (3 : Int32))), .val (.int (own_b (¬ (p2 &&& (1 : Int32)) = (0 : Int32)))), .val (.ref xO), .unset] [(.int (own_b (¬ (p2 &&& (1 : Int32)) = (0 : Int32))))])) _
            refine XS.ifYes X7.here hx rfl (pc0 := 58) (pc' := 65) rfl (hb hby at_58) rfl ((if0 _ _).trans (feq hc58).2) (by decide) (by decide) ?_
            show Steps p.tables e below (T7.setTop (mkF m 65 #[.val (.int p1), .val (.int p2), .val (.int (p1 &&& (3 : Int32))), .val (.int (own_b (¬ (p2 &&& (1 : Int32)) = (0 : Int32)))), .val (.ref xO), .unset] [])) _
            refine XS.iconst X7.here hx rfl (hb hby at_65) ?_
            show Steps p.tables e below (T7.setTop (mkF m 66 #[.val (.int p1), .val (.int p2), .val (.int (p1 &&& (3 : Int32))), .val (.int (own_b (¬ (p2 &&& (1 : Int32)) = (0 : Int32)))), .val (.ref xO), .unset] [(.int (0 : Int32))])) _
            have q9 : (if (own_b (¬ (p2 &&& (1 : Int32)) = (0 : Int32))) = (0 : Int32) then (1 : Int32) else (0 : Int32)) = (0 : Int32) := by simp [hc58]
            rw [q9] at k
            exact k
        refine own_step (B := T7.setTop (mkF m 82 #[.val (.int p1), .val (.int p2), .val (.int (p1 &&& (3 : Int32))), .val (.int (own_b (¬ (p2 &&& (1 : Int32)) = (0 : Int32)))), .val (.ref xO), .val (.int (if (own_b (¬ (p2 &&& (1 : Int32)) = (0 : Int32))) = (0 : Int32) then (1 : Int32) else (0 : Int32)))] [(.int (own_b (¬ (p2 &&& (1 : Int32)) = (0 : Int32)))), (.ref xO)])) (fun t k => ?_) ?_
        · show Steps p.tables e below (T7.setTop (mkF m 66 #[.val (.int p1), .val (.int p2), .val (.int (p1 &&& (3 : Int32))), .val (.int (own_b (¬ (p2 &&& (1 : Int32)) = (0 : Int32)))), .val (.ref xO), .unset] [(.int (if (own_b (¬ (p2 &&& (1 : Int32)) = (0 : Int32))) = (0 : Int32) then (1 : Int32) else (0 : Int32)))])) _
          refine XS.istore X7.here hx rfl (hb hby at_66) rfl (l' := #[.val (.int p1), .val (.int p2), .val (.int (p1 &&& (3 : Int32))), .val (.int (own_b (¬ (p2 &&& (1 : Int32)) = (0 : Int32)))), .val (.ref xO), .val (.int (if (own_b (¬ (p2 &&& (1 : Int32)) = (0 : Int32))) = (0 : Int32) then (1 : Int32) else (0 : Int32)))]) rfl ?_
          show Steps p.tables e below (T7.setTop (mkF m 68 #[.val (.int p1), .val (.int p2), .val (.int (p1 &&& (3 : Int32))), .val (.int (own_b (¬ (p2 &&& (1 : Int32)) = (0 : Int32)))), .val (.ref xO), .val (.int (if (own_b (¬ (p2 &&& (1 : Int32)) = (0 : Int32))) = (0 : Int32) then (1 : Int32) else (0 : Int32)))] [])) _
          refine XS.goto X7.here hx rfl (pc0 := 68) (pc' := 79) rfl (hb hby at_68) (by decide) (by decide) ?_
          show Steps p.tables e below (T7.setTop (mkF m 79 #[.val (.int p1), .val (.int p2), .val (.int (p1 &&& (3 : Int32))), .val (.int (own_b (¬ (p2 &&& (1 : Int32)) = (0 : Int32)))), .val (.ref xO), .val (.int (if (own_b (¬ (p2 &&& (1 : Int32)) = (0 : Int32))) = (0 : Int32) then (1 : Int32) else (0 : Int32)))] [])) _
          refine XS.aload X7.here hx rfl (hb hby at_79) rfl rfl ?_
          show Steps p.tables e below (T7.setTop (mkF m 81 #[.val (.int p1), .val (.int p2), .val (.int (p1 &&& (3 : Int32))), .val (.int (own_b (¬ (p2 &&& (1 : Int32)) = (0 : Int32)))), .val (.ref xO), .val (.int (if (own_b (¬ (p2 &&& (1 : Int32)) = (0 : Int32))) = (0 : Int32) then (1 : Int32) else (0 : Int32)))] [(.ref xO)])) _
          refine XS.iloadN X7.here hx rfl (hb hby at_81) rfl ?_
          exact k
        obtain ⟨cq10, kq10, q10a, q10b, q10c⟩ := isOf hZ e7 E_xO
        obtain ⟨_, _, ⟨T10, L10, k10, n10⟩, -, X10, ⟨Lc10, hQ10, l10, y10, z10⟩, st10⟩ := X7.virtualBack hx (y := (⟨"com/example/cotran/cotran/pool/StatementKind", "keepsTransaction", "(Z)Z"⟩ : MethodName)) (z := (⟨"com/example/cotran/cotran/pool/StatementKind", "keepsTransaction", "(Z)Z"⟩ : MethodName)) hown (mvT hZ (hw _ (List.mem_of_getElem? (i := 3) rfl))) (mvT hZ (hw _ (List.mem_of_getElem? (i := 4) rfl))) (notFace_of_selects (args := #[]) (mvT hZ (hw _ (List.mem_of_getElem? (i := 6) rfl)))) (mvT hZ (hw _ (List.mem_of_getElem? (i := 6) rfl))) (mvT hZ (hw _ (List.mem_of_getElem? (i := 5) rfl))) (by decide) (backOf (W := 0) (rm1 l Z a0 hw [] xO (own_b (¬ (p2 &&& (1 : Int32)) = (0 : Int32))) xD xI xO h0 n0 Z0 S_DATA S_IN_TRANSACTION S_OTHER) hZ (hw _ (List.mem_of_getElem? (i := 7) rfl)) (hw _ (List.mem_of_getElem? (i := 1) rfl)) (by decide) (by decide)) q10a q10c (g := (mkF m 82 #[.val (.int p1), .val (.int p2), .val (.int (p1 &&& (3 : Int32))), .val (.int (own_b (¬ (p2 &&& (1 : Int32)) = (0 : Int32)))), .val (.ref xO), .val (.int (if (own_b (¬ (p2 &&& (1 : Int32)) = (0 : Int32))) = (0 : Int32) then (1 : Int32) else (0 : Int32)))] [(.int (own_b (¬ (p2 &&& (1 : Int32)) = (0 : Int32)))), (.ref xO)])) rfl (by rw [hml]; rfl) (Steps.refl _) (argsL := [(.int (own_b (¬ (p2 &&& (1 : Int32)) = (0 : Int32))))]) (rest := []) (lenOf pd_1 rfl) rfl (by show 2 * 0 + _ ≤ _; exact Nat.le_of_eq rfl) (hb hby at_82) (fun _ _ => ⟨rfl, e7, (by decide : 0 + 0 ≤ _), (by decide : 0 + 0 ≤ _)⟩)
        dsimp only [Pt.U, Pt.locs, Pt.cells, Pt.slots] at X10 l10 y10 z10 st10 hQ10
        subst l10 y10 z10
        obtain ⟨rfl, N10q, e10⟩ := hQ10
        have N10 := Fr.app N0 N10q
        refine own_via st10 ?_
        show own_Go p e below s _ _ _ (T10.setTop (mkF m 85 #[.val (.int p1), .val (.int p2), .val (.int (p1 &&& (3 : Int32))), .val (.int (own_b (¬ (p2 &&& (1 : Int32)) = (0 : Int32)))), .val (.ref xO), .val (.int (if (own_b (¬ (p2 &&& (1 : Int32)) = (0 : Int32))) = (0 : Int32) then (1 : Int32) else (0 : Int32)))] [(.int (own_kt xD xI xO xO (own_b (¬ (p2 &&& (1 : Int32)) = (0 : Int32)))))]))
        refine own_step (B := T10.setTop (mkF m 95 #[.val (.int p1), .val (.int p2), .val (.int (p1 &&& (3 : Int32))), .val (.int (own_b (¬ (p2 &&& (1 : Int32)) = (0 : Int32)))), .val (.ref xO), .val (.int (if (own_b (¬ (p2 &&& (1 : Int32)) = (0 : Int32))) = (0 : Int32) then (1 : Int32) else (0 : Int32)))] [(.int (1 : Int32))])) (fun t k => ?_) ?_
        · show Steps p.tables e below (T10.setTop (mkF m 85 #[.val (.int p1), .val (.int p2), .val (.int (p1 &&& (3 : Int32))), .val (.int (own_b (¬ (p2 &&& (1 : Int32)) = (0 : Int32)))), .val (.ref xO), .val (.int (if (own_b (¬ (p2 &&& (1 : Int32)) = (0 : Int32))) = (0 : Int32) then (1 : Int32) else (0 : Int32)))] [(.int (own_kt xD xI xO xO (own_b (¬ (p2 &&& (1 : Int32)) = (0 : Int32)))))])) _
          refine XS.iload X10.here hx rfl (hb hby at_85) rfl ?_
          show Steps p.tables e below (T10.setTop (mkF m 87 #[.val (.int p1), .val (.int p2), .val (.int (p1 &&& (3 : Int32))), .val (.int (own_b (¬ (p2 &&& (1 : Int32)) = (0 : Int32)))), .val (.ref xO), .val (.int (if (own_b (¬ (p2 &&& (1 : Int32)) = (0 : Int32))) = (0 : Int32) then (1 : Int32) else (0 : Int32)))] [(.int (if (own_b (¬ (p2 &&& (1 : Int32)) = (0 : Int32))) = (0 : Int32) then (1 : Int32) else (0 : Int32))), (.int (own_kt xD xI xO xO (own_b (¬ (p2 &&& (1 : Int32)) = (0 : Int32)))))])) _
          refine XS.icmpNo X10.here hx rfl (hb hby at_87) rfl (teq (by simp [own_kt, n_xO_xD, n_xO_xI])).2 ?_
          show Steps p.tables e below (T10.setTop (mkF m 90 #[.val (.int p1), .val (.int p2), .val (.int (p1 &&& (3 : Int32))), .val (.int (own_b (¬ (p2 &&& (1 : Int32)) = (0 : Int32)))), .val (.ref xO), .val (.int (if (own_b (¬ (p2 &&& (1 : Int32)) = (0 : Int32))) = (0 : Int32) then (1 : Int32) else (0 : Int32)))] [])) _
          refine XS.iconst X10.here hx rfl (hb hby at_90) ?_
          show Steps p.tables e below (T10.setTop (mkF m 91 #[.val (.int p1), .val (.int p2), .val (.int (p1 &&& (3 : Int32))), .val (.int (own_b (¬ (p2 &&& (1 : Int32)) = (0 : Int32)))), .val (.ref xO), .val (.int (if (own_b (¬ (p2 &&& (1 : Int32)) = (0 : Int32))) = (0 : Int32) then (1 : Int32) else (0 : Int32)))] [(.int (1 : Int32))])) _
          refine XS.goto X10.here hx rfl (pc0 := 91) (pc' := 95) rfl (hb hby at_91) (by decide) (by decide) ?_
          exact k
        exact own_retN X10 hx Bd.notSynchronized (t := .boolean) Bd.returns (by simp) (hb hby at_95) ⟨rfl, N10⟩ (by decide) (by decide)
      · refine own_step (B := s₁.setTop (mkF m 71 #[.val (.int p1), .val (.int p2), .val (.int (p1 &&& (3 : Int32))), .val (.int (own_b (¬ (p2 &&& (1 : Int32)) = (0 : Int32)))), .unset, .unset] [])) (fun t k => ?_) ?_
        · show Steps p.tables e below (s₁.setTop (mkF m 49 #[.val (.int p1), .val (.int p2), .val (.int (p1 &&& (3 : Int32))), .val (.int (own_b (¬ (p2 &&& (1 : Int32)) = (0 : Int32)))), .unset, .unset] [(.int (2 : Int32)), (.int (p1 &&& (3 : Int32)))])) _
          refine XS.icmpYes X0.here hx rfl (pc0 := 49) (pc' := 71) rfl (hb hby at_49) rfl (feq hc49).2 (by decide) (by decide) ?_
          exact k
        obtain ⟨T11, X11, e11, st11⟩ := getS2 X0 hx hZ hown (host := "") (Or.inl (hw _ (List.mem_of_getElem? (i := 15) rfl))) Via.refl e0 S_TRANSACTION_CONTROL (g := (mkF m 71 #[.val (.int p1), .val (.int p2), .val (.int (p1 &&& (3 : Int32))), .val (.int (own_b (¬ (p2 &&& (1 : Int32)) = (0 : Int32)))), .unset, .unset] [])) rfl (hb hby at_71)
        refine own_step st11 ?_
        show own_Go p e below s _ _ _ (T11.setTop (mkF m 74 #[.val (.int p1), .val (.int p2), .val (.int (p1 &&& (3 : Int32))), .val (.int (own_b (¬ (p2 &&& (1 : Int32)) = (0 : Int32)))), .unset, .unset] [(.ref xT)]))
        refine own_step (B := T11.setTop (mkF m 82 #[.val (.int p1), .val (.int p2), .val (.int (p1 &&& (3 : Int32))), .val (.int (own_b (¬ (p2 &&& (1 : Int32)) = (0 : Int32)))), .val (.ref xT), .val (.int (0 : Int32))] [(.int (own_b (¬ (p2 &&& (1 : Int32)) = (0 : Int32)))), (.ref xT)])) (fun t k => ?_) ?_
        · show Steps p.tables e below (T11.setTop (mkF m 74 #[.val (.int p1), .val (.int p2), .val (.int (p1 &&& (3 : Int32))), .val (.int (own_b (¬ (p2 &&& (1 : Int32)) = (0 : Int32)))), .unset, .unset] [(.ref xT)])) _
          refine XS.astore X11.here hx rfl (hb hby at_74) rfl rfl (l' := #[.val (.int p1), .val (.int p2), .val (.int (p1 &&& (3 : Int32))), .val (.int (own_b (¬ (p2 &&& (1 : Int32)) = (0 : Int32)))), .val (.ref xT), .unset]) rfl ?_
          show Steps p.tables e below (T11.setTop (mkF m 76 #[.val (.int p1), .val (.int p2), .val (.int (p1 &&& (3 : Int32))), .val (.int (own_b (¬ (p2 &&& (1 : Int32)) = (0 : Int32)))), .val (.ref xT), .unset] [])) _
          refine XS.iconst X11.here hx rfl (hb hby at_76) ?_
          show Steps p.tables e below (T11.setTop (mkF m 77 #[.val (.int p1), .val (.int p2), .val (.int (p1 &&& (3 : Int32))), .val (.int (own_b (¬ (p2 &&& (1 : Int32)) = (0 : Int32)))), .val (.ref xT), .unset] [(.int (0 : Int32))])) _
          refine XS.istore X11.here hx rfl (hb hby at_77) rfl (l' := #[.val (.int p1), .val (.int p2), .val (.int (p1 &&& (3 : Int32))), .val (.int (own_b (¬ (p2 &&& (1 : Int32)) = (0 : Int32)))), .val (.ref xT), .val (.int (0 : Int32))]) rfl ?_
          show Steps p.tables e below (T11.setTop (mkF m 79 #[.val (.int p1), .val (.int p2), .val (.int (p1 &&& (3 : Int32))), .val (.int (own_b (¬ (p2 &&& (1 : Int32)) = (0 : Int32)))), .val (.ref xT), .val (.int (0 : Int32))] [])) _
          refine XS.aload X11.here hx rfl (hb hby at_79) rfl rfl ?_
          show Steps p.tables e below (T11.setTop (mkF m 81 #[.val (.int p1), .val (.int p2), .val (.int (p1 &&& (3 : Int32))), .val (.int (own_b (¬ (p2 &&& (1 : Int32)) = (0 : Int32)))), .val (.ref xT), .val (.int (0 : Int32))] [(.ref xT)])) _
          refine XS.iloadN X11.here hx rfl (hb hby at_81) rfl ?_
          exact k
        obtain ⟨cq12, kq12, q12a, q12b, q12c⟩ := isOf hZ e11 E_xT
        obtain ⟨_, _, ⟨T12, L12, k12, n12⟩, -, X12, ⟨Lc12, hQ12, l12, y12, z12⟩, st12⟩ := X11.virtualBack hx (y := (⟨"com/example/cotran/cotran/pool/StatementKind", "keepsTransaction", "(Z)Z"⟩ : MethodName)) (z := (⟨"com/example/cotran/cotran/pool/StatementKind", "keepsTransaction", "(Z)Z"⟩ : MethodName)) hown (mvT hZ (hw _ (List.mem_of_getElem? (i := 3) rfl))) (mvT hZ (hw _ (List.mem_of_getElem? (i := 4) rfl))) (notFace_of_selects (args := #[]) (mvT hZ (hw _ (List.mem_of_getElem? (i := 6) rfl)))) (mvT hZ (hw _ (List.mem_of_getElem? (i := 6) rfl))) (mvT hZ (hw _ (List.mem_of_getElem? (i := 5) rfl))) (by decide) (backOf (W := 0) (rm1 l Z a0 hw [] xT (own_b (¬ (p2 &&& (1 : Int32)) = (0 : Int32))) xD xI xO h0 n0 Z0 S_DATA S_IN_TRANSACTION S_OTHER) hZ (hw _ (List.mem_of_getElem? (i := 7) rfl)) (hw _ (List.mem_of_getElem? (i := 1) rfl)) (by decide) (by decide)) q12a q12c (g := (mkF m 82 #[.val (.int p1), .val (.int p2), .val (.int (p1 &&& (3 : Int32))), .val (.int (own_b (¬ (p2 &&& (1 : Int32)) = (0 : Int32)))), .val (.ref xT), .val (.int (0 : Int32))] [(.int (own_b (¬ (p2 &&& (1 : Int32)) = (0 : Int32)))), (.ref xT)])) rfl (by rw [hml]; rfl) (Steps.refl _) (argsL := [(.int (own_b (¬ (p2 &&& (1 : Int32)) = (0 : Int32))))]) (rest := []) (lenOf pd_1 rfl) rfl (by show 2 * 0 + _ ≤ _; exact Nat.le_of_eq rfl) (hb hby at_82) (fun _ _ => ⟨rfl, e11, (by decide : 0 + 0 ≤ _), (by decide : 0 + 0 ≤ _)⟩)
        dsimp only [Pt.U, Pt.locs, Pt.cells, Pt.slots] at X12 l12 y12 z12 st12 hQ12
        subst l12 y12 z12
        obtain ⟨rfl, N12q, e12⟩ := hQ12
        have N12 := Fr.app N0 N12q
        refine own_via st12 ?_
        show own_Go p e below s _ _ _ (T12.setTop (mkF m 85 #[.val (.int p1), .val (.int p2), .val (.int (p1 &&& (3 : Int32))), .val (.int (own_b (¬ (p2 &&& (1 : Int32)) = (0 : Int32)))), .val (.ref xT), .val (.int (0 : Int32))] [(.int (own_kt xD xI xO xT (own_b (¬ (p2 &&& (1 : Int32)) = (0 : Int32)))))]))
        refine own_step (B := T12.setTop (mkF m 95 #[.val (.int p1), .val (.int p2), .val (.int (p1 &&& (3 : Int32))), .val (.int (own_b (¬ (p2 &&& (1 : Int32)) = (0 : Int32)))), .val (.ref xT), .val (.int (0 : Int32))] [(.int (1 : Int32))])) (fun t k => ?_) ?_
        · show Steps p.tables e below (T12.setTop (mkF m 85 #[.val (.int p1), .val (.int p2), .val (.int (p1 &&& (3 : Int32))), .val (.int (own_b (¬ (p2 &&& (1 : Int32)) = (0 : Int32)))), .val (.ref xT), .val (.int (0 : Int32))] [(.int (own_kt xD xI xO xT (own_b (¬ (p2 &&& (1 : Int32)) = (0 : Int32)))))])) _
          refine XS.iload X12.here hx rfl (hb hby at_85) rfl ?_
          show Steps p.tables e below (T12.setTop (mkF m 87 #[.val (.int p1), .val (.int p2), .val (.int (p1 &&& (3 : Int32))), .val (.int (own_b (¬ (p2 &&& (1 : Int32)) = (0 : Int32)))), .val (.ref xT), .val (.int (0 : Int32))] [(.int (0 : Int32)), (.int (own_kt xD xI xO xT (own_b (¬ (p2 &&& (1 : Int32)) = (0 : Int32)))))])) _
          refine XS.icmpNo X12.here hx rfl (hb hby at_87) rfl (teq (by simp [own_kt, n_xT_xD, n_xT_xI, n_xT_xO])).2 ?_
          show Steps p.tables e below (T12.setTop (mkF m 90 #[.val (.int p1), .val (.int p2), .val (.int (p1 &&& (3 : Int32))), .val (.int (own_b (¬ (p2 &&& (1 : Int32)) = (0 : Int32)))), .val (.ref xT), .val (.int (0 : Int32))] [])) _
          refine XS.iconst X12.here hx rfl (hb hby at_90) ?_
          show Steps p.tables e below (T12.setTop (mkF m 91 #[.val (.int p1), .val (.int p2), .val (.int (p1 &&& (3 : Int32))), .val (.int (own_b (¬ (p2 &&& (1 : Int32)) = (0 : Int32)))), .val (.ref xT), .val (.int (0 : Int32))] [(.int (1 : Int32))])) _
          refine XS.goto X12.here hx rfl (pc0 := 91) (pc' := 95) rfl (hb hby at_91) (by decide) (by decide) ?_
          exact k
        exact own_retN X12 hx Bd.notSynchronized (t := .boolean) Bd.returns (by simp) (hb hby at_95) ⟨rfl, N12⟩ (by decide) (by decide)
set_option maxRecDepth 65536 in
set_option maxHeartbeats 40000000 in
theorem comes_1 {Post : Tables → Env → Array Value → State → Outcome → State → Prop} (hpost : ∀ tb e args s v u, (limb_1_1.after args s (.returned v) u = true ∧ limb_1_2.after args s (.returned v) u = true ∧ True) → FrameEnd s (.returned v) u (Jvm.fieldLocs frame_1_writes args s ++ Jvm.arrayLocs frame_1_arrays args s ++ Jvm.staticLocs frame_1_statics s) 0 0 → Post tb e args s (.returned v) u) :
    ArmFor flags0 classFile x code maxLocals ret World_1 tables_1 room_1 Calls_1 rest_1 Pre_1 Post := by
  intro l hfl _ _ p e ha hc hk s m args below hf hA hF happ hP
  obtain ⟨hcalls, hrest, hpre⟩ := hP
  obtain ⟨-, -, -, hnamed, -, -, -, hat⟩ := (Spec.applies_iff hf).mp happ
  obtain ⟨hg, hn⟩ := and_e (Cond.before_iff.mp (show (Jvm.Cond.and given_1 narrow_1).before args s = true from hpre))
  obtain ⟨g1, g2⟩ := and_e hg
  obtain ⟨g3, g4⟩ := and_e g2
  obtain ⟨w0, w1, rfl⟩ : ∃ w0 w1 : Value, args = #[w0, w1] := by
    have hs : args.size = 2 := by simpa [Cond.value, given_1] using g1
    obtain ⟨L⟩ := args
    match L, hs with
    | [w0, w1], _ => exact ⟨w0, w1, rfl⟩
  have hw := fun d (hd : d ∈ tables_1) => atoms_spec (ws := Jvm.Cond.code x code maxLocals ret :: tables_1) hat d (List.mem_cons_of_mem _ hd)
  have hfit : Fit s := fun {y c} hc i hi => by
    obtain ⟨ha, rfl⟩ := Array.getElem?_eq_some_iff.mp hc
    have q := List.all_eq_true.mp ((Array.all_eq_true_iff_forall_mem.mp hF) _ (Array.getElem_mem ha)) i (List.mem_range.mpr hi)
    simpa [Array.getElem?_eq_getElem hi] using q
  obtain ⟨i0, ei0⟩ := is_v g3
  obtain rfl : w0 = (.int i0) := Option.some.inj ei0
  obtain ⟨i1, ei1⟩ := is_v g4
  obtain rfl : w1 = (.int i1) := Option.some.inj ei1
  obtain ⟨mE_DATA, r0⟩ := and_e hn
  obtain ⟨mE_OTHER, r1⟩ := and_e r0
  obtain ⟨mO_OTHER, r2⟩ := and_e r1
  obtain ⟨mO_DATA, r3⟩ := and_e r2
  obtain ⟨mE_IN_TRANSACTION, r4⟩ := and_e r3
  obtain ⟨mO_IN_TRANSACTION, r5⟩ := and_e r4
  obtain ⟨mE_TRANSACTION_CONTROL, r6⟩ := and_e r5
  have mO_TRANSACTION_CONTROL := r6
  obtain ⟨xD, ev_xD⟩ := exa_v mE_DATA
  have S_DATA := Sta.start ev_xD (Or.inr ⟨(hw _ (List.mem_of_getElem? (i := 1) rfl)), (hw _ (List.mem_of_getElem? (i := 2) rfl))⟩)
  have E_xD := Exa.start ev_xD mE_DATA
  have o_xD := own_ord ev_xD mO_DATA
  obtain ⟨xI, ev_xI⟩ := exa_v mE_IN_TRANSACTION
  have S_IN_TRANSACTION := Sta.start ev_xI (Or.inr ⟨(hw _ (List.mem_of_getElem? (i := 1) rfl)), (hw _ (List.mem_of_getElem? (i := 12) rfl))⟩)
  have E_xI := Exa.start ev_xI mE_IN_TRANSACTION
  have o_xI := own_ord ev_xI mO_IN_TRANSACTION
  obtain ⟨xO, ev_xO⟩ := exa_v mE_OTHER
  have S_OTHER := Sta.start ev_xO (Or.inr ⟨(hw _ (List.mem_of_getElem? (i := 1) rfl)), (hw _ (List.mem_of_getElem? (i := 10) rfl))⟩)
  have E_xO := Exa.start ev_xO mE_OTHER
  have o_xO := own_ord ev_xO mO_OTHER
  obtain ⟨xT, ev_xT⟩ := exa_v mE_TRANSACTION_CONTROL
  have S_TRANSACTION_CONTROL := Sta.start ev_xT (Or.inr ⟨(hw _ (List.mem_of_getElem? (i := 1) rfl)), (hw _ (List.mem_of_getElem? (i := 16) rfl))⟩)
  have E_xT := Exa.start ev_xT mE_TRANSACTION_CONTROL
  have o_xT := own_ord ev_xT mO_TRANSACTION_CONTROL
  obtain ⟨n, o, h1, h2, h3, _, L, rfl, ⟨rfl, N⟩, hq⟩ := rm0 l s _ hw tables_1 i0 i1 xD xI xO xT s.heap s.heap.size (Nat.le_refl _) S_DATA S_IN_TRANSACTION S_OTHER S_TRANSACTION_CONTROL E_xD E_xI E_xO E_xT (own_apart o_xI o_xD (by decide)) (own_apart o_xO o_xD (by decide)) (own_apart o_xO o_xI (by decide)) (own_apart o_xT o_xD (by decide)) (own_apart o_xT o_xI (by decide)) (own_apart o_xT o_xO (by decide)) p e ha hc hk s m _ below hf ((Spec.applies_iff_loose hf).mp happ).1 ⟨rfl, State.Warmed39.refl s, rfl⟩ trivial
  refine ⟨n, _, h1, h2, h3, hpost _ _ _ _ _ _ ⟨Cond.after_iff.mpr rfl, Cond.after_iff.mpr (eq_i res_at (Term.int_eval (1)) rfl), trivial⟩ ⟨hq.1, hq.2.1, (hq.2.2.sift fun y hy => Or.inr (N y hy)).mono (by decide) (by decide)⟩⟩
theorem main_1_1 : Claimed_1_1 := comes_1 fun _ _ _ _ _ _ h hF => ⟨h.1, hF⟩
theorem main_1_2 : Claimed_1_2 := comes_1 fun _ _ _ _ _ _ h hF => ⟨h.2.1, hF⟩
end Jvm.Pilot.@@N@@
namespace Jvm.Pilot.@@N@@
open Jvm Jvm.ClassFile Sem Op Lib Jvm.Free Jvm.Stand Jvm.Pilot.@@N@@.Jvm.D
/-! MADE BY PROGRAM (witnessworld.py) out of the Statement's table words and the real class files: 12 classes; the members and pool entries that the words name. The judged class is class 1, her method 1. -/
namespace start1
open Jvm.ClassFile
def u (s : String) : CpInfo := .utf8 (stringToUtf16 s)
/-- a pool by its gaps: so many unusable entries, then the entry; so many at the end -/
def gap : Nat → List CpInfo → List CpInfo
  | 0, r => r
  | n + 1, r => .unusable :: gap n r
def poolList (es : List (Nat × CpInfo)) (last : Nat) : List CpInfo := es.foldr (fun e r => gap e.1 (e.2 :: r)) (gap last [])
def pool (es : List (Nat × CpInfo)) (last : Nat) : Array CpInfo := ⟨poolList es last⟩
def fileOf (pool : Array CpInfo) (this : Nat) (attrs : Array Attribute := #[]) (ms : Array MethodInfo := #[]) (fl : Nat := 33) (sup : Nat := 0) (ifs : Array Nat := #[]) (fds : Array FieldInfo := #[]) : ClassFile where
  minorVersion := 0
  majorVersion := 65
  constantPool := pool
  accessFlags := fl
  thisClass := this
  superClass := sup
  interfaces := ifs
  fields := fds
  methods := ms
  attributes := attrs
def plain (name : String) (sup : Option ClassId) : Class where
  name := name
  kind := .ordinary
  loader := none
  accessFlags := 33
  super := sup
  interfaces := #[]
  cf := none
  fields := #[]
  methods := #[]
  instanceTypes := #[]
  staticTypes := #[]
  resolved := #[]
  callSites := []
  init := .initialized
  statics := none
  mirror := none

def pool0 : Array CpInfo := pool [(5, u "<init>"), (0, u "()V"), (1, .class_ 10), (1, u "java/lang/Object")] 113

def k0m0 : Method := { name := "<init>", desc := "()V", sig := { parameters := [], returnType := none }, accessFlags := 1, code := none }
/-- java/lang/Object -/
def k0 : Class := { plain "java/lang/Object" none with
  accessFlags := 33
  interfaces := #[]
  cf := some (fileOf pool0 8 #[] #[{ accessFlags := 1, nameIndex := 5, descriptorIndex := 6, attributes := #[] }] 33 0 #[] #[])
  fields := #[]
  methods := #[k0m0]
  instanceTypes := #[]
  staticTypes := #[]
  resolved := Array.replicate 124 none
  statics := none }

def pool1 : Array CpInfo := pool [(2, .class_ 4), (1, u "java/lang/Object"), (0, u "<init>"), (0, u "()V"), (0, .fieldref 8 9), (0, .class_ 10), (0, .nameAndType 11 12), (0, u "com/example/cotran/cotran/pool/StatementKind"), (0, u "DATA"), (0, u "Lcom/example/cotran/cotran/pool/StatementKind;"), (0, .fieldref 8 14), (0, .nameAndType 15 12), (0, u "IN_TRANSACTION"), (0, .fieldref 8 17), (0, .nameAndType 18 12), (0, u "OTHER"), (0, .fieldref 8 20), (0, .nameAndType 21 12), (0, u "TRANSACTION_CONTROL"), (0, .methodref 8 23), (0, .nameAndType 24 25), (0, u "keepsTransaction"), (0, u "(Z)Z"), (0, .class_ 27), (0, u "com/example/cotran/cotran/pool/StatementKindKeepsTransactionPinLaw"), (2, u "law"), (0, u "(II)Z")] 3

def k1m0 : Method := { name := "<init>", desc := "()V", sig := { parameters := [], returnType := none }, accessFlags := 1, code := none }
def k1c1 : Code := { maxStack := 2, maxLocals := 6, code := code, exceptionTable := #[], attributes := #[] }
def k1m1 : Method := { name := "law", desc := "(II)Z", sig := { parameters := [.int, .int], returnType := some .boolean }, accessFlags := 9, code := some k1c1 }
/-- com/example/cotran/cotran/pool/StatementKindKeepsTransactionPinLaw -/
def k1 : Class := { plain "com/example/cotran/cotran/pool/StatementKindKeepsTransactionPinLaw" (some 0) with
  accessFlags := 49
  interfaces := #[]
  cf := some (fileOf pool1 26 #[] #[{ accessFlags := 1, nameIndex := 5, descriptorIndex := 6, attributes := #[] }, { accessFlags := 9, nameIndex := 30, descriptorIndex := 31, attributes := #[] }] 49 2 #[] #[])
  fields := #[]
  methods := #[k1m0, k1m1]
  instanceTypes := #[]
  staticTypes := #[]
  resolved := Array.replicate 35 none
  statics := none }

def pool2 : Array CpInfo := pool [(1, .class_ 2), (0, u "java/lang/constant/Constable"), (0, .class_ 4), (0, u "java/lang/Object")] 6

/-- java/lang/constant/Constable -/
def k2 : Class := { plain "java/lang/constant/Constable" (some 0) with
  accessFlags := 1537
  interfaces := #[]
  cf := some (fileOf pool2 1 #[] #[] 1537 3 #[] #[])
  fields := #[]
  methods := #[]
  instanceTypes := #[]
  staticTypes := #[]
  resolved := Array.replicate 11 none
  statics := none }

def pool3 : Array CpInfo := pool [(1, .class_ 2), (0, u "java/lang/Comparable"), (0, .class_ 4), (0, u "java/lang/Object")] 7

/-- java/lang/Comparable -/
def k3 : Class := { plain "java/lang/Comparable" (some 0) with
  accessFlags := 1537
  interfaces := #[]
  cf := some (fileOf pool3 1 #[] #[] 1537 3 #[] #[])
  fields := #[]
  methods := #[]
  instanceTypes := #[]
  staticTypes := #[]
  resolved := Array.replicate 12 none
  statics := none }

def pool4 : Array CpInfo := pool [(1, .class_ 2), (0, u "java/io/Serializable"), (0, .class_ 4), (0, u "java/lang/Object")] 2

/-- java/io/Serializable -/
def k4 : Class := { plain "java/io/Serializable" (some 0) with
  accessFlags := 1537
  interfaces := #[]
  cf := some (fileOf pool4 1 #[] #[] 1537 3 #[] #[])
  fields := #[]
  methods := #[]
  instanceTypes := #[]
  staticTypes := #[]
  resolved := Array.replicate 7 none
  statics := none }

def pool5 : Array CpInfo := pool [(2, .class_ 4), (1, u "java/lang/Enum"), (0, u "name"), (0, u "Ljava/lang/String;"), (2, u "ordinal"), (0, u "I"), (1, .class_ 14), (1, u "java/lang/Object"), (4, u "hash"), (86, .class_ 108), (1, u "java/lang/Enum$EnumDesc"), (2, .class_ 112), (0, u "java/lang/constant/Constable"), (0, .class_ 114), (0, u "java/lang/Comparable"), (0, .class_ 116), (0, u "java/io/Serializable")] 87

/-- java/lang/Enum -/
def k5 : Class := { plain "java/lang/Enum" (some 0) with
  accessFlags := 1057
  interfaces := #[2, 3, 4]
  cf := some (fileOf pool5 2 #[.nestMembers #[106]] #[] 1057 12 #[111, 113, 115] #[{ accessFlags := 18, nameIndex := 5, descriptorIndex := 6, attributes := #[] }, { accessFlags := 18, nameIndex := 9, descriptorIndex := 10, attributes := #[] }, { accessFlags := 2, nameIndex := 19, descriptorIndex := 10, attributes := #[] }])
  fields := #[{ name := "name", type := (.object "java/lang/String"), accessFlags := 18, slot := 0, constantValue := 0 }, { name := "ordinal", type := .int, accessFlags := 18, slot := 1, constantValue := 0 }, { name := "hash", type := .int, accessFlags := 2, slot := 2, constantValue := 0 }]
  methods := #[]
  instanceTypes := #[(.object "java/lang/String"), .int, .int]
  staticTypes := #[]
  resolved := Array.replicate 204 none
  statics := none }

def pool6 : Array CpInfo := pool [(1, .class_ 2), (0, u "com/example/cotran/cotran/pool/StatementKind"), (0, .fieldref 1 4), (0, .nameAndType 5 6), (0, u "DATA"), (0, u "Lcom/example/cotran/cotran/pool/StatementKind;"), (0, .fieldref 1 8), (0, .nameAndType 9 6), (0, u "IN_TRANSACTION"), (0, .fieldref 1 11), (0, .nameAndType 12 6), (0, u "OTHER"), (2, u "TRANSACTION_CONTROL"), (2, u "$VALUES"), (0, u "[Lcom/example/cotran/cotran/pool/StatementKind;"), (6, .class_ 28), (1, u "java/lang/Enum"), (14, u "firstWords"), (0, u "Ljava/util/List;"), (73, u "TRANSACTION_BEGINS"), (16, u "KINDS"), (134, u "OPENINGS"), (0, u "Ljava/lang/String;"), (3, u "ASCII_END"), (0, u "C"), (8, u "keepsTransaction"), (0, u "(Z)Z")] 27

def k6c0 : Code := { maxStack := 2, maxLocals := 2, code := prog_17_method_6_code, exceptionTable := #[], attributes := #[] }
def k6m0 : Method := { name := "keepsTransaction", desc := "(Z)Z", sig := { parameters := [.boolean], returnType := some .boolean }, accessFlags := 0, code := some k6c0 }
/-- com/example/cotran/cotran/pool/StatementKind -/
def k6 : Class := { plain "com/example/cotran/cotran/pool/StatementKind" (some 5) with
  accessFlags := 16432
  interfaces := #[]
  cf := some (fileOf pool6 1 #[] #[{ accessFlags := 0, nameIndex := 285, descriptorIndex := 286, attributes := #[] }] 16432 26 #[] #[{ accessFlags := 16409, nameIndex := 5, descriptorIndex := 6, attributes := #[] }, { accessFlags := 16409, nameIndex := 9, descriptorIndex := 6, attributes := #[] }, { accessFlags := 16409, nameIndex := 12, descriptorIndex := 6, attributes := #[] }, { accessFlags := 16409, nameIndex := 15, descriptorIndex := 6, attributes := #[] }, { accessFlags := 26, nameIndex := 135, descriptorIndex := 19, attributes := #[] }, { accessFlags := 26, nameIndex := 270, descriptorIndex := 271, attributes := #[] }, { accessFlags := 26, nameIndex := 118, descriptorIndex := 44, attributes := #[] }, { accessFlags := 26, nameIndex := 275, descriptorIndex := 276, attributes := #[] }, { accessFlags := 18, nameIndex := 43, descriptorIndex := 44, attributes := #[] }, { accessFlags := 4122, nameIndex := 18, descriptorIndex := 19, attributes := #[] }])
  fields := #[{ name := "DATA", type := (.object "com/example/cotran/cotran/pool/StatementKind"), accessFlags := 16409, slot := 0, constantValue := 0 }, { name := "IN_TRANSACTION", type := (.object "com/example/cotran/cotran/pool/StatementKind"), accessFlags := 16409, slot := 1, constantValue := 0 }, { name := "OTHER", type := (.object "com/example/cotran/cotran/pool/StatementKind"), accessFlags := 16409, slot := 2, constantValue := 0 }, { name := "TRANSACTION_CONTROL", type := (.object "com/example/cotran/cotran/pool/StatementKind"), accessFlags := 16409, slot := 3, constantValue := 0 }, { name := "KINDS", type := (.array (.object "com/example/cotran/cotran/pool/StatementKind")), accessFlags := 26, slot := 4, constantValue := 0 }, { name := "OPENINGS", type := (.object "java/lang/String"), accessFlags := 26, slot := 5, constantValue := 0 }, { name := "TRANSACTION_BEGINS", type := (.object "java/util/List"), accessFlags := 26, slot := 6, constantValue := 0 }, { name := "ASCII_END", type := .char, accessFlags := 26, slot := 7, constantValue := 0 }, { name := "firstWords", type := (.object "java/util/List"), accessFlags := 18, slot := 3, constantValue := 0 }, { name := "$VALUES", type := (.array (.object "com/example/cotran/cotran/pool/StatementKind")), accessFlags := 4122, slot := 8, constantValue := 0 }]
  methods := #[k6m0]
  instanceTypes := #[(.object "java/lang/String"), .int, .int, (.object "java/util/List")]
  staticTypes := #[(.object "com/example/cotran/cotran/pool/StatementKind"), (.object "com/example/cotran/cotran/pool/StatementKind"), (.object "com/example/cotran/cotran/pool/StatementKind"), (.object "com/example/cotran/cotran/pool/StatementKind"), (.array (.object "com/example/cotran/cotran/pool/StatementKind")), (.object "java/lang/String"), (.object "java/util/List"), .char, (.array (.object "com/example/cotran/cotran/pool/StatementKind"))]
  resolved := Array.replicate 314 none
  statics := some 0 }

def pool7 : Array CpInfo := pool [(1, u "java/lang/Cloneable"), (0, .class_ 1), (0, u "java/lang/Object"), (0, .class_ 3)] 3

/-- java/lang/Cloneable -/
def k7 : Class := { plain "java/lang/Cloneable" (some 0) with
  accessFlags := 1537
  interfaces := #[]
  cf := some (fileOf pool7 2 #[] #[] 1537 4 #[] #[])
  fields := #[]
  methods := #[]
  instanceTypes := #[]
  staticTypes := #[]
  resolved := Array.replicate 8 none
  statics := none }

/-- the primitive byte -/
def k8 : Class := { plain "byte" none with kind := .primitive 'B', accessFlags := 0x411 }
/-- [B -/
def k9 : Class := { plain "[B" (some 0) with kind := .array 8 .byte, interfaces := #[7, 4], accessFlags := 1041 }

/-- the primitive int -/
def k10 : Class := { plain "int" none with kind := .primitive 'I', accessFlags := 0x411 }
/-- [I -/
def k11 : Class := { plain "[I" (some 0) with kind := .array 10 .int, interfaces := #[7, 4], accessFlags := 1041 }

def heap : Heap := #[{ cls := 6, slots := #[.ref 1, .ref 2, .ref 3, .ref 4, .null, .null, .null, .int 0, .null], vm := .statics 6 },
  { cls := 6, slots := #[.null, .int 0, .int 0, .null], vm := .none },
  { cls := 6, slots := #[.null, .int 1, .int 0, .null], vm := .none },
  { cls := 6, slots := #[.null, .int 2, .int 0, .null], vm := .none },
  { cls := 6, slots := #[.null, .int 3, .int 0, .null], vm := .none }]
def classes : Array Class := #[k0, k1, k2, k3, k4, k5, k6, k7, k8, k9, k10, k11]
def interned : List (Array UInt16 × Addr) := []
def slotsUsed : Nat := 25
def theMethod : MethodId := ⟨1, 1⟩
def args0 : Array Value := #[.int 5, .int 5]
def aboutOver (below : List Frame) : State where
  vm := { classes := classes, interned := interned.toArray }
  heap := heap
  slotsUsed := slotsUsed
  threads := #[{ frames := .invoking theMethod args0 :: below }]
def below0 : List Frame := [.native { method := ⟨0, 0⟩, args := #[] }]
def about1 : State := aboutOver below0
def p0 : Program := .bare "" "" ""
def e0 : Env := launch0.env 0 0 0
theorem w_frames : about1.frames = Frame.invoking theMethod args0 :: below0 := rfl
set_option maxRecDepth 65536 in
theorem w_args : argsFit about1.vm theMethod args0 = true := by decide +kernel
set_option maxRecDepth 65536 in
theorem w_heap : heapFits about1 = true := by decide +kernel
set_option maxRecDepth 65536 in
theorem w_runnable : about1.curStatus? = some .runnable := by decide +kernel
set_option maxRecDepth 65536 in
theorem w_alone : about1.alone = true := by decide +kernel
set_option maxRecDepth 65536 in
theorem w_named : about1.methodNamed? x = some theMethod := by decide +kernel
set_option maxRecDepth 65536 in
theorem w_hears : about1.hears theMethod below0 = true := by decide +kernel
set_option maxRecDepth 65536 in
theorem w_ripe : about1.ripe theMethod args0 below0 = true := by decide +kernel
theorem w_running : about1.status = .running := rfl
set_option maxRecDepth 65536 in
theorem w_room : about1.hasRoom e0.platform room_1 = true :=
  launch0.hasRoom_least _ room_1 (by decide +kernel) (by decide +kernel) (by decide +kernel) (by decide +kernel) (by decide +kernel) (by decide +kernel)
theorem allAtoms_all (ts : List Jvm.Cond) (a : Array Jvm.Value) (st : Jvm.State) : (allAtoms ts).before a st = ts.all (fun c => c.before a st) := by
  induction ts with
  | nil => rfl
  | cons c t ih =>
    show (Jvm.Cond.and c (allAtoms t)).before a st = _
    rw [Jvm.Cond.before_and, ih, List.all_cons]
def words1 : List Jvm.Cond := Jvm.Cond.code x code maxLocals ret :: tables_1
/-- a 'code' word, met by the world's own term for the bytes: nothing is compared byte by byte -/
theorem code_word {y : MethodName} {bytes : ByteArray} {mx : Nat} {rt : Option FieldType} {a : Array Value} {s : State} {m : MethodId} {meth : Method} {c : Code} (h1 : s.methodNamed? y = some m) (h2 : s.vm.method? m = some meth) (h3 : meth.code = some c) (h4 : c.code = bytes)
    (h5 : (c.maxLocals == mx && c.exceptionTable.isEmpty && decide (c.maxStack ≤ mostOperands) && decide (meth.sig.returnType = rt) && !meth.locks && decide (parseMethodDescriptor y.desc = some meth.sig)) = true) : (Jvm.Cond.code y bytes mx rt).before a s = true := by
  simp only [Bool.and_eq_true, beq_iff_eq, Bool.not_eq_true', decide_eq_true_eq] at h5
  obtain ⟨⟨⟨⟨⟨g1, g2⟩, g3⟩, g4⟩, g5⟩, g6⟩ := h5
  simp [Cond.before, Cond.holds, Cond.value, h1, h2, h3, h4, g1, g2, g3, g4, g5, g6]
def isCode : Jvm.Cond → Bool
  | .code _ _ _ _ => true
  | _ => false
theorem all_split {L : List Jvm.Cond} {P : Jvm.Cond → Bool} (h1 : L.all (fun c => isCode c || P c) = true) (h2 : ∀ c ∈ L.filter isCode, P c = true) : L.all P = true := by
  refine List.all_eq_true.mpr fun c hc => ?_
  have h := List.all_eq_true.mp h1 c hc
  rcases Bool.eq_false_or_eq_true (isCode c) with hi | hi
  · exact h2 c (List.mem_filter.mpr ⟨hc, hi⟩)
  · simpa [hi] using h
set_option maxRecDepth 65536 in
theorem w_c0 : (Jvm.Cond.code x code maxLocals ret).before args0 about1 = true := code_word (m := ⟨1, 1⟩) (meth := k1m1) (c := k1c1) (by decide +kernel) rfl rfl rfl (by decide +kernel)
set_option maxRecDepth 65536 in
theorem w_c1 : (Jvm.Cond.code ({ cls := "com/example/cotran/cotran/pool/StatementKind", name := "keepsTransaction", desc := "(Z)Z" } : Jvm.MethodName) prog_17_method_6_code (2 : Nat) (Option.some Jvm.ClassFile.FieldType.boolean)).before args0 about1 = true := code_word (m := ⟨6, 0⟩) (meth := k6m0) (c := k6c0) (by decide +kernel) rfl rfl rfl (by decide +kernel)
def codes1 : List Jvm.Cond := [Jvm.Cond.code x code maxLocals ret, Jvm.Cond.code ({ cls := "com/example/cotran/cotran/pool/StatementKind", name := "keepsTransaction", desc := "(Z)Z" } : Jvm.MethodName) prog_17_method_6_code (2 : Nat) (Option.some Jvm.ClassFile.FieldType.boolean)]
set_option maxRecDepth 65536 in
theorem codes_eq : words1.filter isCode = codes1 := rfl
theorem w_codes : ∀ c ∈ words1.filter isCode, c.before args0 about1 = true := by
  rw [codes_eq]
  intro c hc
  simp only [codes1, List.mem_cons, List.not_mem_nil, or_false] at hc
  rcases hc with rfl | rfl
  · exact w_c0
  · exact w_c1
set_option maxRecDepth 65536 in
theorem w_t1 : words1.all (fun c => isCode c || c.before args0 about1) = true := by decide +kernel
theorem w_tables : (allAtoms (Jvm.Cond.code x code maxLocals ret :: tables_1)).before args0 about1 = true := by
  rw [allAtoms_all]
  show words1.all (fun c => c.before args0 about1) = true
  refine all_split ?_ w_codes
  rw [w_t1]
set_option maxRecDepth 65536 in
theorem w_case : (Jvm.Cond.and given_1 narrow_1).before args0 about1 = true := by decide +kernel
theorem w_applies : (headSpec (Jvm.Cond.code x code maxLocals ret :: tables_1) room_1).applies x e0.platform about1 = true :=
  (Spec.applies_iff w_frames).mpr ⟨w_running, w_runnable, w_alone, w_named, w_hears, w_ripe, w_room, w_tables⟩
theorem atStart : AtStart classFile x code maxLocals ret World_1 tables_1 room_1 Calls_1 rest_1 Pre_1 launch0 p0 e0 about1 theMethod args0 below0 :=
  ⟨lists_1, trivial, launch0.admits_env _ _ _, launch0.least_env, fairChoices_fair.cas, fairChoices_fair.clock, w_frames, w_args, w_heap, w_applies, trivial, trivial, w_case⟩
end start1
theorem witness_1 : WitnessClaimed_1 := ⟨start1.p0, start1.e0, start1.about1, start1.theMethod, start1.args0, start1.below0, start1.atStart⟩
end Jvm.Pilot.@@N@@
