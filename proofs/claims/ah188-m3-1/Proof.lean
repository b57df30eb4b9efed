import JvmDerived
import JvmDerived.Pilot.@@N@@Statement
import JvmDerived.Pilot.@@N@@Code
set_option linter.unusedVariables false
set_option linter.unusedSimpArgs false
namespace Jvm.RoadKit
open Sem ClassFile Op Lib Jvm.Stand Jvm.Free Jvm.LawKit
section New
variable {p : Program} {l : Launch} {e : Env} {R : Room} {s : State} {m : MethodId} {args : Array Value} {below : List Frame} {meth : Method} {c : Code} {T : State} {locs : List Loc} {cells slots : Nat}
theorem retI (X : Stand p l e R s m args below meth c T locs cells slots) (hx : p.tables.exec = Jvm.exec) {pc : Nat} {Ls : Array Slot} {z : Int32} {rest : List Value} (hret : meth.sig.returnType = some .int) (hd : decode c.code pc = .ok (.ireturn, 1)) {fs : List Frame}
    (hl : ∀ (f : JFrame) (acts : List Action), f.method = m → f.locked = none → f.entered = [] → (doReturn e (T.setTop f) acts (some (.int z))).1 = T.setFrames fs) : Steps p.tables e below (T.setTop (mkF m pc Ls (.int z :: rest))) (T.setFrames fs) := by
  have hm' : T.vm.method? m = some meth := X.method'
  have hn : narrow .int (.int z) = .int z := rfl
  show Steps p.tables e below (T.setTop { method := m, pc := pc, locals := Ls, stack := _ :: rest, locked := none }) _
  jvm_step X.here [X.here.top, hx, hd, hm', hret, hn]
  first | (intro acts; rw [hl _ acts rfl rfl rfl]) | rw [hl _ _ rfl rfl rfl]
  exact Steps.refl _
end New
end Jvm.RoadKit
namespace Jvm.Pilot.@@N@@
open Jvm Jvm.ClassFile Sem Op Lib Jvm.Free Jvm.Stand Jvm.LawKit Jvm.RoadKit Bundle Jvm.Pilot.@@N@@.Jvm.D
section OwnKit
variable {p : Program} {l : Launch} {e : Env} {R : Room} {s : State} {m : MethodId} {args : Array Value} {below : List Frame} {meth : Method} {c : Code} {T : State} {locs : List Loc} {cells slots : Nat}
def own_Rch (tb : Tables) (e : Env) (below : List Frame) (S : State) (Φ : Outcome → State → Prop) : Prop := ∃ s₂ o, Steps tb e below S s₂ ∧ s₂.status = .running ∧ Ended s₂ below o ∧ Φ o s₂
theorem own_via {tb : Tables} {S S' : State} {Φ : Outcome → State → Prop} (h : ∀ t, Steps tb e below S' t → Steps tb e below S t) (k : own_Rch tb e below S' Φ) : own_Rch tb e below S Φ := by
  obtain ⟨s₂, o, k1, k2⟩ := k
  exact ⟨s₂, o, h _ k1, k2⟩
abbrev own_End (s : State) (Q : Option Value → Heap → List Loc → Prop) (k n : Nat) : Outcome → State → Prop := fun o U' => ∃ v L, o = .returned v ∧ Q v U'.heap L ∧ FrameEnd s o U' L k n
theorem own_fin (X : Stand p l e R s m args below meth c T locs cells slots) (hx : p.tables.exec = Jvm.exec) {pc : Nat} {Ls : Array Slot} {w : Value} {t : FieldType} {i : Instr} {rest : List Value} (hret : meth.sig.returnType = some t) (hlk : meth.locks = false) (hnw : narrow t w = w)
    (hi : (i = .ireturn ∧ (t = .int ∨ t = .boolean ∨ t = .byte ∨ t = .char ∨ t = .short) ∧ ∃ z, w = .int z) ∨ (i = .lreturn ∧ t = .long ∧ ∃ z, w = .long z) ∨ (i = .dreturn ∧ t = .double ∧ ∃ z, w = .double z) ∨ (i = .freturn ∧ t = .float ∧ ∃ z, w = .float z) ∨ (i = .areturn ∧ t.isReference = true ∧ w.isRef = true))
    (hd : decode c.code pc = .ok (i, 1)) {Q : Option Value → Heap → List Loc → Prop} {k n : Nat} (hk : cells ≤ k) (hn : slots ≤ n) (hQ : Q (some w) T.heap locs) : own_Rch p.tables e below (T.setTop (mkF m pc Ls (w :: rest))) (own_End s Q k n) := by
  obtain ⟨fs, hr, hrun, hended, hW, hsame⟩ := X.leave (v := some w) (fun h => by rw [hret] at h; cases h) hlk
  exact ⟨_, _, retOut X hx hret hnw hi hd hr, hrun, hended, _, _, rfl, hQ, ⟨_, rfl⟩, hW, hsame.mono hk hn⟩
theorem own_fin0 (X : Stand p l e R s m args below meth c T locs cells slots) (hx : p.tables.exec = Jvm.exec) {pc : Nat} {Ls : Array Slot} (hret : meth.sig.returnType = none) (hlk : meth.locks = false)
    (hd : decode c.code pc = .ok (.return_, 1)) {Q : Option Value → Heap → List Loc → Prop} {k n : Nat} (hk : cells ≤ k) (hn : slots ≤ n) (hQ : Q none T.heap locs) : own_Rch p.tables e below (T.setTop (mkF m pc Ls [])) (own_End s Q k n) := by
  obtain ⟨fs, hr, hrun, hended, hW, hsame⟩ := X.leave (v := none) (fun _ => rfl) hlk
  exact ⟨_, _, X.returnOut hx hret hd hr, hrun, hended, _, _, rfl, hQ, ⟨_, rfl⟩, hW, hsame.mono hk hn⟩
theorem own_lrem {g : JFrame} {target : State} (X : Stand p l e R s m args below meth c T locs cells slots) (hx : p.tables.exec = Jvm.exec) (hg : g.method = m) {x y : Int64} {rest : List Value} (hd : decode c.code g.pc = .ok (.lrem, 1)) (hs : g.stack = .long y :: .long x :: rest) (hy : y ≠ 0)
    (hr : Steps p.tables e below (T.setTop { g with pc := g.pc + 1, stack := .long (x % y) :: rest }) target) : Steps p.tables e below (T.setTop g) target := by
  have q : x - x / y * y = x % y := lrem_mod x y
  exact XS.lrem X.here hx hg hd hs hy (by rw [q]; exact hr)
end OwnKit
def own_Pure (r : Value) (h0 : Heap) (n0 : Nat) (v : Option Value) (h : Heap) (L : List Loc) : Prop := v = some r ∧ Fr n0 L ∧ h = h0
def own_Lim (Z : State) (h : Heap) (a : Addr) (q2 : Int64) (p3 p4 : Int32) (q5 : Int64) (p6 : Int32) : Prop := Exa Z h a "com/example/offerpatch/offerpatch/core/ClientLimits" ∧ Fld Z h a "com/example/offerpatch/offerpatch/core/ClientLimits" "bodyBytes" "J" (.long q2) ∧ Fld Z h a "com/example/offerpatch/offerpatch/core/ClientLimits" "transferSeconds" "I" (.int p3) ∧ Fld Z h a "com/example/offerpatch/offerpatch/core/ClientLimits" "idleSeconds" "I" (.int p4) ∧ Fld Z h a "com/example/offerpatch/offerpatch/core/ClientLimits" "heldBytes" "J" (.long q5) ∧ Fld Z h a "com/example/offerpatch/offerpatch/core/ClientLimits" "connections" "I" (.int p6)
def Q1 (Z : State) (a1 : Addr) (q2 : Int64) (p3 p4 : Int32) (q5 : Int64) (p6 : Int32) (h0 : Heap) (n0 : Nat) (v : Option Value) (h : Heap) (L : List Loc) : Prop := v = none ∧ Fr n0 L ∧ Keep h0 h [a1] ∧ own_Lim Z h a1 q2 p3 p4 q5 p6
def own_None (h0 : Heap) (n0 : Nat) (v : Option Value) (h : Heap) (L : List Loc) : Prop := v = none ∧ Fr n0 L ∧ h = h0
def Q4 (Z : State) (q2 : Int64) (p3 p4 : Int32) (q5 : Int64) (p6 : Int32) (h0 : Heap) (n0 : Nat) (v : Option Value) (h : Heap) (L : List Loc) : Prop := ∃ b, v = some (.ref b) ∧ Fr n0 L ∧ Keep h0 h [] ∧ n0 ≤ b ∧ h0.size ≤ b ∧ own_Lim Z h b q2 p3 p4 q5 p6
theorem ef_R (m : MethodId) (x0 : Addr) : entryFrame m #[(.ref x0)] 1 = mkF m 0 #[.val (.ref x0)] [] := by first | (simp [entryFrame, mkF, argsToLocals, Value.category]; done) | rfl
theorem pn_java_lang_Record : plainName "java/lang/Record" = true := by first | (simp [plainName, overriddenIn]; done) | decide +kernel
theorem d2_0 : decode jdk_30_method_1_code 0 = .ok (.aload_n 0, 1) := by decide +kernel
theorem d2_1 : decode jdk_30_method_1_code 1 = .ok (.invokespecial 1, 3) := by decide +kernel
theorem d2_4 : decode jdk_30_method_1_code 4 = .ok (.return_, 1) := by decide +kernel
set_option maxRecDepth 65536 in
set_option maxHeartbeats 40000000 in
theorem rmR (l : Launch) (Z : State) (a0 : Array Value) (hw : ∀ d ∈ tables_1, d.before a0 Z = true) (ws : List Jvm.Cond) (a1 : Addr) (h0 : Heap) (n0 : Nat) :
    MetFree l (⟨"java/lang/Record", "<init>", "()V"⟩ : MethodName) (head1 (Jvm.Cond.code (⟨"java/lang/Record", "<init>", "()V"⟩ : MethodName) jdk_30_method_1_code 1 none :: ws) ({ frames := 1, cells := 0, slots := 0, locals := 12 } : Room)) (fun a U => a = #[(.ref a1)] ∧ Z.Warmed39 U.vm ∧ U.heap = h0) (fun _ _ _ _ _ => True) (fun _ U o U' => ∃ v L, o = .returned v ∧ own_None h0 n0 v U'.heap L ∧ FrameEnd U o U' L ({ frames := 1, cells := 0, slots := 0, locals := 12 } : Room).cells ({ frames := 1, cells := 0, slots := 0, locals := 12 } : Room).slots) := by
  refine MetFree.of_bodySF (plainFor_of_name pn_java_lang_Record) hisR ?_
  intro p e s m args below meth c s₁ Bd hml0 hP hK
  obtain ⟨rfl, hZ, hh⟩ := hP
  have hx := Bd.exec
  have hby := Bd.bytes
  have hml : c.maxLocals = 1 := hml0
  have hown : s.vm.findClass "java/lang/Record" = some m.cls := findClass_of_methodNamed Bd.named
  have hnm := (name_of_methodNamed Bd.named Bd.method).1
  have X0 : Stand p l e ({ frames := 1, cells := 0, slots := 0, locals := 12 } : Room) s m #[(.ref a1)] below meth c s₁ [] 0 0 := Stand.of_body Bd
  have e0 : s₁.heap = h0 := by rw [← hh, Bd.state]; rfl
  have N0 := Fr.nil n0
  show own_Rch p.tables e below (s₁.setTop (entryFrame m #[(.ref a1)] 1)) (own_End s (own_None h0 n0) ({ frames := 1, cells := 0, slots := 0, locals := 12 } : Room).cells ({ frames := 1, cells := 0, slots := 0, locals := 12 } : Room).slots)
  refine own_via (fun t k => castTop (ef_R m a1) k) ?_
  show own_Rch p.tables e below (s₁.setTop (mkF m 0 #[.val (.ref a1)] [])) _
  refine own_via (fun t k => XS.aloadN X0.here hx rfl (hb hby d2_0) rfl rfl k) ?_
  show own_Rch p.tables e below (s₁.setTop (mkF m 1 #[.val (.ref a1)] [(.ref a1)])) _
  obtain ⟨T1, X1, e1, st1⟩ := initO X0 hx hZ hown (hw _ (List.mem_of_getElem? (i := 11) rfl)) (hw _ (List.mem_of_getElem? (i := 12) rfl)) (hw _ (List.mem_of_getElem? (i := 13) rfl)) e0 (g := (mkF m 1 #[.val (.ref a1)] [(.ref a1)])) rfl (by rw [hml]; rfl) rfl (hb hby d2_1) (by decide) (W := 0) (by show 2 * 0 + _ ≤ _; exact Nat.le_of_eq rfl) (by decide)
  refine own_via st1 ?_
  show own_Rch p.tables e below (T1.setTop (mkF m 4 #[.val (.ref a1)] [])) _
  exact own_fin0 X1 hx Bd.returns Bd.notSynchronized (hb hby d2_4) (by decide) (by decide) ⟨rfl, N0, e1⟩
theorem ef_1 (m : MethodId) (x0 : Addr) (x1 : Int64) (x2 : Int32) (x3 : Int32) (x4 : Int64) (x5 : Int32) : entryFrame m #[(.ref x0), (.long x1), (.int x2), (.int x3), (.long x4), (.int x5)] 8 = mkF m 0 #[.val (.ref x0), .val (.long x1), .second, .val (.int x2), .val (.int x3), .val (.long x4), .second, .val (.int x5)] [] := by first | (simp [entryFrame, mkF, argsToLocals, Value.category]; done) | rfl
theorem pn_com_example_offerpatch_offerpatch_core_ClientLimits : plainName "com/example/offerpatch/offerpatch/core/ClientLimits" = true := by first | (simp [plainName, overriddenIn]; done) | decide +kernel
theorem d1_0 : decode prog_21_method_1_code 0 = .ok (.aload_n 0, 1) := by decide +kernel
theorem d1_1 : decode prog_21_method_1_code 1 = .ok (.invokespecial 1, 3) := by decide +kernel
theorem pd_0 : parseMethodDescriptor "()V" = some ⟨[], none⟩ := by decide +kernel
theorem d1_4 : decode prog_21_method_1_code 4 = .ok (.aload_n 0, 1) := by decide +kernel
theorem d1_5 : decode prog_21_method_1_code 5 = .ok (.lload_n 1, 1) := by decide +kernel
theorem d1_6 : decode prog_21_method_1_code 6 = .ok (.putfield 7, 3) := by decide +kernel
theorem d1_9 : decode prog_21_method_1_code 9 = .ok (.aload_n 0, 1) := by decide +kernel
theorem d1_10 : decode prog_21_method_1_code 10 = .ok (.iload_n 3, 1) := by decide +kernel
theorem d1_11 : decode prog_21_method_1_code 11 = .ok (.putfield 13, 3) := by decide +kernel
theorem d1_14 : decode prog_21_method_1_code 14 = .ok (.aload_n 0, 1) := by decide +kernel
theorem d1_15 : decode prog_21_method_1_code 15 = .ok (.iload 4, 2) := by decide +kernel
theorem d1_17 : decode prog_21_method_1_code 17 = .ok (.putfield 17, 3) := by decide +kernel
theorem d1_20 : decode prog_21_method_1_code 20 = .ok (.aload_n 0, 1) := by decide +kernel
theorem d1_21 : decode prog_21_method_1_code 21 = .ok (.lload 5, 2) := by decide +kernel
theorem d1_23 : decode prog_21_method_1_code 23 = .ok (.putfield 20, 3) := by decide +kernel
theorem d1_26 : decode prog_21_method_1_code 26 = .ok (.aload_n 0, 1) := by decide +kernel
theorem d1_27 : decode prog_21_method_1_code 27 = .ok (.iload 7, 2) := by decide +kernel
theorem d1_29 : decode prog_21_method_1_code 29 = .ok (.putfield 23, 3) := by decide +kernel
theorem d1_32 : decode prog_21_method_1_code 32 = .ok (.return_, 1) := by decide +kernel
set_option maxRecDepth 65536 in
set_option maxHeartbeats 40000000 in
theorem rm1 (l : Launch) (Z : State) (a0 : Array Value) (hw : ∀ d ∈ tables_1, d.before a0 Z = true) (ws : List Jvm.Cond) (a1 : Addr) (q2 : Int64) (p3 p4 : Int32) (q5 : Int64) (p6 : Int32) (h0 : Heap) (n0 : Nat) (g_a1 : n0 ≤ a1) (E_a1 : Exa Z h0 a1 "com/example/offerpatch/offerpatch/core/ClientLimits") (F_bodyBytes : Fld Z h0 a1 "com/example/offerpatch/offerpatch/core/ClientLimits" "bodyBytes" "J" (.long 0)) (F_transferSeconds : Fld Z h0 a1 "com/example/offerpatch/offerpatch/core/ClientLimits" "transferSeconds" "I" (.int 0)) (F_idleSeconds : Fld Z h0 a1 "com/example/offerpatch/offerpatch/core/ClientLimits" "idleSeconds" "I" (.int 0)) (F_heldBytes : Fld Z h0 a1 "com/example/offerpatch/offerpatch/core/ClientLimits" "heldBytes" "J" (.long 0)) (F_connections : Fld Z h0 a1 "com/example/offerpatch/offerpatch/core/ClientLimits" "connections" "I" (.int 0)) :
    MetFree l (⟨"com/example/offerpatch/offerpatch/core/ClientLimits", "<init>", "(JIIJI)V"⟩ : MethodName) (head1 (Jvm.Cond.code (⟨"com/example/offerpatch/offerpatch/core/ClientLimits", "<init>", "(JIIJI)V"⟩ : MethodName) prog_21_method_1_code 8 none :: ws) ({ frames := 2, cells := 0, slots := 0, locals := 24 } : Room)) (fun a U => a = #[(.ref a1), (.long q2), (.int p3), (.int p4), (.long q5), (.int p6)] ∧ Z.Warmed39 U.vm ∧ U.heap = h0) (fun _ _ _ _ _ => True) (fun _ U o U' => ∃ v L, o = .returned v ∧ Q1 Z a1 q2 p3 p4 q5 p6 h0 n0 v U'.heap L ∧ FrameEnd U o U' L ({ frames := 2, cells := 0, slots := 0, locals := 24 } : Room).cells ({ frames := 2, cells := 0, slots := 0, locals := 24 } : Room).slots) := by
  refine MetFree.of_bodySF (plainFor_of_name pn_com_example_offerpatch_offerpatch_core_ClientLimits) hisR ?_
  intro p e s m args below meth c s₁ Bd hml0 hP hK
  obtain ⟨rfl, hZ, hh⟩ := hP
  have hx := Bd.exec
  have hby := Bd.bytes
  have hml : c.maxLocals = 8 := hml0
  have hown : s.vm.findClass "com/example/offerpatch/offerpatch/core/ClientLimits" = some m.cls := findClass_of_methodNamed Bd.named
  have hnm := (name_of_methodNamed Bd.named Bd.method).1
  have X0 : Stand p l e ({ frames := 2, cells := 0, slots := 0, locals := 24 } : Room) s m #[(.ref a1), (.long q2), (.int p3), (.int p4), (.long q5), (.int p6)] below meth c s₁ [] 0 0 := Stand.of_body Bd
  have e0 : s₁.heap = h0 := by rw [← hh, Bd.state]; rfl
  have N0 := Fr.nil n0
  show own_Rch p.tables e below (s₁.setTop (entryFrame m #[(.ref a1), (.long q2), (.int p3), (.int p4), (.long q5), (.int p6)] 8)) (own_End s (Q1 Z a1 q2 p3 p4 q5 p6 h0 n0) ({ frames := 2, cells := 0, slots := 0, locals := 24 } : Room).cells ({ frames := 2, cells := 0, slots := 0, locals := 24 } : Room).slots)
  refine own_via (fun t k => castTop (ef_1 m a1 q2 p3 p4 q5 p6) k) ?_
  have Kc := Keep.refl h0 [a1]
  show own_Rch p.tables e below (s₁.setTop (mkF m 0 #[.val (.ref a1), .val (.long q2), .second, .val (.int p3), .val (.int p4), .val (.long q5), .second, .val (.int p6)] [])) _
  refine own_via (fun t k => XS.aloadN X0.here hx rfl (hb hby d1_0) rfl rfl k) ?_
  show own_Rch p.tables e below (s₁.setTop (mkF m 1 #[.val (.ref a1), .val (.long q2), .second, .val (.int p3), .val (.int p4), .val (.long q5), .second, .val (.int p6)] [(.ref a1)])) _
  obtain ⟨_, _, ⟨T1, L1, k1, n1⟩, -, X1, ⟨Lc1, hQ1, l1, y1, z1⟩, st1⟩ := X0.specialBack hx (y := (⟨"java/lang/Record", "<init>", "()V"⟩ : MethodName)) rfl hown (mvT hZ (hw _ (List.mem_of_getElem? (i := 6) rfl))) (mvT hZ (hw _ (List.mem_of_getElem? (i := 7) rfl))) (mvT hZ (hw _ (List.mem_of_getElem? (i := 10) rfl))) (by decide) (backOf (W := 0) (rmR l Z a0 hw [] a1 h0 n0) hZ (hw _ (List.mem_of_getElem? (i := 10) rfl)) (hw _ (List.mem_of_getElem? (i := 9) rfl)) (by decide) (by decide)) (g := (mkF m 1 #[.val (.ref a1), .val (.long q2), .second, .val (.int p3), .val (.int p4), .val (.long q5), .second, .val (.int p6)] [(.ref a1)])) rfl (by rw [hml]; rfl) (Steps.refl _) (a := a1) (argsL := []) (rest := []) (lenOf pd_0 rfl) rfl (by show 2 * 0 + _ ≤ _; exact Nat.le_of_eq rfl) (hb hby d1_1) (fun _ _ => ⟨rfl, e0, (by decide : 0 + 0 ≤ _), (by decide : 0 + 0 ≤ _)⟩)
  dsimp only [Pt.U, Pt.locs, Pt.cells, Pt.slots] at X1 l1 y1 z1 st1 hQ1
  subst l1 y1 z1
  obtain ⟨rfl, N1q, eh1⟩ := hQ1
  have N1 := Fr.app N0 N1q
  refine own_via (fun t k => st1.trans k) ?_
  show own_Rch p.tables e below (T1.setTop (mkF m 4 #[.val (.ref a1), .val (.long q2), .second, .val (.int p3), .val (.int p4), .val (.long q5), .second, .val (.int p6)] [])) _
  refine own_via (fun t k => XS.aloadN X1.here hx rfl (hb hby d1_4) rfl rfl k) ?_
  show own_Rch p.tables e below (T1.setTop (mkF m 5 #[.val (.ref a1), .val (.long q2), .second, .val (.int p3), .val (.int p4), .val (.long q5), .second, .val (.int p6)] [(.ref a1)])) _
  refine own_via (fun t k => XS.lloadN X1.here hx rfl (hb hby d1_5) rfl k) ?_
  show own_Rch p.tables e below (T1.setTop (mkF m 6 #[.val (.ref a1), .val (.long q2), .second, .val (.int p3), .val (.int p4), .val (.long q5), .second, .val (.int p6)] [(.long q2), (.ref a1)])) _
  obtain ⟨T2, h2, X2, e2, W2, st2⟩ := putF X1 hx hZ hown (host := "") (Or.inl (hw _ (List.mem_of_getElem? (i := 14) rfl))) Via.refl eh1 F_bodyBytes E_a1 (Or.inr ⟨(hw _ (List.mem_of_getElem? (i := 15) rfl)), rfl, hnm⟩) (hw _ (List.mem_of_getElem? (i := 1) rfl)) (ty := .long) (by decide) rfl rfl (g := (mkF m 6 #[.val (.ref a1), .val (.long q2), .second, .val (.int p3), .val (.int p4), .val (.long q5), .second, .val (.int p6)] [(.long q2), (.ref a1)])) rfl rfl (hb hby d1_6)
  have Fw2 := F_bodyBytes.same W2
  have N2 := Fr.snoc X2 N1 g_a1
  have Kc2 := Kc.wr W2 (Or.inl (by simp))
  refine own_via st2 ?_
  show own_Rch p.tables e below (T2.setTop (mkF m 9 #[.val (.ref a1), .val (.long q2), .second, .val (.int p3), .val (.int p4), .val (.long q5), .second, .val (.int p6)] [])) _
  refine own_via (fun t k => XS.aloadN X2.here hx rfl (hb hby d1_9) rfl rfl k) ?_
  show own_Rch p.tables e below (T2.setTop (mkF m 10 #[.val (.ref a1), .val (.long q2), .second, .val (.int p3), .val (.int p4), .val (.long q5), .second, .val (.int p6)] [(.ref a1)])) _
  refine own_via (fun t k => XS.iloadN X2.here hx rfl (hb hby d1_10) rfl k) ?_
  show own_Rch p.tables e below (T2.setTop (mkF m 11 #[.val (.ref a1), .val (.long q2), .second, .val (.int p3), .val (.int p4), .val (.long q5), .second, .val (.int p6)] [(.int p3), (.ref a1)])) _
  obtain ⟨T3, h3, X3, e3, W3, st3⟩ := putF X2 hx hZ hown (host := "") (Or.inl (hw _ (List.mem_of_getElem? (i := 16) rfl))) Via.refl e2 (F_transferSeconds.other W2 (Or.inr (slot_ne (Or.inr (hw _ (List.mem_of_getElem? (i := 17) rfl))) (Or.inr (hw _ (List.mem_of_getElem? (i := 15) rfl))) (by decide) (t := .int) (t' := .long) (by decide) (by decide)))) (E_a1.wr W2) (Or.inr ⟨(hw _ (List.mem_of_getElem? (i := 17) rfl)), rfl, hnm⟩) (hw _ (List.mem_of_getElem? (i := 1) rfl)) (ty := .int) (by decide) rfl rfl (g := (mkF m 11 #[.val (.ref a1), .val (.long q2), .second, .val (.int p3), .val (.int p4), .val (.long q5), .second, .val (.int p6)] [(.int p3), (.ref a1)])) rfl rfl (hb hby d1_11)
  have Fw3 := (F_transferSeconds.other W2 (Or.inr (slot_ne (Or.inr (hw _ (List.mem_of_getElem? (i := 17) rfl))) (Or.inr (hw _ (List.mem_of_getElem? (i := 15) rfl))) (by decide) (t := .int) (t' := .long) (by decide) (by decide)))).same W3
  have N3 := Fr.snoc X3 N2 g_a1
  have Kc3 := Kc2.wr W3 (Or.inl (by simp))
  refine own_via st3 ?_
  show own_Rch p.tables e below (T3.setTop (mkF m 14 #[.val (.ref a1), .val (.long q2), .second, .val (.int p3), .val (.int p4), .val (.long q5), .second, .val (.int p6)] [])) _
  refine own_via (fun t k => XS.aloadN X3.here hx rfl (hb hby d1_14) rfl rfl k) ?_
  show own_Rch p.tables e below (T3.setTop (mkF m 15 #[.val (.ref a1), .val (.long q2), .second, .val (.int p3), .val (.int p4), .val (.long q5), .second, .val (.int p6)] [(.ref a1)])) _
  refine own_via (fun t k => XS.iload X3.here hx rfl (hb hby d1_15) rfl k) ?_
  show own_Rch p.tables e below (T3.setTop (mkF m 17 #[.val (.ref a1), .val (.long q2), .second, .val (.int p3), .val (.int p4), .val (.long q5), .second, .val (.int p6)] [(.int p4), (.ref a1)])) _
  obtain ⟨T4, h4, X4, e4, W4, st4⟩ := putF X3 hx hZ hown (host := "") (Or.inl (hw _ (List.mem_of_getElem? (i := 18) rfl))) Via.refl e3 ((F_idleSeconds.other W2 (Or.inr (slot_ne (Or.inr (hw _ (List.mem_of_getElem? (i := 19) rfl))) (Or.inr (hw _ (List.mem_of_getElem? (i := 15) rfl))) (by decide) (t := .int) (t' := .long) (by decide) (by decide)))).other W3 (Or.inr (slot_ne (Or.inr (hw _ (List.mem_of_getElem? (i := 19) rfl))) (Or.inr (hw _ (List.mem_of_getElem? (i := 17) rfl))) (by decide) (t := .int) (t' := .int) (by decide) (by decide)))) ((E_a1.wr W2).wr W3) (Or.inr ⟨(hw _ (List.mem_of_getElem? (i := 19) rfl)), rfl, hnm⟩) (hw _ (List.mem_of_getElem? (i := 1) rfl)) (ty := .int) (by decide) rfl rfl (g := (mkF m 17 #[.val (.ref a1), .val (.long q2), .second, .val (.int p3), .val (.int p4), .val (.long q5), .second, .val (.int p6)] [(.int p4), (.ref a1)])) rfl rfl (hb hby d1_17)
  have Fw4 := ((F_idleSeconds.other W2 (Or.inr (slot_ne (Or.inr (hw _ (List.mem_of_getElem? (i := 19) rfl))) (Or.inr (hw _ (List.mem_of_getElem? (i := 15) rfl))) (by decide) (t := .int) (t' := .long) (by decide) (by decide)))).other W3 (Or.inr (slot_ne (Or.inr (hw _ (List.mem_of_getElem? (i := 19) rfl))) (Or.inr (hw _ (List.mem_of_getElem? (i := 17) rfl))) (by decide) (t := .int) (t' := .int) (by decide) (by decide)))).same W4
  have N4 := Fr.snoc X4 N3 g_a1
  have Kc4 := Kc3.wr W4 (Or.inl (by simp))
  refine own_via st4 ?_
  show own_Rch p.tables e below (T4.setTop (mkF m 20 #[.val (.ref a1), .val (.long q2), .second, .val (.int p3), .val (.int p4), .val (.long q5), .second, .val (.int p6)] [])) _
  refine own_via (fun t k => XS.aloadN X4.here hx rfl (hb hby d1_20) rfl rfl k) ?_
  show own_Rch p.tables e below (T4.setTop (mkF m 21 #[.val (.ref a1), .val (.long q2), .second, .val (.int p3), .val (.int p4), .val (.long q5), .second, .val (.int p6)] [(.ref a1)])) _
  refine own_via (fun t k => XS.lload X4.here hx rfl (hb hby d1_21) rfl k) ?_
  show own_Rch p.tables e below (T4.setTop (mkF m 23 #[.val (.ref a1), .val (.long q2), .second, .val (.int p3), .val (.int p4), .val (.long q5), .second, .val (.int p6)] [(.long q5), (.ref a1)])) _
  obtain ⟨T5, h5, X5, e5, W5, st5⟩ := putF X4 hx hZ hown (host := "") (Or.inl (hw _ (List.mem_of_getElem? (i := 20) rfl))) Via.refl e4 (((F_heldBytes.other W2 (Or.inr (slot_ne (Or.inr (hw _ (List.mem_of_getElem? (i := 21) rfl))) (Or.inr (hw _ (List.mem_of_getElem? (i := 15) rfl))) (by decide) (t := .long) (t' := .long) (by decide) (by decide)))).other W3 (Or.inr (slot_ne (Or.inr (hw _ (List.mem_of_getElem? (i := 21) rfl))) (Or.inr (hw _ (List.mem_of_getElem? (i := 17) rfl))) (by decide) (t := .long) (t' := .int) (by decide) (by decide)))).other W4 (Or.inr (slot_ne (Or.inr (hw _ (List.mem_of_getElem? (i := 21) rfl))) (Or.inr (hw _ (List.mem_of_getElem? (i := 19) rfl))) (by decide) (t := .long) (t' := .int) (by decide) (by decide)))) (((E_a1.wr W2).wr W3).wr W4) (Or.inr ⟨(hw _ (List.mem_of_getElem? (i := 21) rfl)), rfl, hnm⟩) (hw _ (List.mem_of_getElem? (i := 1) rfl)) (ty := .long) (by decide) rfl rfl (g := (mkF m 23 #[.val (.ref a1), .val (.long q2), .second, .val (.int p3), .val (.int p4), .val (.long q5), .second, .val (.int p6)] [(.long q5), (.ref a1)])) rfl rfl (hb hby d1_23)
  have Fw5 := (((F_heldBytes.other W2 (Or.inr (slot_ne (Or.inr (hw _ (List.mem_of_getElem? (i := 21) rfl))) (Or.inr (hw _ (List.mem_of_getElem? (i := 15) rfl))) (by decide) (t := .long) (t' := .long) (by decide) (by decide)))).other W3 (Or.inr (slot_ne (Or.inr (hw _ (List.mem_of_getElem? (i := 21) rfl))) (Or.inr (hw _ (List.mem_of_getElem? (i := 17) rfl))) (by decide) (t := .long) (t' := .int) (by decide) (by decide)))).other W4 (Or.inr (slot_ne (Or.inr (hw _ (List.mem_of_getElem? (i := 21) rfl))) (Or.inr (hw _ (List.mem_of_getElem? (i := 19) rfl))) (by decide) (t := .long) (t' := .int) (by decide) (by decide)))).same W5
  have N5 := Fr.snoc X5 N4 g_a1
  have Kc5 := Kc4.wr W5 (Or.inl (by simp))
  refine own_via st5 ?_
  show own_Rch p.tables e below (T5.setTop (mkF m 26 #[.val (.ref a1), .val (.long q2), .second, .val (.int p3), .val (.int p4), .val (.long q5), .second, .val (.int p6)] [])) _
  refine own_via (fun t k => XS.aloadN X5.here hx rfl (hb hby d1_26) rfl rfl k) ?_
  show own_Rch p.tables e below (T5.setTop (mkF m 27 #[.val (.ref a1), .val (.long q2), .second, .val (.int p3), .val (.int p4), .val (.long q5), .second, .val (.int p6)] [(.ref a1)])) _
  refine own_via (fun t k => XS.iload X5.here hx rfl (hb hby d1_27) rfl k) ?_
  show own_Rch p.tables e below (T5.setTop (mkF m 29 #[.val (.ref a1), .val (.long q2), .second, .val (.int p3), .val (.int p4), .val (.long q5), .second, .val (.int p6)] [(.int p6), (.ref a1)])) _
  obtain ⟨T6, h6, X6, e6, W6, st6⟩ := putF X5 hx hZ hown (host := "") (Or.inl (hw _ (List.mem_of_getElem? (i := 22) rfl))) Via.refl e5 ((((F_connections.other W2 (Or.inr (slot_ne (Or.inr (hw _ (List.mem_of_getElem? (i := 23) rfl))) (Or.inr (hw _ (List.mem_of_getElem? (i := 15) rfl))) (by decide) (t := .int) (t' := .long) (by decide) (by decide)))).other W3 (Or.inr (slot_ne (Or.inr (hw _ (List.mem_of_getElem? (i := 23) rfl))) (Or.inr (hw _ (List.mem_of_getElem? (i := 17) rfl))) (by decide) (t := .int) (t' := .int) (by decide) (by decide)))).other W4 (Or.inr (slot_ne (Or.inr (hw _ (List.mem_of_getElem? (i := 23) rfl))) (Or.inr (hw _ (List.mem_of_getElem? (i := 19) rfl))) (by decide) (t := .int) (t' := .int) (by decide) (by decide)))).other W5 (Or.inr (slot_ne (Or.inr (hw _ (List.mem_of_getElem? (i := 23) rfl))) (Or.inr (hw _ (List.mem_of_getElem? (i := 21) rfl))) (by decide) (t := .int) (t' := .long) (by decide) (by decide)))) ((((E_a1.wr W2).wr W3).wr W4).wr W5) (Or.inr ⟨(hw _ (List.mem_of_getElem? (i := 23) rfl)), rfl, hnm⟩) (hw _ (List.mem_of_getElem? (i := 1) rfl)) (ty := .int) (by decide) rfl rfl (g := (mkF m 29 #[.val (.ref a1), .val (.long q2), .second, .val (.int p3), .val (.int p4), .val (.long q5), .second, .val (.int p6)] [(.int p6), (.ref a1)])) rfl rfl (hb hby d1_29)
  have Fw6 := ((((F_connections.other W2 (Or.inr (slot_ne (Or.inr (hw _ (List.mem_of_getElem? (i := 23) rfl))) (Or.inr (hw _ (List.mem_of_getElem? (i := 15) rfl))) (by decide) (t := .int) (t' := .long) (by decide) (by decide)))).other W3 (Or.inr (slot_ne (Or.inr (hw _ (List.mem_of_getElem? (i := 23) rfl))) (Or.inr (hw _ (List.mem_of_getElem? (i := 17) rfl))) (by decide) (t := .int) (t' := .int) (by decide) (by decide)))).other W4 (Or.inr (slot_ne (Or.inr (hw _ (List.mem_of_getElem? (i := 23) rfl))) (Or.inr (hw _ (List.mem_of_getElem? (i := 19) rfl))) (by decide) (t := .int) (t' := .int) (by decide) (by decide)))).other W5 (Or.inr (slot_ne (Or.inr (hw _ (List.mem_of_getElem? (i := 23) rfl))) (Or.inr (hw _ (List.mem_of_getElem? (i := 21) rfl))) (by decide) (t := .int) (t' := .long) (by decide) (by decide)))).same W6
  have N6 := Fr.snoc X6 N5 g_a1
  have Kc6 := Kc5.wr W6 (Or.inl (by simp))
  refine own_via st6 ?_
  show own_Rch p.tables e below (T6.setTop (mkF m 32 #[.val (.ref a1), .val (.long q2), .second, .val (.int p3), .val (.int p4), .val (.long q5), .second, .val (.int p6)] [])) _
  exact own_fin0 X6 hx Bd.returns Bd.notSynchronized (hb hby d1_32) (by decide) (by decide) (by rw [e6]; exact ⟨rfl, N6, Kc6, (((((E_a1.wr W2).wr W3).wr W4).wr W5).wr W6), ((((Fw2.other W3 (Or.inr (slot_ne (Or.inr (hw _ (List.mem_of_getElem? (i := 15) rfl))) (Or.inr (hw _ (List.mem_of_getElem? (i := 17) rfl))) (by decide) (t := .long) (t' := .int) (by decide) (by decide)))).other W4 (Or.inr (slot_ne (Or.inr (hw _ (List.mem_of_getElem? (i := 15) rfl))) (Or.inr (hw _ (List.mem_of_getElem? (i := 19) rfl))) (by decide) (t := .long) (t' := .int) (by decide) (by decide)))).other W5 (Or.inr (slot_ne (Or.inr (hw _ (List.mem_of_getElem? (i := 15) rfl))) (Or.inr (hw _ (List.mem_of_getElem? (i := 21) rfl))) (by decide) (t := .long) (t' := .long) (by decide) (by decide)))).other W6 (Or.inr (slot_ne (Or.inr (hw _ (List.mem_of_getElem? (i := 15) rfl))) (Or.inr (hw _ (List.mem_of_getElem? (i := 23) rfl))) (by decide) (t := .long) (t' := .int) (by decide) (by decide)))), (((Fw3.other W4 (Or.inr (slot_ne (Or.inr (hw _ (List.mem_of_getElem? (i := 17) rfl))) (Or.inr (hw _ (List.mem_of_getElem? (i := 19) rfl))) (by decide) (t := .int) (t' := .int) (by decide) (by decide)))).other W5 (Or.inr (slot_ne (Or.inr (hw _ (List.mem_of_getElem? (i := 17) rfl))) (Or.inr (hw _ (List.mem_of_getElem? (i := 21) rfl))) (by decide) (t := .int) (t' := .long) (by decide) (by decide)))).other W6 (Or.inr (slot_ne (Or.inr (hw _ (List.mem_of_getElem? (i := 17) rfl))) (Or.inr (hw _ (List.mem_of_getElem? (i := 23) rfl))) (by decide) (t := .int) (t' := .int) (by decide) (by decide)))), ((Fw4.other W5 (Or.inr (slot_ne (Or.inr (hw _ (List.mem_of_getElem? (i := 19) rfl))) (Or.inr (hw _ (List.mem_of_getElem? (i := 21) rfl))) (by decide) (t := .int) (t' := .long) (by decide) (by decide)))).other W6 (Or.inr (slot_ne (Or.inr (hw _ (List.mem_of_getElem? (i := 19) rfl))) (Or.inr (hw _ (List.mem_of_getElem? (i := 23) rfl))) (by decide) (t := .int) (t' := .int) (by decide) (by decide)))), (Fw5.other W6 (Or.inr (slot_ne (Or.inr (hw _ (List.mem_of_getElem? (i := 21) rfl))) (Or.inr (hw _ (List.mem_of_getElem? (i := 23) rfl))) (by decide) (t := .long) (t' := .int) (by decide) (by decide)))), Fw6⟩)
theorem ef_4 (m : MethodId) (x0 : Addr) (x1 : Int32) : entryFrame m #[(.ref x0), (.int x1)] 2 = mkF m 0 #[.val (.ref x0), .val (.int x1)] [] := by first | (simp [entryFrame, mkF, argsToLocals, Value.category]; done) | rfl
theorem d4_0 : decode prog_21_method_5_code 0 = .ok (.new 8, 3) := by decide +kernel
theorem d4_3 : decode prog_21_method_5_code 3 = .ok (.dup, 1) := by decide +kernel
theorem d4_4 : decode prog_21_method_5_code 4 = .ok (.aload_n 0, 1) := by decide +kernel
theorem d4_5 : decode prog_21_method_5_code 5 = .ok (.getfield 7, 3) := by decide +kernel
theorem d4_8 : decode prog_21_method_5_code 8 = .ok (.aload_n 0, 1) := by decide +kernel
theorem d4_9 : decode prog_21_method_5_code 9 = .ok (.getfield 13, 3) := by decide +kernel
theorem d4_12 : decode prog_21_method_5_code 12 = .ok (.aload_n 0, 1) := by decide +kernel
theorem d4_13 : decode prog_21_method_5_code 13 = .ok (.getfield 17, 3) := by decide +kernel
theorem d4_16 : decode prog_21_method_5_code 16 = .ok (.aload_n 0, 1) := by decide +kernel
theorem d4_17 : decode prog_21_method_5_code 17 = .ok (.getfield 20, 3) := by decide +kernel
theorem d4_20 : decode prog_21_method_5_code 20 = .ok (.iload_n 1, 1) := by decide +kernel
theorem d4_21 : decode prog_21_method_5_code 21 = .ok (.invokespecial 53, 3) := by decide +kernel
theorem pd_1 : parseMethodDescriptor "(JIIJI)V" = some ⟨[.long, .int, .int, .long, .int], none⟩ := by decide +kernel
theorem d4_24 : decode prog_21_method_5_code 24 = .ok (.areturn, 1) := by decide +kernel
set_option maxRecDepth 65536 in
set_option maxHeartbeats 40000000 in
theorem rm4 (l : Launch) (Z : State) (a0 : Array Value) (hw : ∀ d ∈ tables_1, d.before a0 Z = true) (ws : List Jvm.Cond) (a1 : Addr) (p7 : Int32) (q2 : Int64) (p3 p4 : Int32) (q5 : Int64) (p6 : Int32) (h0 : Heap) (n0 : Nat) (Z0 : n0 ≤ h0.size) (E_a1 : Exa Z h0 a1 "com/example/offerpatch/offerpatch/core/ClientLimits") (F_bodyBytes : Fld Z h0 a1 "com/example/offerpatch/offerpatch/core/ClientLimits" "bodyBytes" "J" (.long q2)) (F_transferSeconds : Fld Z h0 a1 "com/example/offerpatch/offerpatch/core/ClientLimits" "transferSeconds" "I" (.int p3)) (F_idleSeconds : Fld Z h0 a1 "com/example/offerpatch/offerpatch/core/ClientLimits" "idleSeconds" "I" (.int p4)) (F_heldBytes : Fld Z h0 a1 "com/example/offerpatch/offerpatch/core/ClientLimits" "heldBytes" "J" (.long q5)) (F_connections : Fld Z h0 a1 "com/example/offerpatch/offerpatch/core/ClientLimits" "connections" "I" (.int p6)) :
    MetFree l (⟨"com/example/offerpatch/offerpatch/core/ClientLimits", "withConnections", "(I)Lcom/example/offerpatch/offerpatch/core/ClientLimits;"⟩ : MethodName) (head1 (Jvm.Cond.code (⟨"com/example/offerpatch/offerpatch/core/ClientLimits", "withConnections", "(I)Lcom/example/offerpatch/offerpatch/core/ClientLimits;"⟩ : MethodName) prog_21_method_5_code 2 (some (.object "com/example/offerpatch/offerpatch/core/ClientLimits")) :: ws) ({ frames := 3, cells := 1, slots := 5, locals := 44 } : Room)) (fun a U => a = #[(.ref a1), (.int p7)] ∧ Z.Warmed39 U.vm ∧ U.heap = h0) (fun _ _ _ _ _ => True) (fun _ U o U' => ∃ v L, o = .returned v ∧ Q4 Z q2 p3 p4 q5 p7 h0 n0 v U'.heap L ∧ FrameEnd U o U' L ({ frames := 3, cells := 1, slots := 5, locals := 44 } : Room).cells ({ frames := 3, cells := 1, slots := 5, locals := 44 } : Room).slots) := by
  refine MetFree.of_bodySF (plainFor_of_name pn_com_example_offerpatch_offerpatch_core_ClientLimits) hisR ?_
  intro p e s m args below meth c s₁ Bd hml0 hP hK
  obtain ⟨rfl, hZ, hh⟩ := hP
  have hx := Bd.exec
  have hby := Bd.bytes
  have hml : c.maxLocals = 2 := hml0
  have hown : s.vm.findClass "com/example/offerpatch/offerpatch/core/ClientLimits" = some m.cls := findClass_of_methodNamed Bd.named
  have hnm := (name_of_methodNamed Bd.named Bd.method).1
  have X0 : Stand p l e ({ frames := 3, cells := 1, slots := 5, locals := 44 } : Room) s m #[(.ref a1), (.int p7)] below meth c s₁ [] 0 0 := Stand.of_body Bd
  have e0 : s₁.heap = h0 := by rw [← hh, Bd.state]; rfl
  have N0 := Fr.nil n0
  show own_Rch p.tables e below (s₁.setTop (entryFrame m #[(.ref a1), (.int p7)] 2)) (own_End s (Q4 Z q2 p3 p4 q5 p7 h0 n0) ({ frames := 3, cells := 1, slots := 5, locals := 44 } : Room).cells ({ frames := 3, cells := 1, slots := 5, locals := 44 } : Room).slots)
  refine own_via (fun t k => castTop (ef_4 m a1 p7) k) ?_
  have Kc := Keep.refl h0 []
  show own_Rch p.tables e below (s₁.setTop (mkF m 0 #[.val (.ref a1), .val (.int p7)] [])) _
  obtain ⟨T1, h1, X1, e1, E1, A1, D1, -, st1⟩ := newO X0 hx hZ hown (hw _ (List.mem_of_getElem? (i := 29) rfl)) (hw _ (List.mem_of_getElem? (i := 1) rfl)) (hw _ (List.mem_of_getElem? (i := 2) rfl)) e0 (g := (mkF m 0 #[.val (.ref a1), .val (.int p7)] [])) rfl (hb hby d4_0) (by decide) (by decide)
  obtain ⟨b1, g1⟩ : ∃ z, z = h0.size := ⟨_, rfl⟩
  rw [← g1] at A1 D1 st1
  have g_b1 : n0 ≤ b1 := Nat.le_trans Z0 (Nat.le_of_eq g1.symm)
  have sz_b1 : h0.size ≤ b1 := Nat.le_trans Kc.1 (Nat.le_of_eq g1.symm)
  have F1_bodyBytes : Fld Z h1 b1 "com/example/offerpatch/offerpatch/core/ClientLimits" "bodyBytes" "J" (.long (0 : Int64)) := D1 (Or.inr (hw _ (List.mem_of_getElem? (i := 15) rfl))) (ty := .long) (by decide)
  have F1_transferSeconds : Fld Z h1 b1 "com/example/offerpatch/offerpatch/core/ClientLimits" "transferSeconds" "I" (.int (0 : Int32)) := D1 (Or.inr (hw _ (List.mem_of_getElem? (i := 17) rfl))) (ty := .int) (by decide)
  have F1_idleSeconds : Fld Z h1 b1 "com/example/offerpatch/offerpatch/core/ClientLimits" "idleSeconds" "I" (.int (0 : Int32)) := D1 (Or.inr (hw _ (List.mem_of_getElem? (i := 19) rfl))) (ty := .int) (by decide)
  have F1_heldBytes : Fld Z h1 b1 "com/example/offerpatch/offerpatch/core/ClientLimits" "heldBytes" "J" (.long (0 : Int64)) := D1 (Or.inr (hw _ (List.mem_of_getElem? (i := 21) rfl))) (ty := .long) (by decide)
  have F1_connections : Fld Z h1 b1 "com/example/offerpatch/offerpatch/core/ClientLimits" "connections" "I" (.int (0 : Int32)) := D1 (Or.inr (hw _ (List.mem_of_getElem? (i := 23) rfl))) (ty := .int) (by decide)
  have Kc1 := Kc.ext E1
  refine own_via st1 ?_
  show own_Rch p.tables e below (T1.setTop (mkF m 3 #[.val (.ref a1), .val (.int p7)] [(.ref b1)])) _
  refine own_via (fun t k => XS.dup X1.here hx rfl (hb hby d4_3) rfl rfl k) ?_
  show own_Rch p.tables e below (T1.setTop (mkF m 4 #[.val (.ref a1), .val (.int p7)] [(.ref b1), (.ref b1)])) _
  refine own_via (fun t k => XS.aloadN X1.here hx rfl (hb hby d4_4) rfl rfl k) ?_
  show own_Rch p.tables e below (T1.setTop (mkF m 5 #[.val (.ref a1), .val (.int p7)] [(.ref a1), (.ref b1), (.ref b1)])) _
  obtain ⟨T2, X2, e2, st2⟩ := getF X1 hx hZ hown (host := "") (Or.inl (hw _ (List.mem_of_getElem? (i := 14) rfl))) Via.refl e1 (F_bodyBytes.ext E1) (g := (mkF m 5 #[.val (.ref a1), .val (.int p7)] [(.ref a1), (.ref b1), (.ref b1)])) rfl rfl (hb hby d4_5)
  refine own_via st2 ?_
  show own_Rch p.tables e below (T2.setTop (mkF m 8 #[.val (.ref a1), .val (.int p7)] [(.long q2), (.ref b1), (.ref b1)])) _
  refine own_via (fun t k => XS.aloadN X2.here hx rfl (hb hby d4_8) rfl rfl k) ?_
  show own_Rch p.tables e below (T2.setTop (mkF m 9 #[.val (.ref a1), .val (.int p7)] [(.ref a1), (.long q2), (.ref b1), (.ref b1)])) _
  obtain ⟨T3, X3, e3, st3⟩ := getF X2 hx hZ hown (host := "") (Or.inl (hw _ (List.mem_of_getElem? (i := 16) rfl))) Via.refl e2 (F_transferSeconds.ext E1) (g := (mkF m 9 #[.val (.ref a1), .val (.int p7)] [(.ref a1), (.long q2), (.ref b1), (.ref b1)])) rfl rfl (hb hby d4_9)
  refine own_via st3 ?_
  show own_Rch p.tables e below (T3.setTop (mkF m 12 #[.val (.ref a1), .val (.int p7)] [(.int p3), (.long q2), (.ref b1), (.ref b1)])) _
  refine own_via (fun t k => XS.aloadN X3.here hx rfl (hb hby d4_12) rfl rfl k) ?_
  show own_Rch p.tables e below (T3.setTop (mkF m 13 #[.val (.ref a1), .val (.int p7)] [(.ref a1), (.int p3), (.long q2), (.ref b1), (.ref b1)])) _
  obtain ⟨T4, X4, e4, st4⟩ := getF X3 hx hZ hown (host := "") (Or.inl (hw _ (List.mem_of_getElem? (i := 18) rfl))) Via.refl e3 (F_idleSeconds.ext E1) (g := (mkF m 13 #[.val (.ref a1), .val (.int p7)] [(.ref a1), (.int p3), (.long q2), (.ref b1), (.ref b1)])) rfl rfl (hb hby d4_13)
  refine own_via st4 ?_
  show own_Rch p.tables e below (T4.setTop (mkF m 16 #[.val (.ref a1), .val (.int p7)] [(.int p4), (.int p3), (.long q2), (.ref b1), (.ref b1)])) _
  refine own_via (fun t k => XS.aloadN X4.here hx rfl (hb hby d4_16) rfl rfl k) ?_
  show own_Rch p.tables e below (T4.setTop (mkF m 17 #[.val (.ref a1), .val (.int p7)] [(.ref a1), (.int p4), (.int p3), (.long q2), (.ref b1), (.ref b1)])) _
  obtain ⟨T5, X5, e5, st5⟩ := getF X4 hx hZ hown (host := "") (Or.inl (hw _ (List.mem_of_getElem? (i := 20) rfl))) Via.refl e4 (F_heldBytes.ext E1) (g := (mkF m 17 #[.val (.ref a1), .val (.int p7)] [(.ref a1), (.int p4), (.int p3), (.long q2), (.ref b1), (.ref b1)])) rfl rfl (hb hby d4_17)
  refine own_via st5 ?_
  show own_Rch p.tables e below (T5.setTop (mkF m 20 #[.val (.ref a1), .val (.int p7)] [(.long q5), (.int p4), (.int p3), (.long q2), (.ref b1), (.ref b1)])) _
  refine own_via (fun t k => XS.iloadN X5.here hx rfl (hb hby d4_20) rfl k) ?_
  show own_Rch p.tables e below (T5.setTop (mkF m 21 #[.val (.ref a1), .val (.int p7)] [(.int p7), (.long q5), (.int p4), (.int p3), (.long q2), (.ref b1), (.ref b1)])) _
  obtain ⟨_, _, ⟨T6, L6, k6, n6⟩, -, X6, ⟨Lc6, hQ6, l6, y6, z6⟩, st6⟩ := X5.specialBack hx (y := (⟨"com/example/offerpatch/offerpatch/core/ClientLimits", "<init>", "(JIIJI)V"⟩ : MethodName)) rfl hown (mvT hZ (hw _ (List.mem_of_getElem? (i := 30) rfl))) (mvT hZ (hw _ (List.mem_of_getElem? (i := 4) rfl))) (mvT hZ (hw _ (List.mem_of_getElem? (i := 5) rfl))) (by decide) (backOf (W := 1) (rm1 l Z a0 hw [] b1 q2 p3 p4 q5 p7 h1 n0 g_b1 A1 F1_bodyBytes F1_transferSeconds F1_idleSeconds F1_heldBytes F1_connections) hZ (hw _ (List.mem_of_getElem? (i := 5) rfl)) (hw _ (List.mem_of_getElem? (i := 2) rfl)) (by decide) (by decide)) (g := (mkF m 21 #[.val (.ref a1), .val (.int p7)] [(.int p7), (.long q5), (.int p4), (.int p3), (.long q2), (.ref b1), (.ref b1)])) rfl (by rw [hml]; rfl) (Steps.refl _) (a := b1) (argsL := [(.long q2), (.int p3), (.int p4), (.long q5), (.int p7)]) (rest := [(.ref b1)]) (lenOf pd_1 rfl) rfl (by show 2 * 0 + _ ≤ _; exact Nat.le_of_eq rfl) (hb hby d4_21) (fun _ _ => ⟨rfl, e5, (by decide : 1 + 0 ≤ _), (by decide : 5 + 0 ≤ _)⟩)
  dsimp only [Pt.U, Pt.locs, Pt.cells, Pt.slots] at X6 l6 y6 z6 st6 hQ6
  subst l6 y6 z6
  obtain ⟨rfl, N6q, K6, E6_0, F6_bodyBytes, F6_transferSeconds, F6_idleSeconds, F6_heldBytes, F6_connections⟩ := hQ6
  have N6 := Fr.app N0 N6q
  have KcK6 := Kc1.trans K6 (allS (Or.inr sz_b1) all0)
  refine own_via (fun t k => st6.trans k) ?_
  show own_Rch p.tables e below (T6.setTop (mkF m 24 #[.val (.ref a1), .val (.int p7)] [(.ref b1)])) _
  exact own_fin X6 hx (t := (.object "com/example/offerpatch/offerpatch/core/ClientLimits")) (i := .areturn) Bd.returns Bd.notSynchronized rfl (Or.inr (Or.inr (Or.inr (Or.inr ⟨rfl, rfl, rfl⟩)))) (hb hby d4_24) (by decide) (by decide) (by first | rw [rfl] | skip; exact ⟨_, rfl, N6, KcK6, g_b1, sz_b1, E6_0, F6_bodyBytes, F6_transferSeconds, F6_idleSeconds, F6_heldBytes, F6_connections⟩)
theorem ef_abodyBytes (m : MethodId) (x0 : Addr) : entryFrame m #[(.ref x0)] 1 = mkF m 0 #[.val (.ref x0)] [] := by first | (simp [entryFrame, mkF, argsToLocals, Value.category]; done) | rfl
theorem d6_0 : decode prog_21_method_9_code 0 = .ok (.aload_n 0, 1) := by decide +kernel
theorem d6_1 : decode prog_21_method_9_code 1 = .ok (.getfield 7, 3) := by decide +kernel
theorem d6_4 : decode prog_21_method_9_code 4 = .ok (.lreturn, 1) := by decide +kernel
set_option maxRecDepth 65536 in
set_option maxHeartbeats 40000000 in
theorem rmabodyBytes (l : Launch) (Z : State) (a0 : Array Value) (hw : ∀ d ∈ tables_1, d.before a0 Z = true) (ws : List Jvm.Cond) (a1 : Addr) (vv : Int64) (h0 : Heap) (n0 : Nat) (F_a1 : Fld Z h0 a1 "com/example/offerpatch/offerpatch/core/ClientLimits" "bodyBytes" "J" (.long vv)) :
    MetFree l (⟨"com/example/offerpatch/offerpatch/core/ClientLimits", "bodyBytes", "()J"⟩ : MethodName) (head1 (Jvm.Cond.code (⟨"com/example/offerpatch/offerpatch/core/ClientLimits", "bodyBytes", "()J"⟩ : MethodName) prog_21_method_9_code 1 (some .long) :: ws) ({ frames := 0, cells := 0, slots := 0, locals := 0 } : Room)) (fun a U => a = #[(.ref a1)] ∧ Z.Warmed39 U.vm ∧ U.heap = h0) (fun _ _ _ _ _ => True) (fun _ U o U' => ∃ v L, o = .returned v ∧ own_Pure (.long vv) h0 n0 v U'.heap L ∧ FrameEnd U o U' L ({ frames := 0, cells := 0, slots := 0, locals := 0 } : Room).cells ({ frames := 0, cells := 0, slots := 0, locals := 0 } : Room).slots) := by
  refine MetFree.of_bodySF (plainFor_of_name pn_com_example_offerpatch_offerpatch_core_ClientLimits) hisR ?_
  intro p e s m args below meth c s₁ Bd hml0 hP hK
  obtain ⟨rfl, hZ, hh⟩ := hP
  have hx := Bd.exec
  have hby := Bd.bytes
  have hml : c.maxLocals = 1 := hml0
  have hown : s.vm.findClass "com/example/offerpatch/offerpatch/core/ClientLimits" = some m.cls := findClass_of_methodNamed Bd.named
  have hnm := (name_of_methodNamed Bd.named Bd.method).1
  have X0 : Stand p l e ({ frames := 0, cells := 0, slots := 0, locals := 0 } : Room) s m #[(.ref a1)] below meth c s₁ [] 0 0 := Stand.of_body Bd
  have e0 : s₁.heap = h0 := by rw [← hh, Bd.state]; rfl
  have N0 := Fr.nil n0
  show own_Rch p.tables e below (s₁.setTop (entryFrame m #[(.ref a1)] 1)) (own_End s (own_Pure (.long vv) h0 n0) ({ frames := 0, cells := 0, slots := 0, locals := 0 } : Room).cells ({ frames := 0, cells := 0, slots := 0, locals := 0 } : Room).slots)
  refine own_via (fun t k => castTop (ef_abodyBytes m a1) k) ?_
  show own_Rch p.tables e below (s₁.setTop (mkF m 0 #[.val (.ref a1)] [])) _
  refine own_via (fun t k => XS.aloadN X0.here hx rfl (hb hby d6_0) rfl rfl k) ?_
  show own_Rch p.tables e below (s₁.setTop (mkF m 1 #[.val (.ref a1)] [(.ref a1)])) _
  obtain ⟨T1, X1, e1, st1⟩ := getF X0 hx hZ hown (host := "") (Or.inl (hw _ (List.mem_of_getElem? (i := 14) rfl))) Via.refl e0 F_a1 (g := (mkF m 1 #[.val (.ref a1)] [(.ref a1)])) rfl rfl (hb hby d6_1)
  refine own_via st1 ?_
  show own_Rch p.tables e below (T1.setTop (mkF m 4 #[.val (.ref a1)] [(.long vv)])) _
  exact own_fin X1 hx (t := .long) (i := .lreturn) Bd.returns Bd.notSynchronized rfl (Or.inr (Or.inl ⟨rfl, rfl, _, rfl⟩)) (hb hby d6_4) (by decide) (by decide) ⟨rfl, N0, e1⟩
theorem ef_atransferSeconds (m : MethodId) (x0 : Addr) : entryFrame m #[(.ref x0)] 1 = mkF m 0 #[.val (.ref x0)] [] := by first | (simp [entryFrame, mkF, argsToLocals, Value.category]; done) | rfl
theorem d7_0 : decode prog_21_method_10_code 0 = .ok (.aload_n 0, 1) := by decide +kernel
theorem d7_1 : decode prog_21_method_10_code 1 = .ok (.getfield 13, 3) := by decide +kernel
theorem d7_4 : decode prog_21_method_10_code 4 = .ok (.ireturn, 1) := by decide +kernel
set_option maxRecDepth 65536 in
set_option maxHeartbeats 40000000 in
theorem rmatransferSeconds (l : Launch) (Z : State) (a0 : Array Value) (hw : ∀ d ∈ tables_1, d.before a0 Z = true) (ws : List Jvm.Cond) (a1 : Addr) (vv : Int32) (h0 : Heap) (n0 : Nat) (F_a1 : Fld Z h0 a1 "com/example/offerpatch/offerpatch/core/ClientLimits" "transferSeconds" "I" (.int vv)) :
    MetFree l (⟨"com/example/offerpatch/offerpatch/core/ClientLimits", "transferSeconds", "()I"⟩ : MethodName) (head1 (Jvm.Cond.code (⟨"com/example/offerpatch/offerpatch/core/ClientLimits", "transferSeconds", "()I"⟩ : MethodName) prog_21_method_10_code 1 (some .int) :: ws) ({ frames := 0, cells := 0, slots := 0, locals := 0 } : Room)) (fun a U => a = #[(.ref a1)] ∧ Z.Warmed39 U.vm ∧ U.heap = h0) (fun _ _ _ _ _ => True) (fun _ U o U' => ∃ v L, o = .returned v ∧ own_Pure (.int vv) h0 n0 v U'.heap L ∧ FrameEnd U o U' L ({ frames := 0, cells := 0, slots := 0, locals := 0 } : Room).cells ({ frames := 0, cells := 0, slots := 0, locals := 0 } : Room).slots) := by
  refine MetFree.of_bodySF (plainFor_of_name pn_com_example_offerpatch_offerpatch_core_ClientLimits) hisR ?_
  intro p e s m args below meth c s₁ Bd hml0 hP hK
  obtain ⟨rfl, hZ, hh⟩ := hP
  have hx := Bd.exec
  have hby := Bd.bytes
  have hml : c.maxLocals = 1 := hml0
  have hown : s.vm.findClass "com/example/offerpatch/offerpatch/core/ClientLimits" = some m.cls := findClass_of_methodNamed Bd.named
  have hnm := (name_of_methodNamed Bd.named Bd.method).1
  have X0 : Stand p l e ({ frames := 0, cells := 0, slots := 0, locals := 0 } : Room) s m #[(.ref a1)] below meth c s₁ [] 0 0 := Stand.of_body Bd
  have e0 : s₁.heap = h0 := by rw [← hh, Bd.state]; rfl
  have N0 := Fr.nil n0
  show own_Rch p.tables e below (s₁.setTop (entryFrame m #[(.ref a1)] 1)) (own_End s (own_Pure (.int vv) h0 n0) ({ frames := 0, cells := 0, slots := 0, locals := 0 } : Room).cells ({ frames := 0, cells := 0, slots := 0, locals := 0 } : Room).slots)
  refine own_via (fun t k => castTop (ef_atransferSeconds m a1) k) ?_
  show own_Rch p.tables e below (s₁.setTop (mkF m 0 #[.val (.ref a1)] [])) _
  refine own_via (fun t k => XS.aloadN X0.here hx rfl (hb hby d7_0) rfl rfl k) ?_
  show own_Rch p.tables e below (s₁.setTop (mkF m 1 #[.val (.ref a1)] [(.ref a1)])) _
  obtain ⟨T1, X1, e1, st1⟩ := getF X0 hx hZ hown (host := "") (Or.inl (hw _ (List.mem_of_getElem? (i := 16) rfl))) Via.refl e0 F_a1 (g := (mkF m 1 #[.val (.ref a1)] [(.ref a1)])) rfl rfl (hb hby d7_1)
  refine own_via st1 ?_
  show own_Rch p.tables e below (T1.setTop (mkF m 4 #[.val (.ref a1)] [(.int vv)])) _
  exact own_fin X1 hx (t := .int) (i := .ireturn) Bd.returns Bd.notSynchronized rfl (Or.inl ⟨rfl, by simp, _, rfl⟩) (hb hby d7_4) (by decide) (by decide) ⟨rfl, N0, e1⟩
theorem ef_aidleSeconds (m : MethodId) (x0 : Addr) : entryFrame m #[(.ref x0)] 1 = mkF m 0 #[.val (.ref x0)] [] := by first | (simp [entryFrame, mkF, argsToLocals, Value.category]; done) | rfl
theorem d8_0 : decode prog_21_method_11_code 0 = .ok (.aload_n 0, 1) := by decide +kernel
theorem d8_1 : decode prog_21_method_11_code 1 = .ok (.getfield 17, 3) := by decide +kernel
theorem d8_4 : decode prog_21_method_11_code 4 = .ok (.ireturn, 1) := by decide +kernel
set_option maxRecDepth 65536 in
set_option maxHeartbeats 40000000 in
theorem rmaidleSeconds (l : Launch) (Z : State) (a0 : Array Value) (hw : ∀ d ∈ tables_1, d.before a0 Z = true) (ws : List Jvm.Cond) (a1 : Addr) (vv : Int32) (h0 : Heap) (n0 : Nat) (F_a1 : Fld Z h0 a1 "com/example/offerpatch/offerpatch/core/ClientLimits" "idleSeconds" "I" (.int vv)) :
    MetFree l (⟨"com/example/offerpatch/offerpatch/core/ClientLimits", "idleSeconds", "()I"⟩ : MethodName) (head1 (Jvm.Cond.code (⟨"com/example/offerpatch/offerpatch/core/ClientLimits", "idleSeconds", "()I"⟩ : MethodName) prog_21_method_11_code 1 (some .int) :: ws) ({ frames := 0, cells := 0, slots := 0, locals := 0 } : Room)) (fun a U => a = #[(.ref a1)] ∧ Z.Warmed39 U.vm ∧ U.heap = h0) (fun _ _ _ _ _ => True) (fun _ U o U' => ∃ v L, o = .returned v ∧ own_Pure (.int vv) h0 n0 v U'.heap L ∧ FrameEnd U o U' L ({ frames := 0, cells := 0, slots := 0, locals := 0 } : Room).cells ({ frames := 0, cells := 0, slots := 0, locals := 0 } : Room).slots) := by
  refine MetFree.of_bodySF (plainFor_of_name pn_com_example_offerpatch_offerpatch_core_ClientLimits) hisR ?_
  intro p e s m args below meth c s₁ Bd hml0 hP hK
  obtain ⟨rfl, hZ, hh⟩ := hP
  have hx := Bd.exec
  have hby := Bd.bytes
  have hml : c.maxLocals = 1 := hml0
  have hown : s.vm.findClass "com/example/offerpatch/offerpatch/core/ClientLimits" = some m.cls := findClass_of_methodNamed Bd.named
  have hnm := (name_of_methodNamed Bd.named Bd.method).1
  have X0 : Stand p l e ({ frames := 0, cells := 0, slots := 0, locals := 0 } : Room) s m #[(.ref a1)] below meth c s₁ [] 0 0 := Stand.of_body Bd
  have e0 : s₁.heap = h0 := by rw [← hh, Bd.state]; rfl
  have N0 := Fr.nil n0
  show own_Rch p.tables e below (s₁.setTop (entryFrame m #[(.ref a1)] 1)) (own_End s (own_Pure (.int vv) h0 n0) ({ frames := 0, cells := 0, slots := 0, locals := 0 } : Room).cells ({ frames := 0, cells := 0, slots := 0, locals := 0 } : Room).slots)
  refine own_via (fun t k => castTop (ef_aidleSeconds m a1) k) ?_
  show own_Rch p.tables e below (s₁.setTop (mkF m 0 #[.val (.ref a1)] [])) _
  refine own_via (fun t k => XS.aloadN X0.here hx rfl (hb hby d8_0) rfl rfl k) ?_
  show own_Rch p.tables e below (s₁.setTop (mkF m 1 #[.val (.ref a1)] [(.ref a1)])) _
  obtain ⟨T1, X1, e1, st1⟩ := getF X0 hx hZ hown (host := "") (Or.inl (hw _ (List.mem_of_getElem? (i := 18) rfl))) Via.refl e0 F_a1 (g := (mkF m 1 #[.val (.ref a1)] [(.ref a1)])) rfl rfl (hb hby d8_1)
  refine own_via st1 ?_
  show own_Rch p.tables e below (T1.setTop (mkF m 4 #[.val (.ref a1)] [(.int vv)])) _
  exact own_fin X1 hx (t := .int) (i := .ireturn) Bd.returns Bd.notSynchronized rfl (Or.inl ⟨rfl, by simp, _, rfl⟩) (hb hby d8_4) (by decide) (by decide) ⟨rfl, N0, e1⟩
theorem ef_aheldBytes (m : MethodId) (x0 : Addr) : entryFrame m #[(.ref x0)] 1 = mkF m 0 #[.val (.ref x0)] [] := by first | (simp [entryFrame, mkF, argsToLocals, Value.category]; done) | rfl
theorem d9_0 : decode prog_21_method_12_code 0 = .ok (.aload_n 0, 1) := by decide +kernel
theorem d9_1 : decode prog_21_method_12_code 1 = .ok (.getfield 20, 3) := by decide +kernel
theorem d9_4 : decode prog_21_method_12_code 4 = .ok (.lreturn, 1) := by decide +kernel
set_option maxRecDepth 65536 in
set_option maxHeartbeats 40000000 in
theorem rmaheldBytes (l : Launch) (Z : State) (a0 : Array Value) (hw : ∀ d ∈ tables_1, d.before a0 Z = true) (ws : List Jvm.Cond) (a1 : Addr) (vv : Int64) (h0 : Heap) (n0 : Nat) (F_a1 : Fld Z h0 a1 "com/example/offerpatch/offerpatch/core/ClientLimits" "heldBytes" "J" (.long vv)) :
    MetFree l (⟨"com/example/offerpatch/offerpatch/core/ClientLimits", "heldBytes", "()J"⟩ : MethodName) (head1 (Jvm.Cond.code (⟨"com/example/offerpatch/offerpatch/core/ClientLimits", "heldBytes", "()J"⟩ : MethodName) prog_21_method_12_code 1 (some .long) :: ws) ({ frames := 0, cells := 0, slots := 0, locals := 0 } : Room)) (fun a U => a = #[(.ref a1)] ∧ Z.Warmed39 U.vm ∧ U.heap = h0) (fun _ _ _ _ _ => True) (fun _ U o U' => ∃ v L, o = .returned v ∧ own_Pure (.long vv) h0 n0 v U'.heap L ∧ FrameEnd U o U' L ({ frames := 0, cells := 0, slots := 0, locals := 0 } : Room).cells ({ frames := 0, cells := 0, slots := 0, locals := 0 } : Room).slots) := by
  refine MetFree.of_bodySF (plainFor_of_name pn_com_example_offerpatch_offerpatch_core_ClientLimits) hisR ?_
  intro p e s m args below meth c s₁ Bd hml0 hP hK
  obtain ⟨rfl, hZ, hh⟩ := hP
  have hx := Bd.exec
  have hby := Bd.bytes
  have hml : c.maxLocals = 1 := hml0
  have hown : s.vm.findClass "com/example/offerpatch/offerpatch/core/ClientLimits" = some m.cls := findClass_of_methodNamed Bd.named
  have hnm := (name_of_methodNamed Bd.named Bd.method).1
  have X0 : Stand p l e ({ frames := 0, cells := 0, slots := 0, locals := 0 } : Room) s m #[(.ref a1)] below meth c s₁ [] 0 0 := Stand.of_body Bd
  have e0 : s₁.heap = h0 := by rw [← hh, Bd.state]; rfl
  have N0 := Fr.nil n0
  show own_Rch p.tables e below (s₁.setTop (entryFrame m #[(.ref a1)] 1)) (own_End s (own_Pure (.long vv) h0 n0) ({ frames := 0, cells := 0, slots := 0, locals := 0 } : Room).cells ({ frames := 0, cells := 0, slots := 0, locals := 0 } : Room).slots)
  refine own_via (fun t k => castTop (ef_aheldBytes m a1) k) ?_
  show own_Rch p.tables e below (s₁.setTop (mkF m 0 #[.val (.ref a1)] [])) _
  refine own_via (fun t k => XS.aloadN X0.here hx rfl (hb hby d9_0) rfl rfl k) ?_
  show own_Rch p.tables e below (s₁.setTop (mkF m 1 #[.val (.ref a1)] [(.ref a1)])) _
  obtain ⟨T1, X1, e1, st1⟩ := getF X0 hx hZ hown (host := "") (Or.inl (hw _ (List.mem_of_getElem? (i := 20) rfl))) Via.refl e0 F_a1 (g := (mkF m 1 #[.val (.ref a1)] [(.ref a1)])) rfl rfl (hb hby d9_1)
  refine own_via st1 ?_
  show own_Rch p.tables e below (T1.setTop (mkF m 4 #[.val (.ref a1)] [(.long vv)])) _
  exact own_fin X1 hx (t := .long) (i := .lreturn) Bd.returns Bd.notSynchronized rfl (Or.inr (Or.inl ⟨rfl, rfl, _, rfl⟩)) (hb hby d9_4) (by decide) (by decide) ⟨rfl, N0, e1⟩
theorem ef_aconnections (m : MethodId) (x0 : Addr) : entryFrame m #[(.ref x0)] 1 = mkF m 0 #[.val (.ref x0)] [] := by first | (simp [entryFrame, mkF, argsToLocals, Value.category]; done) | rfl
theorem d5_0 : decode prog_21_method_13_code 0 = .ok (.aload_n 0, 1) := by decide +kernel
theorem d5_1 : decode prog_21_method_13_code 1 = .ok (.getfield 23, 3) := by decide +kernel
theorem d5_4 : decode prog_21_method_13_code 4 = .ok (.ireturn, 1) := by decide +kernel
set_option maxRecDepth 65536 in
set_option maxHeartbeats 40000000 in
theorem rmaconnections (l : Launch) (Z : State) (a0 : Array Value) (hw : ∀ d ∈ tables_1, d.before a0 Z = true) (ws : List Jvm.Cond) (a1 : Addr) (vv : Int32) (h0 : Heap) (n0 : Nat) (F_a1 : Fld Z h0 a1 "com/example/offerpatch/offerpatch/core/ClientLimits" "connections" "I" (.int vv)) :
    MetFree l (⟨"com/example/offerpatch/offerpatch/core/ClientLimits", "connections", "()I"⟩ : MethodName) (head1 (Jvm.Cond.code (⟨"com/example/offerpatch/offerpatch/core/ClientLimits", "connections", "()I"⟩ : MethodName) prog_21_method_13_code 1 (some .int) :: ws) ({ frames := 0, cells := 0, slots := 0, locals := 0 } : Room)) (fun a U => a = #[(.ref a1)] ∧ Z.Warmed39 U.vm ∧ U.heap = h0) (fun _ _ _ _ _ => True) (fun _ U o U' => ∃ v L, o = .returned v ∧ own_Pure (.int vv) h0 n0 v U'.heap L ∧ FrameEnd U o U' L ({ frames := 0, cells := 0, slots := 0, locals := 0 } : Room).cells ({ frames := 0, cells := 0, slots := 0, locals := 0 } : Room).slots) := by
  refine MetFree.of_bodySF (plainFor_of_name pn_com_example_offerpatch_offerpatch_core_ClientLimits) hisR ?_
  intro p e s m args below meth c s₁ Bd hml0 hP hK
  obtain ⟨rfl, hZ, hh⟩ := hP
  have hx := Bd.exec
  have hby := Bd.bytes
  have hml : c.maxLocals = 1 := hml0
  have hown : s.vm.findClass "com/example/offerpatch/offerpatch/core/ClientLimits" = some m.cls := findClass_of_methodNamed Bd.named
  have hnm := (name_of_methodNamed Bd.named Bd.method).1
  have X0 : Stand p l e ({ frames := 0, cells := 0, slots := 0, locals := 0 } : Room) s m #[(.ref a1)] below meth c s₁ [] 0 0 := Stand.of_body Bd
  have e0 : s₁.heap = h0 := by rw [← hh, Bd.state]; rfl
  have N0 := Fr.nil n0
  show own_Rch p.tables e below (s₁.setTop (entryFrame m #[(.ref a1)] 1)) (own_End s (own_Pure (.int vv) h0 n0) ({ frames := 0, cells := 0, slots := 0, locals := 0 } : Room).cells ({ frames := 0, cells := 0, slots := 0, locals := 0 } : Room).slots)
  refine own_via (fun t k => castTop (ef_aconnections m a1) k) ?_
  show own_Rch p.tables e below (s₁.setTop (mkF m 0 #[.val (.ref a1)] [])) _
  refine own_via (fun t k => XS.aloadN X0.here hx rfl (hb hby d5_0) rfl rfl k) ?_
  show own_Rch p.tables e below (s₁.setTop (mkF m 1 #[.val (.ref a1)] [(.ref a1)])) _
  obtain ⟨T1, X1, e1, st1⟩ := getF X0 hx hZ hown (host := "") (Or.inl (hw _ (List.mem_of_getElem? (i := 22) rfl))) Via.refl e0 F_a1 (g := (mkF m 1 #[.val (.ref a1)] [(.ref a1)])) rfl rfl (hb hby d5_1)
  refine own_via st1 ?_
  show own_Rch p.tables e below (T1.setTop (mkF m 4 #[.val (.ref a1)] [(.int vv)])) _
  exact own_fin X1 hx (t := .int) (i := .ireturn) Bd.returns Bd.notSynchronized rfl (Or.inl ⟨rfl, by simp, _, rfl⟩) (hb hby d5_4) (by decide) (by decide) ⟨rfl, N0, e1⟩
def Q0 (n0 : Nat) (v : Option Value) (h : Heap) (L : List Loc) : Prop := v = some (.int (1 : Int32)) ∧ Fr n0 L
theorem ef_0 (m : MethodId) (x0 : Int64) (x1 : Int32) (x2 : Int32) (x3 : Int64) (x4 : Int32) (x5 : Int32) : entryFrame m #[(.long x0), (.int x1), (.int x2), (.long x3), (.int x4), (.int x5)] maxLocals = mkF m 0 #[.val (.long x0), .second, .val (.int x1), .val (.int x2), .val (.long x3), .second, .val (.int x4), .val (.int x5), .unset, .unset] [] := by first | (simp [entryFrame, mkF, argsToLocals, Value.category, maxLocals]; done) | rfl
theorem pn_com_example_offerpatch_offerpatch_core_ClientLimitsWithConnectionsPinLaw : plainName "com/example/offerpatch/offerpatch/core/ClientLimitsWithConnectionsPinLaw" = true := by first | (simp [plainName, overriddenIn]; done) | decide +kernel
theorem pd_2 : parseMethodDescriptor "(I)Lcom/example/offerpatch/offerpatch/core/ClientLimits;" = some ⟨[.int], some (.object "com/example/offerpatch/offerpatch/core/ClientLimits")⟩ := by decide +kernel
theorem pd_3 : parseMethodDescriptor "()I" = some ⟨[], some .int⟩ := by decide +kernel
theorem pd_4 : parseMethodDescriptor "()J" = some ⟨[], some .long⟩ := by decide +kernel
set_option maxRecDepth 65536 in
set_option maxHeartbeats 40000000 in
theorem rm0 (l : Launch) (Z : State) (a0 : Array Value) (hw : ∀ d ∈ tables_1, d.before a0 Z = true) (ws : List Jvm.Cond) (q2 : Int64) (p3 p4 : Int32) (q5 : Int64) (p6 p7 : Int32) (h0 : Heap) (n0 : Nat) (Z0 : n0 ≤ h0.size) :
    MetFree l x (head1 (Jvm.Cond.code x code maxLocals ret :: ws) room_1) (fun a U => a = #[(.long q2), (.int p3), (.int p4), (.long q5), (.int p6), (.int p7)] ∧ Z.Warmed39 U.vm ∧ U.heap = h0) (fun _ _ _ _ _ => True) (fun _ U o U' => ∃ v L, o = .returned v ∧ Q0 n0 v U'.heap L ∧ FrameEnd U o U' L room_1.cells room_1.slots) := by
  refine MetFree.of_bodySF (plainFor_of_name pn_com_example_offerpatch_offerpatch_core_ClientLimitsWithConnectionsPinLaw) hisR ?_
  intro p e s m args below meth c s₁ Bd hml0 hP hK
  obtain ⟨rfl, hZ, hh⟩ := hP
  have hx := Bd.exec
  have hby := Bd.bytes
  have hml : c.maxLocals = 10 := hml0
  have hown : s.vm.findClass "com/example/offerpatch/offerpatch/core/ClientLimitsWithConnectionsPinLaw" = some m.cls := findClass_of_methodNamed Bd.named
  have hnm := (name_of_methodNamed Bd.named Bd.method).1
  have X0 : Stand p l e room_1 s m #[(.long q2), (.int p3), (.int p4), (.long q5), (.int p6), (.int p7)] below meth c s₁ [] 0 0 := Stand.of_body Bd
  have e0 : s₁.heap = h0 := by rw [← hh, Bd.state]; rfl
  have N0 := Fr.nil n0
  show own_Rch p.tables e below (s₁.setTop (entryFrame m #[(.long q2), (.int p3), (.int p4), (.long q5), (.int p6), (.int p7)] maxLocals)) (own_End s (Q0 n0) room_1.cells room_1.slots)
  refine own_via (fun t k => castTop (ef_0 m q2 p3 p4 q5 p6 p7) k) ?_
  show own_Rch p.tables e below (s₁.setTop (mkF m 0 #[.val (.long q2), .second, .val (.int p3), .val (.int p4), .val (.long q5), .second, .val (.int p6), .val (.int p7), .unset, .unset] [])) _
  obtain ⟨T1, h1, X1, e1, E1, A1, D1, -, st1⟩ := newO X0 hx hZ hown (hw _ (List.mem_of_getElem? (i := 0) rfl)) (hw _ (List.mem_of_getElem? (i := 1) rfl)) (hw _ (List.mem_of_getElem? (i := 2) rfl)) e0 (g := (mkF m 0 #[.val (.long q2), .second, .val (.int p3), .val (.int p4), .val (.long q5), .second, .val (.int p6), .val (.int p7), .unset, .unset] [])) rfl (hb hby at_0) (by decide) (by decide)
  obtain ⟨b1, g1⟩ : ∃ z, z = h0.size := ⟨_, rfl⟩
  rw [← g1] at A1 D1 st1
  have g_b1 : n0 ≤ b1 := Nat.le_trans Z0 (Nat.le_of_eq g1.symm)
  have F1_bodyBytes : Fld Z h1 b1 "com/example/offerpatch/offerpatch/core/ClientLimits" "bodyBytes" "J" (.long (0 : Int64)) := D1 (Or.inr (hw _ (List.mem_of_getElem? (i := 15) rfl))) (ty := .long) (by decide)
  have F1_transferSeconds : Fld Z h1 b1 "com/example/offerpatch/offerpatch/core/ClientLimits" "transferSeconds" "I" (.int (0 : Int32)) := D1 (Or.inr (hw _ (List.mem_of_getElem? (i := 17) rfl))) (ty := .int) (by decide)
  have F1_idleSeconds : Fld Z h1 b1 "com/example/offerpatch/offerpatch/core/ClientLimits" "idleSeconds" "I" (.int (0 : Int32)) := D1 (Or.inr (hw _ (List.mem_of_getElem? (i := 19) rfl))) (ty := .int) (by decide)
  have F1_heldBytes : Fld Z h1 b1 "com/example/offerpatch/offerpatch/core/ClientLimits" "heldBytes" "J" (.long (0 : Int64)) := D1 (Or.inr (hw _ (List.mem_of_getElem? (i := 21) rfl))) (ty := .long) (by decide)
  have F1_connections : Fld Z h1 b1 "com/example/offerpatch/offerpatch/core/ClientLimits" "connections" "I" (.int (0 : Int32)) := D1 (Or.inr (hw _ (List.mem_of_getElem? (i := 23) rfl))) (ty := .int) (by decide)
  refine own_via st1 ?_
  show own_Rch p.tables e below (T1.setTop (mkF m 3 #[.val (.long q2), .second, .val (.int p3), .val (.int p4), .val (.long q5), .second, .val (.int p6), .val (.int p7), .unset, .unset] [(.ref b1)])) _
  refine own_via (fun t k => XS.dup X1.here hx rfl (hb hby at_3) rfl rfl k) ?_
  show own_Rch p.tables e below (T1.setTop (mkF m 4 #[.val (.long q2), .second, .val (.int p3), .val (.int p4), .val (.long q5), .second, .val (.int p6), .val (.int p7), .unset, .unset] [(.ref b1), (.ref b1)])) _
  refine own_via (fun t k => XS.lloadN X1.here hx rfl (hb hby at_4) rfl k) ?_
  show own_Rch p.tables e below (T1.setTop (mkF m 5 #[.val (.long q2), .second, .val (.int p3), .val (.int p4), .val (.long q5), .second, .val (.int p6), .val (.int p7), .unset, .unset] [(.long q2), (.ref b1), (.ref b1)])) _
  refine own_via (fun t k => XS.iloadN X1.here hx rfl (hb hby at_5) rfl k) ?_
  show own_Rch p.tables e below (T1.setTop (mkF m 6 #[.val (.long q2), .second, .val (.int p3), .val (.int p4), .val (.long q5), .second, .val (.int p6), .val (.int p7), .unset, .unset] [(.int p3), (.long q2), (.ref b1), (.ref b1)])) _
  refine own_via (fun t k => XS.iloadN X1.here hx rfl (hb hby at_6) rfl k) ?_
  show own_Rch p.tables e below (T1.setTop (mkF m 7 #[.val (.long q2), .second, .val (.int p3), .val (.int p4), .val (.long q5), .second, .val (.int p6), .val (.int p7), .unset, .unset] [(.int p4), (.int p3), (.long q2), (.ref b1), (.ref b1)])) _
  refine own_via (fun t k => XS.lload X1.here hx rfl (hb hby at_7) rfl k) ?_
  show own_Rch p.tables e below (T1.setTop (mkF m 9 #[.val (.long q2), .second, .val (.int p3), .val (.int p4), .val (.long q5), .second, .val (.int p6), .val (.int p7), .unset, .unset] [(.long q5), (.int p4), (.int p3), (.long q2), (.ref b1), (.ref b1)])) _
  refine own_via (fun t k => XS.iload X1.here hx rfl (hb hby at_9) rfl k) ?_
  show own_Rch p.tables e below (T1.setTop (mkF m 11 #[.val (.long q2), .second, .val (.int p3), .val (.int p4), .val (.long q5), .second, .val (.int p6), .val (.int p7), .unset, .unset] [(.int p6), (.long q5), (.int p4), (.int p3), (.long q2), (.ref b1), (.ref b1)])) _
  obtain ⟨_, _, ⟨T2, L2, k2, n2⟩, -, X2, ⟨Lc2, hQ2, l2, y2, z2⟩, st2⟩ := X1.specialBack hx (y := (⟨"com/example/offerpatch/offerpatch/core/ClientLimits", "<init>", "(JIIJI)V"⟩ : MethodName)) rfl hown (mvT hZ (hw _ (List.mem_of_getElem? (i := 3) rfl))) (mvT hZ (hw _ (List.mem_of_getElem? (i := 4) rfl))) (mvT hZ (hw _ (List.mem_of_getElem? (i := 5) rfl))) (by decide) (backOf (W := 1) (rm1 l Z a0 hw [] b1 q2 p3 p4 q5 p6 h1 n0 g_b1 A1 F1_bodyBytes F1_transferSeconds F1_idleSeconds F1_heldBytes F1_connections) hZ (hw _ (List.mem_of_getElem? (i := 5) rfl)) (hw _ (List.mem_of_getElem? (i := 2) rfl)) (by decide) (by decide)) (g := (mkF m 11 #[.val (.long q2), .second, .val (.int p3), .val (.int p4), .val (.long q5), .second, .val (.int p6), .val (.int p7), .unset, .unset] [(.int p6), (.long q5), (.int p4), (.int p3), (.long q2), (.ref b1), (.ref b1)])) rfl (by rw [hml]; rfl) (Steps.refl _) (a := b1) (argsL := [(.long q2), (.int p3), (.int p4), (.long q5), (.int p6)]) (rest := [(.ref b1)]) (lenOf pd_1 rfl) rfl (by show 2 * 0 + _ ≤ _; exact Nat.le_of_eq rfl) (hb hby at_11) (fun _ _ => ⟨rfl, e1, (by decide : 1 + 0 ≤ _), (by decide : 5 + 0 ≤ _)⟩)
  dsimp only [Pt.U, Pt.locs, Pt.cells, Pt.slots] at X2 l2 y2 z2 st2 hQ2
  subst l2 y2 z2
  obtain ⟨rfl, N2q, K2, E2_0, F2_bodyBytes, F2_transferSeconds, F2_idleSeconds, F2_heldBytes, F2_connections⟩ := hQ2
  have N2 := Fr.app N0 N2q
  refine own_via (fun t k => st2.trans k) ?_
  show own_Rch p.tables e below (T2.setTop (mkF m 14 #[.val (.long q2), .second, .val (.int p3), .val (.int p4), .val (.long q5), .second, .val (.int p6), .val (.int p7), .unset, .unset] [(.ref b1)])) _
  refine own_via (fun t k => XS.astore X2.here hx rfl (hb hby at_14) rfl rfl (l' := #[.val (.long q2), .second, .val (.int p3), .val (.int p4), .val (.long q5), .second, .val (.int p6), .val (.int p7), .val (.ref b1), .unset]) rfl k) ?_
  show own_Rch p.tables e below (T2.setTop (mkF m 16 #[.val (.long q2), .second, .val (.int p3), .val (.int p4), .val (.long q5), .second, .val (.int p6), .val (.int p7), .val (.ref b1), .unset] [])) _
  refine own_via (fun t k => XS.aload X2.here hx rfl (hb hby at_16) rfl rfl k) ?_
  show own_Rch p.tables e below (T2.setTop (mkF m 18 #[.val (.long q2), .second, .val (.int p3), .val (.int p4), .val (.long q5), .second, .val (.int p6), .val (.int p7), .val (.ref b1), .unset] [(.ref b1)])) _
  refine own_via (fun t k => XS.iload X2.here hx rfl (hb hby at_18) rfl k) ?_
  show own_Rch p.tables e below (T2.setTop (mkF m 20 #[.val (.long q2), .second, .val (.int p3), .val (.int p4), .val (.long q5), .second, .val (.int p6), .val (.int p7), .val (.ref b1), .unset] [(.int p7), (.ref b1)])) _
  obtain ⟨cq3, kq3, q3a, q3b, q3c⟩ := isOf hZ rfl E2_0
  obtain ⟨_, _, ⟨T3, L3, k3, n3⟩, -, X3, ⟨Lc3, hQ3, l3, y3, z3⟩, st3⟩ := X2.virtualBack hx (y := (⟨"com/example/offerpatch/offerpatch/core/ClientLimits", "withConnections", "(I)Lcom/example/offerpatch/offerpatch/core/ClientLimits;"⟩ : MethodName)) (z := (⟨"com/example/offerpatch/offerpatch/core/ClientLimits", "withConnections", "(I)Lcom/example/offerpatch/offerpatch/core/ClientLimits;"⟩ : MethodName)) hown (mvT hZ (hw _ (List.mem_of_getElem? (i := 24) rfl))) (mvT hZ (hw _ (List.mem_of_getElem? (i := 25) rfl))) (notFace_of_selects (args := #[]) (mvT hZ (hw _ (List.mem_of_getElem? (i := 27) rfl)))) (mvT hZ (hw _ (List.mem_of_getElem? (i := 27) rfl))) (mvT hZ (hw _ (List.mem_of_getElem? (i := 26) rfl))) (by decide) (backOf (W := 0) (rm4 l Z a0 hw [] b1 p7 q2 p3 p4 q5 p6 T2.heap n0 (Nat.le_trans (Nat.le_trans Z0 E1.1) K2.1) E2_0 F2_bodyBytes F2_transferSeconds F2_idleSeconds F2_heldBytes F2_connections) hZ (hw _ (List.mem_of_getElem? (i := 28) rfl)) (hw _ (List.mem_of_getElem? (i := 2) rfl)) (by decide) (by decide)) q3a q3c (g := (mkF m 20 #[.val (.long q2), .second, .val (.int p3), .val (.int p4), .val (.long q5), .second, .val (.int p6), .val (.int p7), .val (.ref b1), .unset] [(.int p7), (.ref b1)])) rfl (by rw [hml]; rfl) (Steps.refl _) (argsL := [(.int p7)]) (rest := []) (lenOf pd_2 rfl) rfl (by show 2 * 0 + _ ≤ _; exact Nat.le_of_eq rfl) (hb hby at_20) (fun _ _ => ⟨rfl, rfl, (by decide : 1 + 1 ≤ _), (by decide : 5 + 5 ≤ _)⟩)
  dsimp only [Pt.U, Pt.locs, Pt.cells, Pt.slots] at X3 l3 y3 z3 st3 hQ3
  subst l3 y3 z3
  obtain ⟨b3, rfl, N3q, K3, g_b3, sz_b3, E3_0, F3_bodyBytes, F3_transferSeconds, F3_idleSeconds, F3_heldBytes, F3_connections⟩ := hQ3
  have N3 := Fr.app N2 N3q
  refine own_via (fun t k => st3.trans k) ?_
  show own_Rch p.tables e below (T3.setTop (mkF m 23 #[.val (.long q2), .second, .val (.int p3), .val (.int p4), .val (.long q5), .second, .val (.int p6), .val (.int p7), .val (.ref b1), .unset] [(.ref b3)])) _
  refine own_via (fun t k => XS.astore X3.here hx rfl (hb hby at_23) rfl rfl (l' := #[.val (.long q2), .second, .val (.int p3), .val (.int p4), .val (.long q5), .second, .val (.int p6), .val (.int p7), .val (.ref b1), .val (.ref b3)]) rfl k) ?_
  show own_Rch p.tables e below (T3.setTop (mkF m 25 #[.val (.long q2), .second, .val (.int p3), .val (.int p4), .val (.long q5), .second, .val (.int p6), .val (.int p7), .val (.ref b1), .val (.ref b3)] [])) _
  refine own_via (fun t k => XS.aload X3.here hx rfl (hb hby at_25) rfl rfl k) ?_
  show own_Rch p.tables e below (T3.setTop (mkF m 27 #[.val (.long q2), .second, .val (.int p3), .val (.int p4), .val (.long q5), .second, .val (.int p6), .val (.int p7), .val (.ref b1), .val (.ref b3)] [(.ref b3)])) _
  refine own_via (fun t k => XS.ifnonnullYes X3.here hx rfl (pc0 := 27) (pc' := 32) rfl (hb hby at_27) rfl (by decide) (by decide) k) ?_
  show own_Rch p.tables e below (T3.setTop (mkF m 32 #[.val (.long q2), .second, .val (.int p3), .val (.int p4), .val (.long q5), .second, .val (.int p6), .val (.int p7), .val (.ref b1), .val (.ref b3)] [])) _
  refine own_via (fun t k => XS.aload X3.here hx rfl (hb hby at_32) rfl rfl k) ?_
  show own_Rch p.tables e below (T3.setTop (mkF m 34 #[.val (.long q2), .second, .val (.int p3), .val (.int p4), .val (.long q5), .second, .val (.int p6), .val (.int p7), .val (.ref b1), .val (.ref b3)] [(.ref b3)])) _
  obtain ⟨cq4, kq4, q4a, q4b, q4c⟩ := isOf hZ rfl E3_0
  obtain ⟨_, _, ⟨T4, L4, k4, n4⟩, -, X4, ⟨Lc4, hQ4, l4, y4, z4⟩, st4⟩ := X3.virtualBack hx (y := (⟨"com/example/offerpatch/offerpatch/core/ClientLimits", "connections", "()I"⟩ : MethodName)) (z := (⟨"com/example/offerpatch/offerpatch/core/ClientLimits", "connections", "()I"⟩ : MethodName)) hown (mvT hZ (hw _ (List.mem_of_getElem? (i := 31) rfl))) (mvT hZ (hw _ (List.mem_of_getElem? (i := 32) rfl))) (notFace_of_selects (args := #[]) (mvT hZ (hw _ (List.mem_of_getElem? (i := 34) rfl)))) (mvT hZ (hw _ (List.mem_of_getElem? (i := 34) rfl))) (mvT hZ (hw _ (List.mem_of_getElem? (i := 33) rfl))) (by decide) (backOf (W := 0) (rmaconnections l Z a0 hw [] b3 p7 T3.heap n0 F3_connections) hZ (hw _ (List.mem_of_getElem? (i := 35) rfl)) (hw _ (List.mem_of_getElem? (i := 2) rfl)) (by decide) (by decide)) q4a q4c (g := (mkF m 34 #[.val (.long q2), .second, .val (.int p3), .val (.int p4), .val (.long q5), .second, .val (.int p6), .val (.int p7), .val (.ref b1), .val (.ref b3)] [(.ref b3)])) rfl (by rw [hml]; rfl) (Steps.refl _) (argsL := []) (rest := []) (lenOf pd_3 rfl) rfl (by show 2 * 0 + _ ≤ _; exact Nat.le_of_eq rfl) (hb hby at_34) (fun _ _ => ⟨rfl, rfl, (by decide : 2 + 0 ≤ _), (by decide : 10 + 0 ≤ _)⟩)
  dsimp only [Pt.U, Pt.locs, Pt.cells, Pt.slots] at X4 l4 y4 z4 st4 hQ4
  subst l4 y4 z4
  obtain ⟨rfl, N4q, eh4⟩ := hQ4
  have N4 := Fr.app N3 N4q
  refine own_via (fun t k => st4.trans k) ?_
  show own_Rch p.tables e below (T4.setTop (mkF m 37 #[.val (.long q2), .second, .val (.int p3), .val (.int p4), .val (.long q5), .second, .val (.int p6), .val (.int p7), .val (.ref b1), .val (.ref b3)] [(.int p7)])) _
  refine own_via (fun t k => XS.iload X4.here hx rfl (hb hby at_37) rfl k) ?_
  show own_Rch p.tables e below (T4.setTop (mkF m 39 #[.val (.long q2), .second, .val (.int p3), .val (.int p4), .val (.long q5), .second, .val (.int p6), .val (.int p7), .val (.ref b1), .val (.ref b3)] [(.int p7), (.int p7)])) _
  refine own_via (fun t k => XS.icmpNo X4.here hx rfl (hb hby at_39) rfl (teq (rfl : p7 = p7)).2 k) ?_
  show own_Rch p.tables e below (T4.setTop (mkF m 42 #[.val (.long q2), .second, .val (.int p3), .val (.int p4), .val (.long q5), .second, .val (.int p6), .val (.int p7), .val (.ref b1), .val (.ref b3)] [])) _
  refine own_via (fun t k => XS.aload X4.here hx rfl (hb hby at_42) rfl rfl k) ?_
  show own_Rch p.tables e below (T4.setTop (mkF m 44 #[.val (.long q2), .second, .val (.int p3), .val (.int p4), .val (.long q5), .second, .val (.int p6), .val (.int p7), .val (.ref b1), .val (.ref b3)] [(.ref b3)])) _
  obtain ⟨cq5, kq5, q5a, q5b, q5c⟩ := isOf hZ eh4 E3_0
  obtain ⟨_, _, ⟨T5, L5, k5, n5⟩, -, X5, ⟨Lc5, hQ5, l5, y5, z5⟩, st5⟩ := X4.virtualBack hx (y := (⟨"com/example/offerpatch/offerpatch/core/ClientLimits", "bodyBytes", "()J"⟩ : MethodName)) (z := (⟨"com/example/offerpatch/offerpatch/core/ClientLimits", "bodyBytes", "()J"⟩ : MethodName)) hown (mvT hZ (hw _ (List.mem_of_getElem? (i := 36) rfl))) (mvT hZ (hw _ (List.mem_of_getElem? (i := 37) rfl))) (notFace_of_selects (args := #[]) (mvT hZ (hw _ (List.mem_of_getElem? (i := 39) rfl)))) (mvT hZ (hw _ (List.mem_of_getElem? (i := 39) rfl))) (mvT hZ (hw _ (List.mem_of_getElem? (i := 38) rfl))) (by decide) (backOf (W := 0) (rmabodyBytes l Z a0 hw [] b3 q2 T3.heap n0 F3_bodyBytes) hZ (hw _ (List.mem_of_getElem? (i := 40) rfl)) (hw _ (List.mem_of_getElem? (i := 2) rfl)) (by decide) (by decide)) q5a q5c (g := (mkF m 44 #[.val (.long q2), .second, .val (.int p3), .val (.int p4), .val (.long q5), .second, .val (.int p6), .val (.int p7), .val (.ref b1), .val (.ref b3)] [(.ref b3)])) rfl (by rw [hml]; rfl) (Steps.refl _) (argsL := []) (rest := []) (lenOf pd_4 rfl) rfl (by show 2 * 0 + _ ≤ _; exact Nat.le_of_eq rfl) (hb hby at_44) (fun _ _ => ⟨rfl, eh4, (by decide : 2 + 0 ≤ _), (by decide : 10 + 0 ≤ _)⟩)
  dsimp only [Pt.U, Pt.locs, Pt.cells, Pt.slots] at X5 l5 y5 z5 st5 hQ5
  subst l5 y5 z5
  obtain ⟨rfl, N5q, eh5⟩ := hQ5
  have N5 := Fr.app N4 N5q
  refine own_via (fun t k => st5.trans k) ?_
  show own_Rch p.tables e below (T5.setTop (mkF m 47 #[.val (.long q2), .second, .val (.int p3), .val (.int p4), .val (.long q5), .second, .val (.int p6), .val (.int p7), .val (.ref b1), .val (.ref b3)] [(.long q2)])) _
  refine own_via (fun t k => XS.lloadN X5.here hx rfl (hb hby at_47) rfl k) ?_
  show own_Rch p.tables e below (T5.setTop (mkF m 48 #[.val (.long q2), .second, .val (.int p3), .val (.int p4), .val (.long q5), .second, .val (.int p6), .val (.int p7), .val (.ref b1), .val (.ref b3)] [(.long q2), (.long q2)])) _
  refine own_via (fun t k => XS.lcmp X5.here hx rfl (hb hby at_48) rfl k) ?_
  show own_Rch p.tables e below (T5.setTop (mkF m 49 #[.val (.long q2), .second, .val (.int p3), .val (.int p4), .val (.long q5), .second, .val (.int p6), .val (.int p7), .val (.ref b1), .val (.ref b3)] [(.int (lcmpW q2 q2))])) _
  refine own_via (fun t k => XS.ifNo X5.here hx rfl (hb hby at_49) rfl ((if0 _ _).trans (teq ((lw_eq q2 q2).mpr (rfl : q2 = q2))).2) k) ?_
  show own_Rch p.tables e below (T5.setTop (mkF m 52 #[.val (.long q2), .second, .val (.int p3), .val (.int p4), .val (.long q5), .second, .val (.int p6), .val (.int p7), .val (.ref b1), .val (.ref b3)] [])) _
  refine own_via (fun t k => XS.aload X5.here hx rfl (hb hby at_52) rfl rfl k) ?_
  show own_Rch p.tables e below (T5.setTop (mkF m 54 #[.val (.long q2), .second, .val (.int p3), .val (.int p4), .val (.long q5), .second, .val (.int p6), .val (.int p7), .val (.ref b1), .val (.ref b3)] [(.ref b3)])) _
  obtain ⟨cq6, kq6, q6a, q6b, q6c⟩ := isOf hZ eh5 E3_0
  obtain ⟨_, _, ⟨T6, L6, k6, n6⟩, -, X6, ⟨Lc6, hQ6, l6, y6, z6⟩, st6⟩ := X5.virtualBack hx (y := (⟨"com/example/offerpatch/offerpatch/core/ClientLimits", "transferSeconds", "()I"⟩ : MethodName)) (z := (⟨"com/example/offerpatch/offerpatch/core/ClientLimits", "transferSeconds", "()I"⟩ : MethodName)) hown (mvT hZ (hw _ (List.mem_of_getElem? (i := 41) rfl))) (mvT hZ (hw _ (List.mem_of_getElem? (i := 42) rfl))) (notFace_of_selects (args := #[]) (mvT hZ (hw _ (List.mem_of_getElem? (i := 44) rfl)))) (mvT hZ (hw _ (List.mem_of_getElem? (i := 44) rfl))) (mvT hZ (hw _ (List.mem_of_getElem? (i := 43) rfl))) (by decide) (backOf (W := 0) (rmatransferSeconds l Z a0 hw [] b3 p3 T3.heap n0 F3_transferSeconds) hZ (hw _ (List.mem_of_getElem? (i := 45) rfl)) (hw _ (List.mem_of_getElem? (i := 2) rfl)) (by decide) (by decide)) q6a q6c (g := (mkF m 54 #[.val (.long q2), .second, .val (.int p3), .val (.int p4), .val (.long q5), .second, .val (.int p6), .val (.int p7), .val (.ref b1), .val (.ref b3)] [(.ref b3)])) rfl (by rw [hml]; rfl) (Steps.refl _) (argsL := []) (rest := []) (lenOf pd_3 rfl) rfl (by show 2 * 0 + _ ≤ _; exact Nat.le_of_eq rfl) (hb hby at_54) (fun _ _ => ⟨rfl, eh5, (by decide : 2 + 0 ≤ _), (by decide : 10 + 0 ≤ _)⟩)
  dsimp only [Pt.U, Pt.locs, Pt.cells, Pt.slots] at X6 l6 y6 z6 st6 hQ6
  subst l6 y6 z6
  obtain ⟨rfl, N6q, eh6⟩ := hQ6
  have N6 := Fr.app N5 N6q
  refine own_via (fun t k => st6.trans k) ?_
  show own_Rch p.tables e below (T6.setTop (mkF m 57 #[.val (.long q2), .second, .val (.int p3), .val (.int p4), .val (.long q5), .second, .val (.int p6), .val (.int p7), .val (.ref b1), .val (.ref b3)] [(.int p3)])) _
  refine own_via (fun t k => XS.iloadN X6.here hx rfl (hb hby at_57) rfl k) ?_
  show own_Rch p.tables e below (T6.setTop (mkF m 58 #[.val (.long q2), .second, .val (.int p3), .val (.int p4), .val (.long q5), .second, .val (.int p6), .val (.int p7), .val (.ref b1), .val (.ref b3)] [(.int p3), (.int p3)])) _
  refine own_via (fun t k => XS.icmpNo X6.here hx rfl (hb hby at_58) rfl (teq (rfl : p3 = p3)).2 k) ?_
  show own_Rch p.tables e below (T6.setTop (mkF m 61 #[.val (.long q2), .second, .val (.int p3), .val (.int p4), .val (.long q5), .second, .val (.int p6), .val (.int p7), .val (.ref b1), .val (.ref b3)] [])) _
  refine own_via (fun t k => XS.aload X6.here hx rfl (hb hby at_61) rfl rfl k) ?_
  show own_Rch p.tables e below (T6.setTop (mkF m 63 #[.val (.long q2), .second, .val (.int p3), .val (.int p4), .val (.long q5), .second, .val (.int p6), .val (.int p7), .val (.ref b1), .val (.ref b3)] [(.ref b3)])) _
  obtain ⟨cq7, kq7, q7a, q7b, q7c⟩ := isOf hZ eh6 E3_0
  obtain ⟨_, _, ⟨T7, L7, k7, n7⟩, -, X7, ⟨Lc7, hQ7, l7, y7, z7⟩, st7⟩ := X6.virtualBack hx (y := (⟨"com/example/offerpatch/offerpatch/core/ClientLimits", "idleSeconds", "()I"⟩ : MethodName)) (z := (⟨"com/example/offerpatch/offerpatch/core/ClientLimits", "idleSeconds", "()I"⟩ : MethodName)) hown (mvT hZ (hw _ (List.mem_of_getElem? (i := 46) rfl))) (mvT hZ (hw _ (List.mem_of_getElem? (i := 47) rfl))) (notFace_of_selects (args := #[]) (mvT hZ (hw _ (List.mem_of_getElem? (i := 49) rfl)))) (mvT hZ (hw _ (List.mem_of_getElem? (i := 49) rfl))) (mvT hZ (hw _ (List.mem_of_getElem? (i := 48) rfl))) (by decide) (backOf (W := 0) (rmaidleSeconds l Z a0 hw [] b3 p4 T3.heap n0 F3_idleSeconds) hZ (hw _ (List.mem_of_getElem? (i := 50) rfl)) (hw _ (List.mem_of_getElem? (i := 2) rfl)) (by decide) (by decide)) q7a q7c (g := (mkF m 63 #[.val (.long q2), .second, .val (.int p3), .val (.int p4), .val (.long q5), .second, .val (.int p6), .val (.int p7), .val (.ref b1), .val (.ref b3)] [(.ref b3)])) rfl (by rw [hml]; rfl) (Steps.refl _) (argsL := []) (rest := []) (lenOf pd_3 rfl) rfl (by show 2 * 0 + _ ≤ _; exact Nat.le_of_eq rfl) (hb hby at_63) (fun _ _ => ⟨rfl, eh6, (by decide : 2 + 0 ≤ _), (by decide : 10 + 0 ≤ _)⟩)
  dsimp only [Pt.U, Pt.locs, Pt.cells, Pt.slots] at X7 l7 y7 z7 st7 hQ7
  subst l7 y7 z7
  obtain ⟨rfl, N7q, eh7⟩ := hQ7
  have N7 := Fr.app N6 N7q
  refine own_via (fun t k => st7.trans k) ?_
  show own_Rch p.tables e below (T7.setTop (mkF m 66 #[.val (.long q2), .second, .val (.int p3), .val (.int p4), .val (.long q5), .second, .val (.int p6), .val (.int p7), .val (.ref b1), .val (.ref b3)] [(.int p4)])) _
  refine own_via (fun t k => XS.iloadN X7.here hx rfl (hb hby at_66) rfl k) ?_
  show own_Rch p.tables e below (T7.setTop (mkF m 67 #[.val (.long q2), .second, .val (.int p3), .val (.int p4), .val (.long q5), .second, .val (.int p6), .val (.int p7), .val (.ref b1), .val (.ref b3)] [(.int p4), (.int p4)])) _
  refine own_via (fun t k => XS.icmpNo X7.here hx rfl (hb hby at_67) rfl (teq (rfl : p4 = p4)).2 k) ?_
  show own_Rch p.tables e below (T7.setTop (mkF m 70 #[.val (.long q2), .second, .val (.int p3), .val (.int p4), .val (.long q5), .second, .val (.int p6), .val (.int p7), .val (.ref b1), .val (.ref b3)] [])) _
  refine own_via (fun t k => XS.aload X7.here hx rfl (hb hby at_70) rfl rfl k) ?_
  show own_Rch p.tables e below (T7.setTop (mkF m 72 #[.val (.long q2), .second, .val (.int p3), .val (.int p4), .val (.long q5), .second, .val (.int p6), .val (.int p7), .val (.ref b1), .val (.ref b3)] [(.ref b3)])) _
  obtain ⟨cq8, kq8, q8a, q8b, q8c⟩ := isOf hZ eh7 E3_0
  obtain ⟨_, _, ⟨T8, L8, k8, n8⟩, -, X8, ⟨Lc8, hQ8, l8, y8, z8⟩, st8⟩ := X7.virtualBack hx (y := (⟨"com/example/offerpatch/offerpatch/core/ClientLimits", "heldBytes", "()J"⟩ : MethodName)) (z := (⟨"com/example/offerpatch/offerpatch/core/ClientLimits", "heldBytes", "()J"⟩ : MethodName)) hown (mvT hZ (hw _ (List.mem_of_getElem? (i := 51) rfl))) (mvT hZ (hw _ (List.mem_of_getElem? (i := 52) rfl))) (notFace_of_selects (args := #[]) (mvT hZ (hw _ (List.mem_of_getElem? (i := 54) rfl)))) (mvT hZ (hw _ (List.mem_of_getElem? (i := 54) rfl))) (mvT hZ (hw _ (List.mem_of_getElem? (i := 53) rfl))) (by decide) (backOf (W := 0) (rmaheldBytes l Z a0 hw [] b3 q5 T3.heap n0 F3_heldBytes) hZ (hw _ (List.mem_of_getElem? (i := 55) rfl)) (hw _ (List.mem_of_getElem? (i := 2) rfl)) (by decide) (by decide)) q8a q8c (g := (mkF m 72 #[.val (.long q2), .second, .val (.int p3), .val (.int p4), .val (.long q5), .second, .val (.int p6), .val (.int p7), .val (.ref b1), .val (.ref b3)] [(.ref b3)])) rfl (by rw [hml]; rfl) (Steps.refl _) (argsL := []) (rest := []) (lenOf pd_4 rfl) rfl (by show 2 * 0 + _ ≤ _; exact Nat.le_of_eq rfl) (hb hby at_72) (fun _ _ => ⟨rfl, eh7, (by decide : 2 + 0 ≤ _), (by decide : 10 + 0 ≤ _)⟩)
  dsimp only [Pt.U, Pt.locs, Pt.cells, Pt.slots] at X8 l8 y8 z8 st8 hQ8
  subst l8 y8 z8
  obtain ⟨rfl, N8q, eh8⟩ := hQ8
  have N8 := Fr.app N7 N8q
  refine own_via (fun t k => st8.trans k) ?_
  show own_Rch p.tables e below (T8.setTop (mkF m 75 #[.val (.long q2), .second, .val (.int p3), .val (.int p4), .val (.long q5), .second, .val (.int p6), .val (.int p7), .val (.ref b1), .val (.ref b3)] [(.long q5)])) _
  refine own_via (fun t k => XS.lload X8.here hx rfl (hb hby at_75) rfl k) ?_
  show own_Rch p.tables e below (T8.setTop (mkF m 77 #[.val (.long q2), .second, .val (.int p3), .val (.int p4), .val (.long q5), .second, .val (.int p6), .val (.int p7), .val (.ref b1), .val (.ref b3)] [(.long q5), (.long q5)])) _
  refine own_via (fun t k => XS.lcmp X8.here hx rfl (hb hby at_77) rfl k) ?_
  show own_Rch p.tables e below (T8.setTop (mkF m 78 #[.val (.long q2), .second, .val (.int p3), .val (.int p4), .val (.long q5), .second, .val (.int p6), .val (.int p7), .val (.ref b1), .val (.ref b3)] [(.int (lcmpW q5 q5))])) _
  refine own_via (fun t k => XS.ifNo X8.here hx rfl (hb hby at_78) rfl ((if0 _ _).trans (teq ((lw_eq q5 q5).mpr (rfl : q5 = q5))).2) k) ?_
  show own_Rch p.tables e below (T8.setTop (mkF m 81 #[.val (.long q2), .second, .val (.int p3), .val (.int p4), .val (.long q5), .second, .val (.int p6), .val (.int p7), .val (.ref b1), .val (.ref b3)] [])) _
  refine own_via (fun t k => XS.aload X8.here hx rfl (hb hby at_81) rfl rfl k) ?_
  show own_Rch p.tables e below (T8.setTop (mkF m 83 #[.val (.long q2), .second, .val (.int p3), .val (.int p4), .val (.long q5), .second, .val (.int p6), .val (.int p7), .val (.ref b1), .val (.ref b3)] [(.ref b1)])) _
  obtain ⟨cq9, kq9, q9a, q9b, q9c⟩ := isOf hZ eh8 (E2_0.keep K3)
  obtain ⟨_, _, ⟨T9, L9, k9, n9⟩, -, X9, ⟨Lc9, hQ9, l9, y9, z9⟩, st9⟩ := X8.virtualBack hx (y := (⟨"com/example/offerpatch/offerpatch/core/ClientLimits", "connections", "()I"⟩ : MethodName)) (z := (⟨"com/example/offerpatch/offerpatch/core/ClientLimits", "connections", "()I"⟩ : MethodName)) hown (mvT hZ (hw _ (List.mem_of_getElem? (i := 31) rfl))) (mvT hZ (hw _ (List.mem_of_getElem? (i := 32) rfl))) (notFace_of_selects (args := #[]) (mvT hZ (hw _ (List.mem_of_getElem? (i := 34) rfl)))) (mvT hZ (hw _ (List.mem_of_getElem? (i := 34) rfl))) (mvT hZ (hw _ (List.mem_of_getElem? (i := 33) rfl))) (by decide) (backOf (W := 0) (rmaconnections l Z a0 hw [] b1 p6 T3.heap n0 (F2_connections.keep K3 nin0)) hZ (hw _ (List.mem_of_getElem? (i := 35) rfl)) (hw _ (List.mem_of_getElem? (i := 2) rfl)) (by decide) (by decide)) q9a q9c (g := (mkF m 83 #[.val (.long q2), .second, .val (.int p3), .val (.int p4), .val (.long q5), .second, .val (.int p6), .val (.int p7), .val (.ref b1), .val (.ref b3)] [(.ref b1)])) rfl (by rw [hml]; rfl) (Steps.refl _) (argsL := []) (rest := []) (lenOf pd_3 rfl) rfl (by show 2 * 0 + _ ≤ _; exact Nat.le_of_eq rfl) (hb hby at_83) (fun _ _ => ⟨rfl, eh8, (by decide : 2 + 0 ≤ _), (by decide : 10 + 0 ≤ _)⟩)
  dsimp only [Pt.U, Pt.locs, Pt.cells, Pt.slots] at X9 l9 y9 z9 st9 hQ9
  subst l9 y9 z9
  obtain ⟨rfl, N9q, eh9⟩ := hQ9
  have N9 := Fr.app N8 N9q
  refine own_via (fun t k => st9.trans k) ?_
  show own_Rch p.tables e below (T9.setTop (mkF m 86 #[.val (.long q2), .second, .val (.int p3), .val (.int p4), .val (.long q5), .second, .val (.int p6), .val (.int p7), .val (.ref b1), .val (.ref b3)] [(.int p6)])) _
  refine own_via (fun t k => XS.iload X9.here hx rfl (hb hby at_86) rfl k) ?_
  show own_Rch p.tables e below (T9.setTop (mkF m 88 #[.val (.long q2), .second, .val (.int p3), .val (.int p4), .val (.long q5), .second, .val (.int p6), .val (.int p7), .val (.ref b1), .val (.ref b3)] [(.int p6), (.int p6)])) _
  refine own_via (fun t k => XS.icmpNo X9.here hx rfl (hb hby at_88) rfl (teq (rfl : p6 = p6)).2 k) ?_
  show own_Rch p.tables e below (T9.setTop (mkF m 91 #[.val (.long q2), .second, .val (.int p3), .val (.int p4), .val (.long q5), .second, .val (.int p6), .val (.int p7), .val (.ref b1), .val (.ref b3)] [])) _
  refine own_via (fun t k => XS.iconst X9.here hx rfl (hb hby at_91) k) ?_
  show own_Rch p.tables e below (T9.setTop (mkF m 92 #[.val (.long q2), .second, .val (.int p3), .val (.int p4), .val (.long q5), .second, .val (.int p6), .val (.int p7), .val (.ref b1), .val (.ref b3)] [(.int (1 : Int32))])) _
  refine own_via (fun t k => XS.goto X9.here hx rfl (pc0 := 92) (pc' := 96) rfl (hb hby at_92) (by decide) (by decide) k) ?_
  show own_Rch p.tables e below (T9.setTop (mkF m 96 #[.val (.long q2), .second, .val (.int p3), .val (.int p4), .val (.long q5), .second, .val (.int p6), .val (.int p7), .val (.ref b1), .val (.ref b3)] [(.int (1 : Int32))])) _
  exact own_fin X9 hx (t := .boolean) (i := .ireturn) Bd.returns Bd.notSynchronized rfl (Or.inl ⟨rfl, by simp, _, rfl⟩) (hb hby at_96) (by decide) (by decide) ⟨rfl, N9⟩
set_option maxRecDepth 65536 in
set_option maxHeartbeats 40000000 in
theorem comes_1 {Post : Tables → Env → Array Value → State → Outcome → State → Prop} (hpost : ∀ tb e args s v u, (limb_1_1.after args s (.returned v) u = true ∧ limb_1_2.after args s (.returned v) u = true ∧ True) → FrameEnd s (.returned v) u (Jvm.fieldLocs frame_1_writes args s ++ Jvm.arrayLocs frame_1_arrays args s ++ Jvm.staticLocs frame_1_statics s) 16 128 → Post tb e args s (.returned v) u) :
    ArmFor flags0 classFile x code maxLocals ret World_1 tables_1 room_1 Calls_1 rest_1 Pre_1 Post := by
  intro l hfl _ _ p e ha hc hk s m args below hf hA hF happ hP
  obtain ⟨hcalls, hrest, hpre⟩ := hP
  obtain ⟨-, -, -, hnamed, -, -, -, hat⟩ := (Spec.applies_iff hf).mp happ
  obtain ⟨hg, hn⟩ := and_e (Cond.before_iff.mp (show (Jvm.Cond.and given_1 narrow_1).before args s = true from hpre))
  obtain ⟨hcount, r0⟩ := and_e hg
  obtain ⟨v0, r1⟩ := and_e r0
  obtain ⟨v1, r2⟩ := and_e r1
  obtain ⟨v2, r3⟩ := and_e r2
  obtain ⟨v3, r4⟩ := and_e r3
  obtain ⟨v4, r5⟩ := and_e r4
  obtain ⟨w0, w1, w2, w3, w4, w5, rfl⟩ : ∃ w0 w1 w2 w3 w4 w5 : Value, args = #[w0, w1, w2, w3, w4, w5] := by
    have hs : args.size = 6 := by simpa [Cond.value, given_1] using hcount
    obtain ⟨L⟩ := args
    match L, hs with
    | [w0, w1, w2, w3, w4, w5], _ => exact ⟨w0, w1, w2, w3, w4, w5, rfl⟩
  have hw := fun d (hd : d ∈ tables_1) => atoms_spec (ws := Jvm.Cond.code x code maxLocals ret :: tables_1) hat d (List.mem_cons_of_mem _ hd)
  have hfit : Fit s := fun {y c} hc i hi => by
    obtain ⟨ha, rfl⟩ := Array.getElem?_eq_some_iff.mp hc
    have q := List.all_eq_true.mp ((Array.all_eq_true_iff_forall_mem.mp hF) _ (Array.getElem_mem ha)) i (List.mem_range.mpr hi)
    simpa [Array.getElem?_eq_getElem hi] using q
  obtain ⟨i0, ei0⟩ := isL_v v0
  obtain rfl : w0 = (.long i0) := Option.some.inj ei0
  obtain ⟨i1, ei1⟩ := is_v v1
  obtain rfl : w1 = (.int i1) := Option.some.inj ei1
  obtain ⟨i2, ei2⟩ := is_v v2
  obtain rfl : w2 = (.int i2) := Option.some.inj ei2
  obtain ⟨i3, ei3⟩ := isL_v v3
  obtain rfl : w3 = (.long i3) := Option.some.inj ei3
  obtain ⟨i4, ei4⟩ := is_v v4
  obtain rfl : w4 = (.int i4) := Option.some.inj ei4
  obtain ⟨i5, ei5⟩ := is_v r5
  obtain rfl : w5 = (.int i5) := Option.some.inj ei5
  obtain ⟨n, o, h1, h2, h3, _, L, rfl, ⟨rfl, N⟩, hq⟩ := rm0 l s _ hw tables_1 i0 i1 i2 i3 i4 i5 s.heap s.heap.size (Nat.le_refl _) p e ha hc hk s m _ below hf ((Spec.applies_iff_loose hf).mp happ).1 ⟨rfl, State.Warmed39.refl s, rfl⟩ trivial
  refine ⟨n, _, h1, h2, h3, hpost _ _ _ _ _ _ ⟨Cond.after_iff.mpr rfl, Cond.after_iff.mpr (eq_i res_at (Term.int_eval (1)) rfl), trivial⟩ ⟨hq.1, hq.2.1, (hq.2.2.sift fun y hy => Or.inr (N y hy)).mono (by decide) (by decide)⟩⟩
theorem main_1_1 : Claimed_1_1 := comes_1 fun _ _ _ _ _ _ h hF => ⟨h.1, hF⟩
theorem main_1_2 : Claimed_1_2 := comes_1 fun _ _ _ _ _ _ h hF => ⟨h.2.1, hF⟩
end Jvm.Pilot.@@N@@
namespace Jvm.Pilot.@@N@@
open Jvm Jvm.ClassFile Sem Op Lib Jvm.Free Jvm.Stand Jvm.Pilot.@@N@@.Jvm.D
/-! MADE BY PROGRAM (witnessworld.py) out of the Statement's table words and the real class files: 10 classes; the members and pool entries that the words name. The judged class is class 1, her method 1. -/
namespace start1
open Jvm.ClassFile
def u (s : String) : CpInfo := .utf8 (stringToUtf16 s)
/-- a pool by its gaps: so many unusable entries, then the entry; so many at the end -/
def gap : Nat → List CpInfo → List CpInfo
  | 0, r => r
  | n + 1, r => .unusable :: gap n r
def poolList (es : List (Nat × CpInfo)) (last : Nat) : List CpInfo := es.foldr (fun e r => gap e.1 (e.2 :: r)) (gap last [])
def pool (es : List (Nat × CpInfo)) (last : Nat) : Array CpInfo := ⟨poolList es last⟩
def fileOf (pool : Array CpInfo) (this : Nat) (attrs : Array Attribute := #[]) (ms : Array MethodInfo := #[]) (fl : Nat := 33) (sup : Nat := 0) (ifs : Array Nat := #[]) (fds : Array FieldInfo := #[]) : ClassFile where
  minorVersion := 0
  majorVersion := 65
  constantPool := pool
  accessFlags := fl
  thisClass := this
  superClass := sup
  interfaces := ifs
  fields := fds
  methods := ms
  attributes := attrs
def plain (name : String) (sup : Option ClassId) : Class where
  name := name
  kind := .ordinary
  loader := none
  accessFlags := 33
  super := sup
  interfaces := #[]
  cf := none
  fields := #[]
  methods := #[]
  instanceTypes := #[]
  staticTypes := #[]
  resolved := #[]
  callSites := []
  init := .initialized
  statics := none
  mirror := none

def pool0 : Array CpInfo := pool [(5, u "<init>"), (0, u "()V"), (1, .class_ 10), (1, u "java/lang/Object")] 113

def k0c0 : Code := { maxStack := 0, maxLocals := 1, code := object_method_1_code, exceptionTable := #[], attributes := #[] }
def k0m0 : Method := { name := "<init>", desc := "()V", sig := { parameters := [], returnType := none }, accessFlags := 1, code := some k0c0 }
/-- java/lang/Object -/
def k0 : Class := { plain "java/lang/Object" none with
  accessFlags := 33
  interfaces := #[]
  cf := some (fileOf pool0 8 #[] #[{ accessFlags := 1, nameIndex := 5, descriptorIndex := 6, attributes := #[] }] 33 0 #[] #[])
  fields := #[]
  methods := #[k0m0]
  instanceTypes := #[]
  staticTypes := #[]
  resolved := Array.replicate 124 none
  statics := none }

def pool1 : Array CpInfo := pool [(2, .class_ 4), (1, u "java/lang/Object"), (0, u "<init>"), (0, u "()V"), (0, .class_ 8), (0, u "com/example/offerpatch/offerpatch/core/ClientLimits"), (0, .methodref 7 10), (0, .nameAndType 5 11), (0, u "(JIIJI)V"), (0, .methodref 7 13), (0, .nameAndType 14 15), (0, u "withConnections"), (0, u "(I)Lcom/example/offerpatch/offerpatch/core/ClientLimits;"), (0, .methodref 7 17), (0, .nameAndType 18 19), (0, u "connections"), (0, u "()I"), (0, .methodref 7 21), (0, .nameAndType 22 23), (0, u "bodyBytes"), (0, u "()J"), (0, .methodref 7 25), (0, .nameAndType 26 19), (0, u "transferSeconds"), (0, .methodref 7 28), (0, .nameAndType 29 19), (0, u "idleSeconds"), (0, .methodref 7 31), (0, .nameAndType 32 23), (0, u "heldBytes"), (0, .class_ 34), (0, u "com/example/offerpatch/offerpatch/core/ClientLimitsWithConnectionsPinLaw"), (2, u "law"), (0, u "(JIIJII)Z")] 3

def k1m0 : Method := { name := "<init>", desc := "()V", sig := { parameters := [], returnType := none }, accessFlags := 1, code := none }
def k1c1 : Code := { maxStack := 9, maxLocals := 10, code := code, exceptionTable := #[], attributes := #[] }
def k1m1 : Method := { name := "law", desc := "(JIIJII)Z", sig := { parameters := [.long, .int, .int, .long, .int, .int], returnType := some .boolean }, accessFlags := 9, code := some k1c1 }
/-- com/example/offerpatch/offerpatch/core/ClientLimitsWithConnectionsPinLaw -/
def k1 : Class := { plain "com/example/offerpatch/offerpatch/core/ClientLimitsWithConnectionsPinLaw" (some 0) with
  accessFlags := 49
  interfaces := #[]
  cf := some (fileOf pool1 33 #[] #[{ accessFlags := 1, nameIndex := 5, descriptorIndex := 6, attributes := #[] }, { accessFlags := 9, nameIndex := 37, descriptorIndex := 38, attributes := #[] }] 49 2 #[] #[])
  fields := #[]
  methods := #[k1m0, k1m1]
  instanceTypes := #[]
  staticTypes := #[]
  resolved := Array.replicate 42 none
  statics := none }

def pool2 : Array CpInfo := pool [(1, .methodref 2 3), (0, .class_ 4), (0, .nameAndType 5 6), (0, u "java/lang/Object"), (0, u "<init>"), (0, u "()V"), (0, .class_ 8), (0, u "java/lang/Record")] 13

def k2c0 : Code := { maxStack := 1, maxLocals := 1, code := jdk_30_method_1_code, exceptionTable := #[], attributes := #[] }
def k2m0 : Method := { name := "<init>", desc := "()V", sig := { parameters := [], returnType := none }, accessFlags := 4, code := some k2c0 }
/-- java/lang/Record -/
def k2 : Class := { plain "java/lang/Record" (some 0) with
  accessFlags := 1057
  interfaces := #[]
  cf := some (fileOf pool2 7 #[] #[{ accessFlags := 4, nameIndex := 5, descriptorIndex := 6, attributes := #[] }] 1057 2 #[] #[])
  fields := #[]
  methods := #[k2m0]
  instanceTypes := #[]
  staticTypes := #[]
  resolved := Array.replicate 22 none
  statics := none }

def pool3 : Array CpInfo := pool [(1, .methodref 2 3), (0, .class_ 4), (0, .nameAndType 5 6), (0, u "java/lang/Record"), (0, u "<init>"), (0, u "()V"), (0, .fieldref 8 9), (0, .class_ 10), (0, .nameAndType 11 12), (0, u "com/example/offerpatch/offerpatch/core/ClientLimits"), (0, u "bodyBytes"), (0, u "J"), (0, .fieldref 8 14), (0, .nameAndType 15 16), (0, u "transferSeconds"), (0, u "I"), (0, .fieldref 8 18), (0, .nameAndType 19 16), (0, u "idleSeconds"), (0, .fieldref 8 21), (0, .nameAndType 22 12), (0, u "heldBytes"), (0, .fieldref 8 24), (0, .nameAndType 25 16), (0, u "connections"), (9, u "()J"), (17, .methodref 8 54), (0, .nameAndType 5 55), (0, u "(JIIJI)V"), (18, u "(I)Lcom/example/offerpatch/offerpatch/core/ClientLimits;"), (1, u "withConnections"), (1, u "()I")] 25

def k3c0 : Code := { maxStack := 3, maxLocals := 8, code := prog_21_method_1_code, exceptionTable := #[], attributes := #[] }
def k3m0 : Method := { name := "<init>", desc := "(JIIJI)V", sig := { parameters := [.long, .int, .int, .long, .int], returnType := none }, accessFlags := 1, code := some k3c0 }
def k3c1 : Code := { maxStack := 9, maxLocals := 2, code := prog_21_method_5_code, exceptionTable := #[], attributes := #[] }
def k3m1 : Method := { name := "withConnections", desc := "(I)Lcom/example/offerpatch/offerpatch/core/ClientLimits;", sig := { parameters := [.int], returnType := some (.object "com/example/offerpatch/offerpatch/core/ClientLimits") }, accessFlags := 1, code := some k3c1 }
def k3c2 : Code := { maxStack := 2, maxLocals := 1, code := prog_21_method_9_code, exceptionTable := #[], attributes := #[] }
def k3m2 : Method := { name := "bodyBytes", desc := "()J", sig := { parameters := [], returnType := some .long }, accessFlags := 1, code := some k3c2 }
def k3c3 : Code := { maxStack := 1, maxLocals := 1, code := prog_21_method_10_code, exceptionTable := #[], attributes := #[] }
def k3m3 : Method := { name := "transferSeconds", desc := "()I", sig := { parameters := [], returnType := some .int }, accessFlags := 1, code := some k3c3 }
def k3c4 : Code := { maxStack := 1, maxLocals := 1, code := prog_21_method_11_code, exceptionTable := #[], attributes := #[] }
def k3m4 : Method := { name := "idleSeconds", desc := "()I", sig := { parameters := [], returnType := some .int }, accessFlags := 1, code := some k3c4 }
def k3c5 : Code := { maxStack := 2, maxLocals := 1, code := prog_21_method_12_code, exceptionTable := #[], attributes := #[] }
def k3m5 : Method := { name := "heldBytes", desc := "()J", sig := { parameters := [], returnType := some .long }, accessFlags := 1, code := some k3c5 }
def k3c6 : Code := { maxStack := 1, maxLocals := 1, code := prog_21_method_13_code, exceptionTable := #[], attributes := #[] }
def k3m6 : Method := { name := "connections", desc := "()I", sig := { parameters := [], returnType := some .int }, accessFlags := 1, code := some k3c6 }
/-- com/example/offerpatch/offerpatch/core/ClientLimits -/
def k3 : Class := { plain "com/example/offerpatch/offerpatch/core/ClientLimits" (some 2) with
  accessFlags := 49
  interfaces := #[]
  cf := some (fileOf pool3 8 #[] #[{ accessFlags := 1, nameIndex := 5, descriptorIndex := 55, attributes := #[] }, { accessFlags := 1, nameIndex := 76, descriptorIndex := 74, attributes := #[] }, { accessFlags := 1, nameIndex := 11, descriptorIndex := 35, attributes := #[] }, { accessFlags := 1, nameIndex := 15, descriptorIndex := 78, attributes := #[] }, { accessFlags := 1, nameIndex := 19, descriptorIndex := 78, attributes := #[] }, { accessFlags := 1, nameIndex := 22, descriptorIndex := 35, attributes := #[] }, { accessFlags := 1, nameIndex := 25, descriptorIndex := 78, attributes := #[] }] 49 2 #[] #[{ accessFlags := 18, nameIndex := 11, descriptorIndex := 12, attributes := #[] }, { accessFlags := 18, nameIndex := 15, descriptorIndex := 16, attributes := #[] }, { accessFlags := 18, nameIndex := 19, descriptorIndex := 16, attributes := #[] }, { accessFlags := 18, nameIndex := 22, descriptorIndex := 12, attributes := #[] }, { accessFlags := 18, nameIndex := 25, descriptorIndex := 16, attributes := #[] }])
  fields := #[{ name := "bodyBytes", type := .long, accessFlags := 18, slot := 0, constantValue := 0 }, { name := "transferSeconds", type := .int, accessFlags := 18, slot := 1, constantValue := 0 }, { name := "idleSeconds", type := .int, accessFlags := 18, slot := 2, constantValue := 0 }, { name := "heldBytes", type := .long, accessFlags := 18, slot := 3, constantValue := 0 }, { name := "connections", type := .int, accessFlags := 18, slot := 4, constantValue := 0 }]
  methods := #[k3m0, k3m1, k3m2, k3m3, k3m4, k3m5, k3m6]
  instanceTypes := #[.long, .int, .int, .long, .int]
  staticTypes := #[]
  resolved := Array.replicate 104 none
  statics := none }

def pool4 : Array CpInfo := pool [(1, u "java/lang/Cloneable"), (0, .class_ 1), (0, u "java/lang/Object"), (0, .class_ 3)] 3

/-- java/lang/Cloneable -/
def k4 : Class := { plain "java/lang/Cloneable" (some 0) with
  accessFlags := 1537
  interfaces := #[]
  cf := some (fileOf pool4 2 #[] #[] 1537 4 #[] #[])
  fields := #[]
  methods := #[]
  instanceTypes := #[]
  staticTypes := #[]
  resolved := Array.replicate 8 none
  statics := none }

def pool5 : Array CpInfo := pool [(1, u "java/io/Serializable"), (0, .class_ 1), (0, u "java/lang/Object"), (0, .class_ 3)] 3

/-- java/io/Serializable -/
def k5 : Class := { plain "java/io/Serializable" (some 0) with
  accessFlags := 1537
  interfaces := #[]
  cf := some (fileOf pool5 2 #[] #[] 1537 4 #[] #[])
  fields := #[]
  methods := #[]
  instanceTypes := #[]
  staticTypes := #[]
  resolved := Array.replicate 8 none
  statics := none }

/-- the primitive byte -/
def k6 : Class := { plain "byte" none with kind := .primitive 'B', accessFlags := 0x411 }
/-- [B -/
def k7 : Class := { plain "[B" (some 0) with kind := .array 6 .byte, interfaces := #[4, 5], accessFlags := 1041 }

/-- the primitive int -/
def k8 : Class := { plain "int" none with kind := .primitive 'I', accessFlags := 0x411 }
/-- [I -/
def k9 : Class := { plain "[I" (some 0) with kind := .array 8 .int, interfaces := #[4, 5], accessFlags := 1041 }

def heap : Heap := #[]
def classes : Array Class := #[k0, k1, k2, k3, k4, k5, k6, k7, k8, k9]
def interned : List (Array UInt16 × Addr) := []
def slotsUsed : Nat := 0
def theMethod : MethodId := ⟨1, 1⟩
def args0 : Array Value := #[.long 7, .int 5, .int 5, .long 7, .int 5, .int 5]
def aboutOver (below : List Frame) : State where
  vm := { classes := classes, interned := interned.toArray }
  heap := heap
  slotsUsed := slotsUsed
  threads := #[{ frames := .invoking theMethod args0 :: below }]
def below0 : List Frame := [.native { method := ⟨0, 0⟩, args := #[] }]
def about1 : State := aboutOver below0
def p0 : Program := .bare "" "" ""
def e0 : Env := launch0.env 0 0 0
theorem w_frames : about1.frames = Frame.invoking theMethod args0 :: below0 := rfl
set_option maxRecDepth 65536 in
theorem w_args : argsFit about1.vm theMethod args0 = true := by decide +kernel
set_option maxRecDepth 65536 in
theorem w_heap : heapFits about1 = true := by decide +kernel
set_option maxRecDepth 65536 in
theorem w_runnable : about1.curStatus? = some .runnable := by decide +kernel
set_option maxRecDepth 65536 in
theorem w_alone : about1.alone = true := by decide +kernel
set_option maxRecDepth 65536 in
theorem w_named : about1.methodNamed? x = some theMethod := by decide +kernel
set_option maxRecDepth 65536 in
theorem w_hears : about1.hears theMethod below0 = true := by decide +kernel
set_option maxRecDepth 65536 in
theorem w_ripe : about1.ripe theMethod args0 below0 = true := by decide +kernel
theorem w_running : about1.status = .running := rfl
set_option maxRecDepth 65536 in
theorem w_room : about1.hasRoom e0.platform room_1 = true :=
  launch0.hasRoom_least _ room_1 (by decide +kernel) (by decide +kernel) (by decide +kernel) (by decide +kernel) (by decide +kernel) (by decide +kernel)
theorem allAtoms_all (ts : List Jvm.Cond) (a : Array Jvm.Value) (st : Jvm.State) : (allAtoms ts).before a st = ts.all (fun c => c.before a st) := by
  induction ts with
  | nil => rfl
  | cons c t ih =>
    show (Jvm.Cond.and c (allAtoms t)).before a st = _
    rw [Jvm.Cond.before_and, ih, List.all_cons]
def words1 : List Jvm.Cond := Jvm.Cond.code x code maxLocals ret :: tables_1
/-- a 'code' word, met by the world's own term for the bytes: nothing is compared byte by byte -/
theorem code_word {y : MethodName} {bytes : ByteArray} {mx : Nat} {rt : Option FieldType} {a : Array Value} {s : State} {m : MethodId} {meth : Method} {c : Code} (h1 : s.methodNamed? y = some m) (h2 : s.vm.method? m = some meth) (h3 : meth.code = some c) (h4 : c.code = bytes)
    (h5 : (c.maxLocals == mx && c.exceptionTable.isEmpty && decide (c.maxStack ≤ mostOperands) && decide (meth.sig.returnType = rt) && !meth.locks && decide (parseMethodDescriptor y.desc = some meth.sig)) = true) : (Jvm.Cond.code y bytes mx rt).before a s = true := by
  simp only [Bool.and_eq_true, beq_iff_eq, Bool.not_eq_true', decide_eq_true_eq] at h5
  obtain ⟨⟨⟨⟨⟨g1, g2⟩, g3⟩, g4⟩, g5⟩, g6⟩ := h5
  simp [Cond.before, Cond.holds, Cond.value, h1, h2, h3, h4, g1, g2, g3, g4, g5, g6]
def isCode : Jvm.Cond → Bool
  | .code _ _ _ _ => true
  | _ => false
theorem all_split {L : List Jvm.Cond} {P : Jvm.Cond → Bool} (h1 : L.all (fun c => isCode c || P c) = true) (h2 : ∀ c ∈ L.filter isCode, P c = true) : L.all P = true := by
  refine List.all_eq_true.mpr fun c hc => ?_
  have h := List.all_eq_true.mp h1 c hc
  rcases Bool.eq_false_or_eq_true (isCode c) with hi | hi
  · exact h2 c (List.mem_filter.mpr ⟨hc, hi⟩)
  · simpa [hi] using h
set_option maxRecDepth 65536 in
theorem w_c0 : (Jvm.Cond.code x code maxLocals ret).before args0 about1 = true := code_word (m := ⟨1, 1⟩) (meth := k1m1) (c := k1c1) (by decide +kernel) rfl rfl rfl (by decide +kernel)
set_option maxRecDepth 65536 in
theorem w_c1 : (Jvm.Cond.code ({ cls := "com/example/offerpatch/offerpatch/core/ClientLimits", name := "<init>", desc := "(JIIJI)V" } : Jvm.MethodName) prog_21_method_1_code (8 : Nat) (Option.none : Option Jvm.ClassFile.FieldType)).before args0 about1 = true := code_word (m := ⟨3, 0⟩) (meth := k3m0) (c := k3c0) (by decide +kernel) rfl rfl rfl (by decide +kernel)
set_option maxRecDepth 65536 in
theorem w_c2 : (Jvm.Cond.code ({ cls := "java/lang/Record", name := "<init>", desc := "()V" } : Jvm.MethodName) jdk_30_method_1_code (1 : Nat) (Option.none : Option Jvm.ClassFile.FieldType)).before args0 about1 = true := code_word (m := ⟨2, 0⟩) (meth := k2m0) (c := k2c0) (by decide +kernel) rfl rfl rfl (by decide +kernel)
set_option maxRecDepth 65536 in
theorem w_c3 : (Jvm.Cond.code ({ cls := "java/lang/Object", name := "<init>", desc := "()V" } : Jvm.MethodName) object_method_1_code (1 : Nat) (Option.none : Option Jvm.ClassFile.FieldType)).before args0 about1 = true := code_word (m := ⟨0, 0⟩) (meth := k0m0) (c := k0c0) (by decide +kernel) rfl rfl rfl (by decide +kernel)
set_option maxRecDepth 65536 in
theorem w_c4 : (Jvm.Cond.code ({ cls := "com/example/offerpatch/offerpatch/core/ClientLimits", name := "withConnections", desc := "(I)Lcom/example/offerpatch/offerpatch/core/ClientLimits;" } : Jvm.MethodName) prog_21_method_5_code (2 : Nat) (Option.some (Jvm.ClassFile.FieldType.object "com/example/offerpatch/offerpatch/core/ClientLimits"))).before args0 about1 = true := code_word (m := ⟨3, 1⟩) (meth := k3m1) (c := k3c1) (by decide +kernel) rfl rfl rfl (by decide +kernel)
set_option maxRecDepth 65536 in
theorem w_c5 : (Jvm.Cond.code ({ cls := "com/example/offerpatch/offerpatch/core/ClientLimits", name := "connections", desc := "()I" } : Jvm.MethodName) prog_21_method_13_code (1 : Nat) (Option.some Jvm.ClassFile.FieldType.int)).before args0 about1 = true := code_word (m := ⟨3, 6⟩) (meth := k3m6) (c := k3c6) (by decide +kernel) rfl rfl rfl (by decide +kernel)
set_option maxRecDepth 65536 in
theorem w_c6 : (Jvm.Cond.code ({ cls := "com/example/offerpatch/offerpatch/core/ClientLimits", name := "bodyBytes", desc := "()J" } : Jvm.MethodName) prog_21_method_9_code (1 : Nat) (Option.some Jvm.ClassFile.FieldType.long)).before args0 about1 = true := code_word (m := ⟨3, 2⟩) (meth := k3m2) (c := k3c2) (by decide +kernel) rfl rfl rfl (by decide +kernel)
set_option maxRecDepth 65536 in
theorem w_c7 : (Jvm.Cond.code ({ cls := "com/example/offerpatch/offerpatch/core/ClientLimits", name := "transferSeconds", desc := "()I" } : Jvm.MethodName) prog_21_method_10_code (1 : Nat) (Option.some Jvm.ClassFile.FieldType.int)).before args0 about1 = true := code_word (m := ⟨3, 3⟩) (meth := k3m3) (c := k3c3) (by decide +kernel) rfl rfl rfl (by decide +kernel)
set_option maxRecDepth 65536 in
theorem w_c8 : (Jvm.Cond.code ({ cls := "com/example/offerpatch/offerpatch/core/ClientLimits", name := "idleSeconds", desc := "()I" } : Jvm.MethodName) prog_21_method_11_code (1 : Nat) (Option.some Jvm.ClassFile.FieldType.int)).before args0 about1 = true := code_word (m := ⟨3, 4⟩) (meth := k3m4) (c := k3c4) (by decide +kernel) rfl rfl rfl (by decide +kernel)
set_option maxRecDepth 65536 in
theorem w_c9 : (Jvm.Cond.code ({ cls := "com/example/offerpatch/offerpatch/core/ClientLimits", name := "heldBytes", desc := "()J" } : Jvm.MethodName) prog_21_method_12_code (1 : Nat) (Option.some Jvm.ClassFile.FieldType.long)).before args0 about1 = true := code_word (m := ⟨3, 5⟩) (meth := k3m5) (c := k3c5) (by decide +kernel) rfl rfl rfl (by decide +kernel)
def codes1 : List Jvm.Cond := [Jvm.Cond.code x code maxLocals ret, Jvm.Cond.code ({ cls := "com/example/offerpatch/offerpatch/core/ClientLimits", name := "<init>", desc := "(JIIJI)V" } : Jvm.MethodName) prog_21_method_1_code (8 : Nat) (Option.none : Option Jvm.ClassFile.FieldType), Jvm.Cond.code ({ cls := "java/lang/Record", name := "<init>", desc := "()V" } : Jvm.MethodName) jdk_30_method_1_code (1 : Nat) (Option.none : Option Jvm.ClassFile.FieldType), Jvm.Cond.code ({ cls := "java/lang/Object", name := "<init>", desc := "()V" } : Jvm.MethodName) object_method_1_code (1 : Nat) (Option.none : Option Jvm.ClassFile.FieldType), Jvm.Cond.code ({ cls := "com/example/offerpatch/offerpatch/core/ClientLimits", name := "withConnections", desc := "(I)Lcom/example/offerpatch/offerpatch/core/ClientLimits;" } : Jvm.MethodName) prog_21_method_5_code (2 : Nat) (Option.some (Jvm.ClassFile.FieldType.object "com/example/offerpatch/offerpatch/core/ClientLimits")), Jvm.Cond.code ({ cls := "com/example/offerpatch/offerpatch/core/ClientLimits", name := "connections", desc := "()I" } : Jvm.MethodName) prog_21_method_13_code (1 : Nat) (Option.some Jvm.ClassFile.FieldType.int), Jvm.Cond.code ({ cls := "com/example/offerpatch/offerpatch/core/ClientLimits", name := "bodyBytes", desc := "()J" } : Jvm.MethodName) prog_21_method_9_code (1 : Nat) (Option.some Jvm.ClassFile.FieldType.long), Jvm.Cond.code ({ cls := "com/example/offerpatch/offerpatch/core/ClientLimits", name := "transferSeconds", desc := "()I" } : Jvm.MethodName) prog_21_method_10_code (1 : Nat) (Option.some Jvm.ClassFile.FieldType.int), Jvm.Cond.code ({ cls := "com/example/offerpatch/offerpatch/core/ClientLimits", name := "idleSeconds", desc := "()I" } : Jvm.MethodName) prog_21_method_11_code (1 : Nat) (Option.some Jvm.ClassFile.FieldType.int), Jvm.Cond.code ({ cls := "com/example/offerpatch/offerpatch/core/ClientLimits", name := "heldBytes", desc := "()J" } : Jvm.MethodName) prog_21_method_12_code (1 : Nat) (Option.some Jvm.ClassFile.FieldType.long)]
set_option maxRecDepth 65536 in
theorem codes_eq : words1.filter isCode = codes1 := rfl
theorem w_codes : ∀ c ∈ words1.filter isCode, c.before args0 about1 = true := by
  rw [codes_eq]
  intro c hc
  simp only [codes1, List.mem_cons, List.not_mem_nil, or_false] at hc
  rcases hc with rfl | rfl | rfl | rfl | rfl | rfl | rfl | rfl | rfl | rfl
  · exact w_c0
  · exact w_c1
  · exact w_c2
  · exact w_c3
  · exact w_c4
  · exact w_c5
  · exact w_c6
  · exact w_c7
  · exact w_c8
  · exact w_c9
set_option maxRecDepth 65536 in
theorem w_t1 : (words1.take 24).all (fun c => isCode c || c.before args0 about1) = true := by decide +kernel
set_option maxRecDepth 65536 in
theorem w_t2 : ((words1.drop 24).take 24).all (fun c => isCode c || c.before args0 about1) = true := by decide +kernel
set_option maxRecDepth 65536 in
theorem w_t3 : ((words1.drop 24).drop 24).all (fun c => isCode c || c.before args0 about1) = true := by decide +kernel
theorem w_tables : (allAtoms (Jvm.Cond.code x code maxLocals ret :: tables_1)).before args0 about1 = true := by
  rw [allAtoms_all]
  show words1.all (fun c => c.before args0 about1) = true
  refine all_split ?_ w_codes
  rw [← List.take_append_drop 24 words1, List.all_append, w_t1, ← List.take_append_drop 24 (words1.drop 24), List.all_append, w_t2, w_t3]
  rfl
set_option maxRecDepth 65536 in
theorem w_case : (Jvm.Cond.and given_1 narrow_1).before args0 about1 = true := by decide +kernel
theorem w_applies : (headSpec (Jvm.Cond.code x code maxLocals ret :: tables_1) room_1).applies x e0.platform about1 = true :=
  (Spec.applies_iff w_frames).mpr ⟨w_running, w_runnable, w_alone, w_named, w_hears, w_ripe, w_room, w_tables⟩
theorem atStart : AtStart classFile x code maxLocals ret World_1 tables_1 room_1 Calls_1 rest_1 Pre_1 launch0 p0 e0 about1 theMethod args0 below0 :=
  ⟨lists_1, trivial, launch0.admits_env _ _ _, launch0.least_env, fairChoices_fair.cas, fairChoices_fair.clock, w_frames, w_args, w_heap, w_applies, trivial, trivial, w_case⟩
end start1
theorem witness_1 : WitnessClaimed_1 := ⟨start1.p0, start1.e0, start1.about1, start1.theMethod, start1.args0, start1.below0, start1.atStart⟩
end Jvm.Pilot.@@N@@
