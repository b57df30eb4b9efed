import JvmDerived
import JvmDerived.Pilot.@@N@@Statement
import JvmDerived.Pilot.@@N@@Code
set_option linter.unusedVariables false
set_option linter.unusedSimpArgs false
namespace Jvm.RoadKit
open Sem ClassFile Op Lib Jvm.Stand Jvm.Free Jvm.LawKit
section New
variable {p : Program} {l : Launch} {e : Env} {R : Room} {s : State} {m : MethodId} {args : Array Value} {below : List Frame} {meth : Method} {c : Code} {T : State} {locs : List Loc} {cells slots : Nat}
theorem retI (X : Stand p l e R s m args below meth c T locs cells slots) (hx : p.tables.exec = Jvm.exec) {pc : Nat} {Ls : Array Slot} {z : Int32} {rest : List Value} (hret : meth.sig.returnType = some .int) (hd : decode c.code pc = .ok (.ireturn, 1)) {fs : List Frame}
    (hl : ∀ (f : JFrame) (acts : List Action), f.method = m → f.locked = none → f.entered = [] → (doReturn e (T.setTop f) acts (some (.int z))).1 = T.setFrames fs) : Steps p.tables e below (T.setTop (mkF m pc Ls (.int z :: rest))) (T.setFrames fs) := by
  have hm' : T.vm.method? m = some meth := X.method'
  have hn : narrow .int (.int z) = .int z := rfl
  show Steps p.tables e below (T.setTop { method := m, pc := pc, locals := Ls, stack := _ :: rest, locked := none }) _
  jvm_step X.here [X.here.top, hx, hd, hm', hret, hn]
  first | (intro acts; rw [hl _ acts rfl rfl rfl]) | rw [hl _ _ rfl rfl rfl]
  exact Steps.refl _
end New
end Jvm.RoadKit
namespace Jvm.Pilot.@@N@@
open Jvm Jvm.ClassFile Sem Op Lib Jvm.Free Jvm.Stand Jvm.LawKit Jvm.RoadKit Bundle Jvm.Pilot.@@N@@.Jvm.D
section OwnKit
variable {p : Program} {l : Launch} {e : Env} {R : Room} {s : State} {m : MethodId} {args : Array Value} {below : List Frame} {meth : Method} {c : Code} {T : State} {locs : List Loc} {cells slots : Nat}
def own_Rch (tb : Tables) (e : Env) (below : List Frame) (S : State) (Φ : Outcome → State → Prop) : Prop := ∃ s₂ o, Steps tb e below S s₂ ∧ s₂.status = .running ∧ Ended s₂ below o ∧ Φ o s₂
theorem own_via {tb : Tables} {S S' : State} {Φ : Outcome → State → Prop} (h : ∀ t, Steps tb e below S' t → Steps tb e below S t) (k : own_Rch tb e below S' Φ) : own_Rch tb e below S Φ := by
  obtain ⟨s₂, o, k1, k2⟩ := k
  exact ⟨s₂, o, h _ k1, k2⟩
abbrev own_End (s : State) (Q : Option Value → Heap → List Loc → Prop) (k n : Nat) : Outcome → State → Prop := fun o U' => ∃ v L, o = .returned v ∧ Q v U'.heap L ∧ FrameEnd s o U' L k n
theorem own_fin (X : Stand p l e R s m args below meth c T locs cells slots) (hx : p.tables.exec = Jvm.exec) {pc : Nat} {Ls : Array Slot} {w : Value} {t : FieldType} {i : Instr} {rest : List Value} (hret : meth.sig.returnType = some t) (hlk : meth.locks = false) (hnw : narrow t w = w)
    (hi : (i = .ireturn ∧ (t = .int ∨ t = .boolean ∨ t = .byte ∨ t = .char ∨ t = .short) ∧ ∃ z, w = .int z) ∨ (i = .lreturn ∧ t = .long ∧ ∃ z, w = .long z) ∨ (i = .dreturn ∧ t = .double ∧ ∃ z, w = .double z) ∨ (i = .freturn ∧ t = .float ∧ ∃ z, w = .float z) ∨ (i = .areturn ∧ t.isReference = true ∧ w.isRef = true))
    (hd : decode c.code pc = .ok (i, 1)) {Q : Option Value → Heap → List Loc → Prop} {k n : Nat} (hk : cells ≤ k) (hn : slots ≤ n) (hQ : Q (some w) T.heap locs) : own_Rch p.tables e below (T.setTop (mkF m pc Ls (w :: rest))) (own_End s Q k n) := by
  obtain ⟨fs, hr, hrun, hended, hW, hsame⟩ := X.leave (v := some w) (fun h => by rw [hret] at h; cases h) hlk
  exact ⟨_, _, retOut X hx hret hnw hi hd hr, hrun, hended, _, _, rfl, hQ, ⟨_, rfl⟩, hW, hsame.mono hk hn⟩
theorem own_fin0 (X : Stand p l e R s m args below meth c T locs cells slots) (hx : p.tables.exec = Jvm.exec) {pc : Nat} {Ls : Array Slot} (hret : meth.sig.returnType = none) (hlk : meth.locks = false)
    (hd : decode c.code pc = .ok (.return_, 1)) {Q : Option Value → Heap → List Loc → Prop} {k n : Nat} (hk : cells ≤ k) (hn : slots ≤ n) (hQ : Q none T.heap locs) : own_Rch p.tables e below (T.setTop (mkF m pc Ls [])) (own_End s Q k n) := by
  obtain ⟨fs, hr, hrun, hended, hW, hsame⟩ := X.leave (v := none) (fun _ => rfl) hlk
  exact ⟨_, _, X.returnOut hx hret hd hr, hrun, hended, _, _, rfl, hQ, ⟨_, rfl⟩, hW, hsame.mono hk hn⟩
theorem own_lrem {g : JFrame} {target : State} (X : Stand p l e R s m args below meth c T locs cells slots) (hx : p.tables.exec = Jvm.exec) (hg : g.method = m) {x y : Int64} {rest : List Value} (hd : decode c.code g.pc = .ok (.lrem, 1)) (hs : g.stack = .long y :: .long x :: rest) (hy : y ≠ 0)
    (hr : Steps p.tables e below (T.setTop { g with pc := g.pc + 1, stack := .long (x % y) :: rest }) target) : Steps p.tables e below (T.setTop g) target := by
  have q : x - x / y * y = x % y := lrem_mod x y
  exact XS.lrem X.here hx hg hd hs hy (by rw [q]; exact hr)
end OwnKit
section OwnKitW
variable {p : Program} {l : Launch} {e : Env} {R : Room} {s : State} {m : MethodId} {args : Array Value} {below : List Frame} {meth : Method} {c : Code} {T : State} {locs : List Loc} {cells slots : Nat}
abbrev own_EndW (s : State) (Q : Option Value → Heap → List Loc → Prop) (k n : Nat) : Outcome → State → Prop := fun o U' => ∃ v L, o = .returned v ∧ Q v U'.heap L ∧ ReturnedEndW s o U' L k n
theorem own_S0 (s : State) (n : Nat) : s.Since s.vm n := State.WarmedH.since (State.WarmedH.refl s) n
theorem own_finW {vm₁ : Vm} (X : Stand p l e R (s.setVm vm₁) m args below meth c T locs cells slots) {k0 : Nat} (hS : s.Since vm₁ k0) (hk0 : k0 ≤ T.heap.size) (hx : p.tables.exec = Jvm.exec) {pc : Nat} {Ls : Array Slot} {w : Value} {t : FieldType} {i : Instr} {rest : List Value} (hret : meth.sig.returnType = some t) (hlk : meth.locks = false) (hnw : narrow t w = w)
    (hi : (i = .ireturn ∧ (t = .int ∨ t = .boolean ∨ t = .byte ∨ t = .char ∨ t = .short) ∧ ∃ z, w = .int z) ∨ (i = .lreturn ∧ t = .long ∧ ∃ z, w = .long z) ∨ (i = .dreturn ∧ t = .double ∧ ∃ z, w = .double z) ∨ (i = .freturn ∧ t = .float ∧ ∃ z, w = .float z) ∨ (i = .areturn ∧ t.isReference = true ∧ w.isRef = true))
    (hd : decode c.code pc = .ok (i, 1)) {Q : Option Value → Heap → List Loc → Prop} {k n : Nat} (hk : cells ≤ k) (hn : slots ≤ n) (hQ : Q (some w) T.heap locs) : own_Rch p.tables e below (T.setTop (mkF m pc Ls (w :: rest))) (own_EndW s Q k n) := by
  obtain ⟨fs, hr, hrun, hended, hW⟩ := X.leaveW hS hk0 (v := some w) (fun h => by rw [hret] at h; cases h) hlk
  exact ⟨_, _, retOut X hx hret hnw hi hd hr, hrun, hended, _, _, rfl, hQ, hW.1, hW.2.1, hW.2.2.1, hW.2.2.2.mono hk hn⟩
theorem own_fin0W {vm₁ : Vm} (X : Stand p l e R (s.setVm vm₁) m args below meth c T locs cells slots) {k0 : Nat} (hS : s.Since vm₁ k0) (hk0 : k0 ≤ T.heap.size) (hx : p.tables.exec = Jvm.exec) {pc : Nat} {Ls : Array Slot} (hret : meth.sig.returnType = none) (hlk : meth.locks = false)
    (hd : decode c.code pc = .ok (.return_, 1)) {Q : Option Value → Heap → List Loc → Prop} {k n : Nat} (hk : cells ≤ k) (hn : slots ≤ n) (hQ : Q none T.heap locs) : own_Rch p.tables e below (T.setTop (mkF m pc Ls [])) (own_EndW s Q k n) := by
  obtain ⟨fs, hr, hrun, hended, hW⟩ := X.leaveW hS hk0 (v := none) (fun _ => rfl) hlk
  exact ⟨_, _, X.returnOut hx hret hd hr, hrun, hended, _, _, rfl, hQ, hW.1, hW.2.1, hW.2.2.1, hW.2.2.2.mono hk hn⟩
abbrev own_FE (s : State) (o : Outcome) (t : State) (L : List Loc) (k n : Nat) : Prop := ReturnedEndW s o t L k n
theorem own_FE_of {o : Outcome} {t : State} {L L' : List Loc} {k n : Nat} (h : ReturnedEndW s o t L k n) (N : Fr s.heap.size L) : own_FE s o t L' k n := ⟨h.1, h.2.1, h.2.2.1, h.2.2.2.sift fun y hy => Or.inr (N y hy)⟩
end OwnKitW
def own_Pure (r : Value) (h0 : Heap) (n0 : Nat) (v : Option Value) (h : Heap) (L : List Loc) : Prop := v = some r ∧ Fr n0 L ∧ h = h0
theorem own_wS {Z : State} {a0 : Array Value} (hw : ∀ d ∈ tables_1, d.before a0 Z = true) : ∀ a ∈ Bundle.stringAtoms, a.before a0 Z = true := by
  intro a ha
  simp only [Bundle.stringAtoms, List.mem_cons, List.not_mem_nil, or_false] at ha
  rcases ha with rfl | rfl | rfl | rfl | rfl | rfl | rfl
  · exact hw _ (List.mem_of_getElem? (i := 19) rfl)
  · exact hw _ (List.mem_of_getElem? (i := 20) rfl)
  · exact hw _ (List.mem_of_getElem? (i := 21) rfl)
  · exact hw _ (List.mem_of_getElem? (i := 22) rfl)
  · exact hw _ (List.mem_of_getElem? (i := 23) rfl)
  · exact hw _ (List.mem_of_getElem? (i := 24) rfl)
  · exact hw _ (List.mem_of_getElem? (i := 25) rfl)
def own_None (h0 : Heap) (n0 : Nat) (v : Option Value) (h : Heap) (L : List Loc) : Prop := v = none ∧ Fr n0 L ∧ h = h0
theorem own_mvMN {Z s : State} {a0 args : Array Value} {own host : String} {index : Nat} {y : MethodName} (hZ : Z.Warmed39 s.vm) (w : (Jvm.Cond.methodLinkNest own index y host).before a0 Z = true) : (Jvm.Cond.methodLinkNest own index y host).before args s = true := (Cond.methodLinkNest_wide hZ w :)
def own_Bd (Z : State) (h : Heap) (b rt nd pm : Addr) : Prop := Exa Z h b "org/rolepath/model/Hierarchy$Builder" ∧ Fld Z h b "org/rolepath/model/Hierarchy$Builder" "root" "Lorg/rolepath/model/Node;" (.ref nd) ∧ Fld Z h b "org/rolepath/model/Hierarchy$Builder" "current" "Lorg/rolepath/model/Node;" (.ref nd) ∧ Fld Z h b "org/rolepath/model/Hierarchy$Builder" "rootType" "Lorg/rolepath/model/RootType;" (.ref rt) ∧ Fld Z h b "org/rolepath/model/Hierarchy$Builder" "properties" "Lorg/rolepath/model/PropertyMap$Builder;" (.ref pm) ∧ Exa Z h nd "org/rolepath/model/Node" ∧ Exa Z h pm "org/rolepath/model/PropertyMap$Builder" ∧ Fld Z h pm "org/rolepath/model/PropertyMap$Builder" "size" "I" (.int 0)
theorem ef_AM (m : MethodId) (x0 : Addr) : entryFrame m #[(.ref x0)] 1 = mkF m 0 #[.val (.ref x0)] [] := by first | (simp [entryFrame, mkF, argsToLocals, Value.category]; done) | rfl
theorem pn_java_util_AbstractMap : plainName "java/util/AbstractMap" = true := by first | (simp [plainName, overriddenIn]; done) | decide +kernel
theorem d7_0 : decode jdk_71_method_1_code 0 = .ok (.aload_n 0, 1) := by decide +kernel
theorem d7_1 : decode jdk_71_method_1_code 1 = .ok (.invokespecial 1, 3) := by decide +kernel
theorem d7_4 : decode jdk_71_method_1_code 4 = .ok (.return_, 1) := by decide +kernel
set_option maxRecDepth 65536 in
set_option maxHeartbeats 40000000 in
theorem rmAM (l : Launch) (Z : State) (a0 : Array Value) (hw : ∀ d ∈ tables_1, d.before a0 Z = true) (ws : List Jvm.Cond) (a1 : Addr) (h0 : Heap) (n0 : Nat) :
    MetFree l (⟨"java/util/AbstractMap", "<init>", "()V"⟩ : MethodName) (head1 (Jvm.Cond.code (⟨"java/util/AbstractMap", "<init>", "()V"⟩ : MethodName) jdk_71_method_1_code 1 none :: ws) ({ frames := 1, cells := 0, slots := 0, locals := 12 } : Room)) (fun a U => a = #[(.ref a1)] ∧ Z.Warmed39 U.vm ∧ U.heap = h0) (fun _ _ _ _ _ => True) (fun _ U o U' => ∃ v L, o = .returned v ∧ own_None h0 n0 v U'.heap L ∧ FrameEnd U o U' L ({ frames := 1, cells := 0, slots := 0, locals := 12 } : Room).cells ({ frames := 1, cells := 0, slots := 0, locals := 12 } : Room).slots) := by
  refine MetFree.of_bodySF (plainFor_of_name pn_java_util_AbstractMap) hisR ?_
  intro p e s m args below meth c s₁ Bd hml0 hP hK
  obtain ⟨rfl, hZ, hh⟩ := hP
  have hx := Bd.exec
  have hby := Bd.bytes
  have hml : c.maxLocals = 1 := hml0
  have hown : s.vm.findClass "java/util/AbstractMap" = some m.cls := findClass_of_methodNamed Bd.named
  have hnm := (name_of_methodNamed Bd.named Bd.method).1
  have X0 : Stand p l e ({ frames := 1, cells := 0, slots := 0, locals := 12 } : Room) s m #[(.ref a1)] below meth c s₁ [] 0 0 := Stand.of_body Bd
  have e0 : s₁.heap = h0 := by rw [← hh, Bd.state]; rfl
  have N0 := Fr.nil n0
  show own_Rch p.tables e below (s₁.setTop (entryFrame m #[(.ref a1)] 1)) (own_End s (own_None h0 n0) ({ frames := 1, cells := 0, slots := 0, locals := 12 } : Room).cells ({ frames := 1, cells := 0, slots := 0, locals := 12 } : Room).slots)
  refine own_via (fun t k => castTop (ef_AM m a1) k) ?_
  show own_Rch p.tables e below (s₁.setTop (mkF m 0 #[.val (.ref a1)] [])) _
  refine own_via (fun t k => XS.aloadN X0.here hx rfl (hb hby d7_0) rfl rfl k) ?_
  show own_Rch p.tables e below (s₁.setTop (mkF m 1 #[.val (.ref a1)] [(.ref a1)])) _
  obtain ⟨T1, X1, e1, st1⟩ := initO X0 hx hZ hown (hw _ (List.mem_of_getElem? (i := 73) rfl)) (hw _ (List.mem_of_getElem? (i := 10) rfl)) (hw _ (List.mem_of_getElem? (i := 11) rfl)) e0 (g := (mkF m 1 #[.val (.ref a1)] [(.ref a1)])) rfl (by rw [hml]; rfl) rfl (hb hby d7_1) (by decide) (W := 0) (by show 2 * 0 + _ ≤ _; exact Nat.le_of_eq rfl) (by decide)
  refine own_via st1 ?_
  show own_Rch p.tables e below (T1.setTop (mkF m 4 #[.val (.ref a1)] [])) _
  exact own_fin0 X1 hx Bd.returns Bd.notSynchronized (hb hby d7_4) (by decide) (by decide) ⟨rfl, N0, e1⟩
def QK (a1 : Addr) (h0 : Heap) (n0 : Nat) (v : Option Value) (h : Heap) (L : List Loc) : Prop := v = none ∧ Fr n0 L ∧ Keep h0 h [a1]
theorem ef_HM (m : MethodId) (x0 : Addr) : entryFrame m #[(.ref x0)] 1 = mkF m 0 #[.val (.ref x0)] [] := by first | (simp [entryFrame, mkF, argsToLocals, Value.category]; done) | rfl
theorem pn_java_util_HashMap : plainName "java/util/HashMap" = true := by first | (simp [plainName, overriddenIn]; done) | decide +kernel
theorem d6_0 : decode jdk_69_method_7_code 0 = .ok (.aload_n 0, 1) := by decide +kernel
theorem d6_1 : decode jdk_69_method_7_code 1 = .ok (.invokespecial 43, 3) := by decide +kernel
theorem pd_0 : parseMethodDescriptor "()V" = some ⟨[], none⟩ := by decide +kernel
theorem d6_4 : decode jdk_69_method_7_code 4 = .ok (.aload_n 0, 1) := by decide +kernel
theorem d6_5 : decode jdk_69_method_7_code 5 = .ok (.ldc 92, 2) := by decide +kernel
theorem d6_7 : decode jdk_69_method_7_code 7 = .ok (.putfield 81, 3) := by decide +kernel
theorem d6_10 : decode jdk_69_method_7_code 10 = .ok (.return_, 1) := by decide +kernel
set_option maxRecDepth 65536 in
set_option maxHeartbeats 40000000 in
theorem rmHM (l : Launch) (Z : State) (a0 : Array Value) (hw : ∀ d ∈ tables_1, d.before a0 Z = true) (ws : List Jvm.Cond) (a1 : Addr) (h0 : Heap) (n0 : Nat) (g_a1 : n0 ≤ a1) (E_a1 : Exa Z h0 a1 "java/util/HashMap") (F_loadFactor : Fld Z h0 a1 "java/util/HashMap" "loadFactor" "F" (.float 0)) :
    MetFree l (⟨"java/util/HashMap", "<init>", "()V"⟩ : MethodName) (head1 (Jvm.Cond.code (⟨"java/util/HashMap", "<init>", "()V"⟩ : MethodName) jdk_69_method_7_code 1 none :: ws) ({ frames := 2, cells := 0, slots := 0, locals := 24 } : Room)) (fun a U => a = #[(.ref a1)] ∧ Z.Warmed39 U.vm ∧ U.heap = h0) (fun _ _ _ _ _ => True) (fun _ U o U' => ∃ v L, o = .returned v ∧ QK a1 h0 n0 v U'.heap L ∧ FrameEnd U o U' L ({ frames := 2, cells := 0, slots := 0, locals := 24 } : Room).cells ({ frames := 2, cells := 0, slots := 0, locals := 24 } : Room).slots) := by
  refine MetFree.of_bodySF (plainFor_of_name pn_java_util_HashMap) hisR ?_
  intro p e s m args below meth c s₁ Bd hml0 hP hK
  obtain ⟨rfl, hZ, hh⟩ := hP
  have hx := Bd.exec
  have hby := Bd.bytes
  have hml : c.maxLocals = 1 := hml0
  have hown : s.vm.findClass "java/util/HashMap" = some m.cls := findClass_of_methodNamed Bd.named
  have hnm := (name_of_methodNamed Bd.named Bd.method).1
  have X0 : Stand p l e ({ frames := 2, cells := 0, slots := 0, locals := 24 } : Room) s m #[(.ref a1)] below meth c s₁ [] 0 0 := Stand.of_body Bd
  have e0 : s₁.heap = h0 := by rw [← hh, Bd.state]; rfl
  have N0 := Fr.nil n0
  show own_Rch p.tables e below (s₁.setTop (entryFrame m #[(.ref a1)] 1)) (own_End s (QK a1 h0 n0) ({ frames := 2, cells := 0, slots := 0, locals := 24 } : Room).cells ({ frames := 2, cells := 0, slots := 0, locals := 24 } : Room).slots)
  refine own_via (fun t k => castTop (ef_HM m a1) k) ?_
  have Kc := Keep.refl h0 [a1]
  show own_Rch p.tables e below (s₁.setTop (mkF m 0 #[.val (.ref a1)] [])) _
  refine own_via (fun t k => XS.aloadN X0.here hx rfl (hb hby d6_0) rfl rfl k) ?_
  show own_Rch p.tables e below (s₁.setTop (mkF m 1 #[.val (.ref a1)] [(.ref a1)])) _
  obtain ⟨_, _, ⟨T1, L1, k1, n1⟩, -, X1, ⟨Lc1, hQ1, l1, y1, z1⟩, st1⟩ := X0.specialBack hx (y := (⟨"java/util/AbstractMap", "<init>", "()V"⟩ : MethodName)) rfl hown (mvT hZ (hw _ (List.mem_of_getElem? (i := 67) rfl))) (mvT hZ (hw _ (List.mem_of_getElem? (i := 68) rfl))) (mvT hZ (hw _ (List.mem_of_getElem? (i := 72) rfl))) (by decide) (backOf (W := 0) (rmAM l Z a0 hw [] a1 h0 n0) hZ (hw _ (List.mem_of_getElem? (i := 72) rfl)) (hw _ (List.mem_of_getElem? (i := 71) rfl)) (by decide) (by decide)) (g := (mkF m 1 #[.val (.ref a1)] [(.ref a1)])) rfl (by rw [hml]; rfl) (Steps.refl _) (a := a1) (argsL := []) (rest := []) (lenOf pd_0 rfl) rfl (by show 2 * 0 + _ ≤ _; exact Nat.le_of_eq rfl) (hb hby d6_1) (fun _ _ => ⟨rfl, e0, (by decide : 0 + 0 ≤ _), (by decide : 0 + 0 ≤ _)⟩)
  dsimp only [Pt.U, Pt.locs, Pt.cells, Pt.slots] at X1 l1 y1 z1 st1 hQ1
  subst l1 y1 z1
  obtain ⟨rfl, N1q, eh1⟩ := hQ1
  have N1 := Fr.app N0 N1q
  refine own_via (fun t k => st1.trans k) ?_
  show own_Rch p.tables e below (T1.setTop (mkF m 4 #[.val (.ref a1)] [])) _
  refine own_via (fun t k => XS.aloadN X1.here hx rfl (hb hby d6_4) rfl rfl k) ?_
  show own_Rch p.tables e below (T1.setTop (mkF m 5 #[.val (.ref a1)] [(.ref a1)])) _
  refine own_via (X1.ldcFloatC hx hown (mvT hZ (hw _ (List.mem_of_getElem? (i := 74) rfl))) (g := (mkF m 5 #[.val (.ref a1)] [(.ref a1)])) rfl (hb hby d6_5)) ?_
  show own_Rch p.tables e below (T1.setTop (mkF m 7 #[.val (.ref a1)] [(.float (1061158912 : UInt32)), (.ref a1)])) _
  obtain ⟨T2, h2, X2, e2, W2, st2⟩ := putF X1 hx hZ hown (host := "") (Or.inl (hw _ (List.mem_of_getElem? (i := 75) rfl))) Via.refl eh1 F_loadFactor E_a1 (Or.inr ⟨(hw _ (List.mem_of_getElem? (i := 76) rfl)), rfl, hnm⟩) (hw _ (List.mem_of_getElem? (i := 62) rfl)) (ty := .float) (by decide) rfl rfl (g := (mkF m 7 #[.val (.ref a1)] [(.float (1061158912 : UInt32)), (.ref a1)])) rfl rfl (hb hby d6_7)
  have Fw2 := F_loadFactor.same W2
  have N2 := Fr.snoc X2 N1 g_a1
  have Kc2 := Kc.wr W2 (Or.inl (by simp))
  refine own_via st2 ?_
  show own_Rch p.tables e below (T2.setTop (mkF m 10 #[.val (.ref a1)] [])) _
  exact own_fin0 X2 hx Bd.returns Bd.notSynchronized (hb hby d6_10) (by decide) (by decide) (by rw [e2]; exact ⟨rfl, N2, Kc2⟩)
def QE (Z : State) (C : String) (a1 : Addr) (h0 : Heap) (n0 : Nat) (v : Option Value) (h : Heap) (L : List Loc) : Prop := v = none ∧ Fr n0 L ∧ Keep h0 h [a1] ∧ Exa Z h a1 C
theorem ef_N (m : MethodId) (x0 : Addr) (x1 : Addr) : entryFrame m #[(.ref x0), (.ref x1), .null] 3 = mkF m 0 #[.val (.ref x0), .val (.ref x1), .val .null] [] := by first | (simp [entryFrame, mkF, argsToLocals, Value.category]; done) | rfl
theorem pn_org_rolepath_model_Node : plainName "org/rolepath/model/Node" = true := by first | (simp [plainName, overriddenIn]; done) | decide +kernel
theorem d4_0 : decode prog_60_method_1_code 0 = .ok (.aload_n 0, 1) := by decide +kernel
theorem d4_1 : decode prog_60_method_1_code 1 = .ok (.invokespecial 1, 3) := by decide +kernel
theorem d4_4 : decode prog_60_method_1_code 4 = .ok (.aload_n 0, 1) := by decide +kernel
theorem d4_5 : decode prog_60_method_1_code 5 = .ok (.aload_n 1, 1) := by decide +kernel
theorem d4_6 : decode prog_60_method_1_code 6 = .ok (.putfield 7, 3) := by decide +kernel
theorem d4_9 : decode prog_60_method_1_code 9 = .ok (.aload_n 0, 1) := by decide +kernel
theorem d4_10 : decode prog_60_method_1_code 10 = .ok (.aload_n 2, 1) := by decide +kernel
theorem d4_11 : decode prog_60_method_1_code 11 = .ok (.putfield 13, 3) := by decide +kernel
theorem d4_14 : decode prog_60_method_1_code 14 = .ok (.aload_n 0, 1) := by decide +kernel
theorem d4_15 : decode prog_60_method_1_code 15 = .ok (.aload_n 2, 1) := by decide +kernel
theorem d4_16 : decode prog_60_method_1_code 16 = .ok (.ifnonnull 7, 3) := by decide +kernel
theorem d4_19 : decode prog_60_method_1_code 19 = .ok (.iconst 0, 1) := by decide +kernel
theorem d4_20 : decode prog_60_method_1_code 20 = .ok (.goto 9, 3) := by decide +kernel
theorem d4_29 : decode prog_60_method_1_code 29 = .ok (.putfield 17, 3) := by decide +kernel
theorem d4_32 : decode prog_60_method_1_code 32 = .ok (.aload_n 0, 1) := by decide +kernel
theorem d4_33 : decode prog_60_method_1_code 33 = .ok (.getfield 17, 3) := by decide +kernel
theorem d4_36 : decode prog_60_method_1_code 36 = .ok (.iconst 2, 1) := by decide +kernel
theorem d4_37 : decode prog_60_method_1_code 37 = .ok (.if_icmp .ge 11, 3) := by decide +kernel
theorem d4_40 : decode prog_60_method_1_code 40 = .ok (.aload_n 0, 1) := by decide +kernel
theorem d4_41 : decode prog_60_method_1_code 41 = .ok (.aconst_null, 1) := by decide +kernel
theorem d4_42 : decode prog_60_method_1_code 42 = .ok (.putfield 21, 3) := by decide +kernel
theorem d4_45 : decode prog_60_method_1_code 45 = .ok (.goto 40, 3) := by decide +kernel
theorem d4_85 : decode prog_60_method_1_code 85 = .ok (.return_, 1) := by decide +kernel
set_option maxRecDepth 65536 in
set_option maxHeartbeats 40000000 in
theorem rmN (l : Launch) (Z : State) (a0 : Array Value) (hw : ∀ d ∈ tables_1, d.before a0 Z = true) (ws : List Jvm.Cond) (a1 a2 : Addr) (h0 : Heap) (n0 : Nat) (g_a1 : n0 ≤ a1) (E_a1 : Exa Z h0 a1 "org/rolepath/model/Node") (F_name : Fld Z h0 a1 "org/rolepath/model/Node" "name" "Ljava/lang/String;" .null) (F_parent : Fld Z h0 a1 "org/rolepath/model/Node" "parent" "Lorg/rolepath/model/Node;" .null) (F_depth : Fld Z h0 a1 "org/rolepath/model/Node" "depth" "I" (.int 0)) (F_kind : Fld Z h0 a1 "org/rolepath/model/Node" "kind" "Lorg/rolepath/model/Kind;" .null) :
    MetFree l (⟨"org/rolepath/model/Node", "<init>", "(Ljava/lang/String;Lorg/rolepath/model/Node;)V"⟩ : MethodName) (head1 (Jvm.Cond.code (⟨"org/rolepath/model/Node", "<init>", "(Ljava/lang/String;Lorg/rolepath/model/Node;)V"⟩ : MethodName) prog_60_method_1_code 3 none :: ws) ({ frames := 1, cells := 0, slots := 0, locals := 12 } : Room)) (fun a U => a = #[(.ref a1), (.ref a2), .null] ∧ Z.Warmed39 U.vm ∧ U.heap = h0) (fun _ _ _ _ _ => True) (fun _ U o U' => ∃ v L, o = .returned v ∧ QE Z "org/rolepath/model/Node" a1 h0 n0 v U'.heap L ∧ FrameEnd U o U' L ({ frames := 1, cells := 0, slots := 0, locals := 12 } : Room).cells ({ frames := 1, cells := 0, slots := 0, locals := 12 } : Room).slots) := by
  refine MetFree.of_bodySF (plainFor_of_name pn_org_rolepath_model_Node) hisR ?_
  intro p e s m args below meth c s₁ Bd hml0 hP hK
  obtain ⟨rfl, hZ, hh⟩ := hP
  have hx := Bd.exec
  have hby := Bd.bytes
  have hml : c.maxLocals = 3 := hml0
  have hown : s.vm.findClass "org/rolepath/model/Node" = some m.cls := findClass_of_methodNamed Bd.named
  have hnm := (name_of_methodNamed Bd.named Bd.method).1
  have X0 : Stand p l e ({ frames := 1, cells := 0, slots := 0, locals := 12 } : Room) s m #[(.ref a1), (.ref a2), .null] below meth c s₁ [] 0 0 := Stand.of_body Bd
  have e0 : s₁.heap = h0 := by rw [← hh, Bd.state]; rfl
  have N0 := Fr.nil n0
  show own_Rch p.tables e below (s₁.setTop (entryFrame m #[(.ref a1), (.ref a2), .null] 3)) (own_End s (QE Z "org/rolepath/model/Node" a1 h0 n0) ({ frames := 1, cells := 0, slots := 0, locals := 12 } : Room).cells ({ frames := 1, cells := 0, slots := 0, locals := 12 } : Room).slots)
  refine own_via (fun t k => castTop (ef_N m a1 a2) k) ?_
  have Kc := Keep.refl h0 [a1]
  show own_Rch p.tables e below (s₁.setTop (mkF m 0 #[.val (.ref a1), .val (.ref a2), .val .null] [])) _
  refine own_via (fun t k => XS.aloadN X0.here hx rfl (hb hby d4_0) rfl rfl k) ?_
  show own_Rch p.tables e below (s₁.setTop (mkF m 1 #[.val (.ref a1), .val (.ref a2), .val .null] [(.ref a1)])) _
  obtain ⟨T1, X1, e1, st1⟩ := initO X0 hx hZ hown (hw _ (List.mem_of_getElem? (i := 29) rfl)) (hw _ (List.mem_of_getElem? (i := 10) rfl)) (hw _ (List.mem_of_getElem? (i := 11) rfl)) e0 (g := (mkF m 1 #[.val (.ref a1), .val (.ref a2), .val .null] [(.ref a1)])) rfl (by rw [hml]; rfl) rfl (hb hby d4_1) (by decide) (W := 0) (by show 2 * 0 + _ ≤ _; exact Nat.le_of_eq rfl) (by decide)
  refine own_via st1 ?_
  show own_Rch p.tables e below (T1.setTop (mkF m 4 #[.val (.ref a1), .val (.ref a2), .val .null] [])) _
  refine own_via (fun t k => XS.aloadN X1.here hx rfl (hb hby d4_4) rfl rfl k) ?_
  show own_Rch p.tables e below (T1.setTop (mkF m 5 #[.val (.ref a1), .val (.ref a2), .val .null] [(.ref a1)])) _
  refine own_via (fun t k => XS.aloadN X1.here hx rfl (hb hby d4_5) rfl rfl k) ?_
  show own_Rch p.tables e below (T1.setTop (mkF m 6 #[.val (.ref a1), .val (.ref a2), .val .null] [(.ref a2), (.ref a1)])) _
  obtain ⟨T2, h2, X2, e2, W2, st2⟩ := putF X1 hx hZ hown (host := "") (Or.inl (hw _ (List.mem_of_getElem? (i := 30) rfl))) Via.refl e1 F_name E_a1 (Or.inr ⟨(hw _ (List.mem_of_getElem? (i := 31) rfl)), rfl, hnm⟩) (hw _ (List.mem_of_getElem? (i := 17) rfl)) (ty := (.object "java/lang/String")) (by decide) rfl rfl (g := (mkF m 6 #[.val (.ref a1), .val (.ref a2), .val .null] [(.ref a2), (.ref a1)])) rfl rfl (hb hby d4_6)
  have Fw2 := F_name.same W2
  have N2 := Fr.snoc X2 N0 g_a1
  have Kc2 := Kc.wr W2 (Or.inl (by simp))
  refine own_via st2 ?_
  show own_Rch p.tables e below (T2.setTop (mkF m 9 #[.val (.ref a1), .val (.ref a2), .val .null] [])) _
  refine own_via (fun t k => XS.aloadN X2.here hx rfl (hb hby d4_9) rfl rfl k) ?_
  show own_Rch p.tables e below (T2.setTop (mkF m 10 #[.val (.ref a1), .val (.ref a2), .val .null] [(.ref a1)])) _
  refine own_via (fun t k => XS.aloadN X2.here hx rfl (hb hby d4_10) rfl rfl k) ?_
  show own_Rch p.tables e below (T2.setTop (mkF m 11 #[.val (.ref a1), .val (.ref a2), .val .null] [.null, (.ref a1)])) _
  obtain ⟨T3, h3, X3, e3, W3, st3⟩ := putF X2 hx hZ hown (host := "") (Or.inl (hw _ (List.mem_of_getElem? (i := 32) rfl))) Via.refl e2 (F_parent.other W2 (Or.inr (slot_ne (Or.inr (hw _ (List.mem_of_getElem? (i := 33) rfl))) (Or.inr (hw _ (List.mem_of_getElem? (i := 31) rfl))) (by decide) (t := (.object "org/rolepath/model/Node")) (t' := (.object "java/lang/String")) (by decide) (by decide)))) (E_a1.wr W2) (Or.inr ⟨(hw _ (List.mem_of_getElem? (i := 33) rfl)), rfl, hnm⟩) (hw _ (List.mem_of_getElem? (i := 17) rfl)) (ty := (.object "org/rolepath/model/Node")) (by decide) rfl rfl (g := (mkF m 11 #[.val (.ref a1), .val (.ref a2), .val .null] [.null, (.ref a1)])) rfl rfl (hb hby d4_11)
  have Fw3 := (F_parent.other W2 (Or.inr (slot_ne (Or.inr (hw _ (List.mem_of_getElem? (i := 33) rfl))) (Or.inr (hw _ (List.mem_of_getElem? (i := 31) rfl))) (by decide) (t := (.object "org/rolepath/model/Node")) (t' := (.object "java/lang/String")) (by decide) (by decide)))).same W3
  have N3 := Fr.snoc X3 N2 g_a1
  have Kc3 := Kc2.wr W3 (Or.inl (by simp))
  refine own_via st3 ?_
  show own_Rch p.tables e below (T3.setTop (mkF m 14 #[.val (.ref a1), .val (.ref a2), .val .null] [])) _
  refine own_via (fun t k => XS.aloadN X3.here hx rfl (hb hby d4_14) rfl rfl k) ?_
  show own_Rch p.tables e below (T3.setTop (mkF m 15 #[.val (.ref a1), .val (.ref a2), .val .null] [(.ref a1)])) _
  refine own_via (fun t k => XS.aloadN X3.here hx rfl (hb hby d4_15) rfl rfl k) ?_
  show own_Rch p.tables e below (T3.setTop (mkF m 16 #[.val (.ref a1), .val (.ref a2), .val .null] [.null, (.ref a1)])) _
  refine own_via (fun t k => XS.ifnonnullNo X3.here hx rfl (hb hby d4_16) rfl k) ?_
  show own_Rch p.tables e below (T3.setTop (mkF m 19 #[.val (.ref a1), .val (.ref a2), .val .null] [(.ref a1)])) _
  refine own_via (fun t k => XS.iconst X3.here hx rfl (hb hby d4_19) k) ?_
  show own_Rch p.tables e below (T3.setTop (mkF m 20 #[.val (.ref a1), .val (.ref a2), .val .null] [(.int (0 : Int32)), (.ref a1)])) _
  refine own_via (fun t k => XS.goto X3.here hx rfl (pc0 := 20) (pc' := 29) rfl (hb hby d4_20) (by decide) (by decide) k) ?_
  show own_Rch p.tables e below (T3.setTop (mkF m 29 #[.val (.ref a1), .val (.ref a2), .val .null] [(.int (0 : Int32)), (.ref a1)])) _
  obtain ⟨T4, h4, X4, e4, W4, st4⟩ := putF X3 hx hZ hown (host := "") (Or.inl (hw _ (List.mem_of_getElem? (i := 34) rfl))) Via.refl e3 ((F_depth.other W2 (Or.inr (slot_ne (Or.inr (hw _ (List.mem_of_getElem? (i := 35) rfl))) (Or.inr (hw _ (List.mem_of_getElem? (i := 31) rfl))) (by decide) (t := .int) (t' := (.object "java/lang/String")) (by decide) (by decide)))).other W3 (Or.inr (slot_ne (Or.inr (hw _ (List.mem_of_getElem? (i := 35) rfl))) (Or.inr (hw _ (List.mem_of_getElem? (i := 33) rfl))) (by decide) (t := .int) (t' := (.object "org/rolepath/model/Node")) (by decide) (by decide)))) ((E_a1.wr W2).wr W3) (Or.inr ⟨(hw _ (List.mem_of_getElem? (i := 35) rfl)), rfl, hnm⟩) (hw _ (List.mem_of_getElem? (i := 17) rfl)) (ty := .int) (by decide) rfl rfl (g := (mkF m 29 #[.val (.ref a1), .val (.ref a2), .val .null] [(.int (0 : Int32)), (.ref a1)])) rfl rfl (hb hby d4_29)
  have Fw4 := ((F_depth.other W2 (Or.inr (slot_ne (Or.inr (hw _ (List.mem_of_getElem? (i := 35) rfl))) (Or.inr (hw _ (List.mem_of_getElem? (i := 31) rfl))) (by decide) (t := .int) (t' := (.object "java/lang/String")) (by decide) (by decide)))).other W3 (Or.inr (slot_ne (Or.inr (hw _ (List.mem_of_getElem? (i := 35) rfl))) (Or.inr (hw _ (List.mem_of_getElem? (i := 33) rfl))) (by decide) (t := .int) (t' := (.object "org/rolepath/model/Node")) (by decide) (by decide)))).same W4
  have N4 := Fr.snoc X4 N3 g_a1
  have Kc4 := Kc3.wr W4 (Or.inl (by simp))
  refine own_via st4 ?_
  show own_Rch p.tables e below (T4.setTop (mkF m 32 #[.val (.ref a1), .val (.ref a2), .val .null] [])) _
  refine own_via (fun t k => XS.aloadN X4.here hx rfl (hb hby d4_32) rfl rfl k) ?_
  show own_Rch p.tables e below (T4.setTop (mkF m 33 #[.val (.ref a1), .val (.ref a2), .val .null] [(.ref a1)])) _
  obtain ⟨T5, X5, e5, st5⟩ := getF X4 hx hZ hown (host := "") (Or.inl (hw _ (List.mem_of_getElem? (i := 34) rfl))) Via.refl e4 Fw4 (g := (mkF m 33 #[.val (.ref a1), .val (.ref a2), .val .null] [(.ref a1)])) rfl rfl (hb hby d4_33)
  refine own_via st5 ?_
  show own_Rch p.tables e below (T5.setTop (mkF m 36 #[.val (.ref a1), .val (.ref a2), .val .null] [(.int (0 : Int32))])) _
  refine own_via (fun t k => XS.iconst X5.here hx rfl (hb hby d4_36) k) ?_
  show own_Rch p.tables e below (T5.setTop (mkF m 37 #[.val (.ref a1), .val (.ref a2), .val .null] [(.int (2 : Int32)), (.int (0 : Int32))])) _
  refine own_via (fun t k => XS.icmpNo X5.here hx rfl (hb hby d4_37) rfl (tlt (by decide : (0 : Int32) < (2 : Int32))).2.1 k) ?_
  show own_Rch p.tables e below (T5.setTop (mkF m 40 #[.val (.ref a1), .val (.ref a2), .val .null] [])) _
  refine own_via (fun t k => XS.aloadN X5.here hx rfl (hb hby d4_40) rfl rfl k) ?_
  show own_Rch p.tables e below (T5.setTop (mkF m 41 #[.val (.ref a1), .val (.ref a2), .val .null] [(.ref a1)])) _
  refine own_via (fun t k => XS.aconstNull X5.here hx rfl (hb hby d4_41) k) ?_
  show own_Rch p.tables e below (T5.setTop (mkF m 42 #[.val (.ref a1), .val (.ref a2), .val .null] [.null, (.ref a1)])) _
  obtain ⟨T6, h6, X6, e6, W6, st6⟩ := putF X5 hx hZ hown (host := "") (Or.inl (hw _ (List.mem_of_getElem? (i := 36) rfl))) Via.refl e5 (((F_kind.other W2 (Or.inr (slot_ne (Or.inr (hw _ (List.mem_of_getElem? (i := 37) rfl))) (Or.inr (hw _ (List.mem_of_getElem? (i := 31) rfl))) (by decide) (t := (.object "org/rolepath/model/Kind")) (t' := (.object "java/lang/String")) (by decide) (by decide)))).other W3 (Or.inr (slot_ne (Or.inr (hw _ (List.mem_of_getElem? (i := 37) rfl))) (Or.inr (hw _ (List.mem_of_getElem? (i := 33) rfl))) (by decide) (t := (.object "org/rolepath/model/Kind")) (t' := (.object "org/rolepath/model/Node")) (by decide) (by decide)))).other W4 (Or.inr (slot_ne (Or.inr (hw _ (List.mem_of_getElem? (i := 37) rfl))) (Or.inr (hw _ (List.mem_of_getElem? (i := 35) rfl))) (by decide) (t := (.object "org/rolepath/model/Kind")) (t' := .int) (by decide) (by decide)))) (((E_a1.wr W2).wr W3).wr W4) (Or.inr ⟨(hw _ (List.mem_of_getElem? (i := 37) rfl)), rfl, hnm⟩) (hw _ (List.mem_of_getElem? (i := 17) rfl)) (ty := (.object "org/rolepath/model/Kind")) (by decide) rfl rfl (g := (mkF m 42 #[.val (.ref a1), .val (.ref a2), .val .null] [.null, (.ref a1)])) rfl rfl (hb hby d4_42)
  have Fw6 := (((F_kind.other W2 (Or.inr (slot_ne (Or.inr (hw _ (List.mem_of_getElem? (i := 37) rfl))) (Or.inr (hw _ (List.mem_of_getElem? (i := 31) rfl))) (by decide) (t := (.object "org/rolepath/model/Kind")) (t' := (.object "java/lang/String")) (by decide) (by decide)))).other W3 (Or.inr (slot_ne (Or.inr (hw _ (List.mem_of_getElem? (i := 37) rfl))) (Or.inr (hw _ (List.mem_of_getElem? (i := 33) rfl))) (by decide) (t := (.object "org/rolepath/model/Kind")) (t' := (.object "org/rolepath/model/Node")) (by decide) (by decide)))).other W4 (Or.inr (slot_ne (Or.inr (hw _ (List.mem_of_getElem? (i := 37) rfl))) (Or.inr (hw _ (List.mem_of_getElem? (i := 35) rfl))) (by decide) (t := (.object "org/rolepath/model/Kind")) (t' := .int) (by decide) (by decide)))).same W6
  have N6 := Fr.snoc X6 N4 g_a1
  have Kc6 := Kc4.wr W6 (Or.inl (by simp))
  refine own_via st6 ?_
  show own_Rch p.tables e below (T6.setTop (mkF m 45 #[.val (.ref a1), .val (.ref a2), .val .null] [])) _
  refine own_via (fun t k => XS.goto X6.here hx rfl (pc0 := 45) (pc' := 85) rfl (hb hby d4_45) (by decide) (by decide) k) ?_
  show own_Rch p.tables e below (T6.setTop (mkF m 85 #[.val (.ref a1), .val (.ref a2), .val .null] [])) _
  exact own_fin0 X6 hx Bd.returns Bd.notSynchronized (hb hby d4_85) (by decide) (by decide) (by rw [e6]; exact ⟨rfl, N6, Kc6, ((((E_a1.wr W2).wr W3).wr W4).wr W6)⟩)
def QR (Z : State) (C : String) (h0 : Heap) (n0 : Nat) (v : Option Value) (h : Heap) (L : List Loc) : Prop := ∃ b, v = some (.ref b) ∧ Fr n0 L ∧ Keep h0 h [] ∧ n0 ≤ b ∧ h0.size ≤ b ∧ Exa Z h b C
theorem ef_r (m : MethodId)  : entryFrame m #[] 0 = mkF m 0 #[] [] := by first | (simp [entryFrame, mkF, argsToLocals, Value.category]; done) | rfl
theorem d3_0 : decode prog_60_method_2_code 0 = .ok (.new 8, 3) := by decide +kernel
theorem d3_3 : decode prog_60_method_2_code 3 = .ok (.dup, 1) := by decide +kernel
theorem d3_4 : decode prog_60_method_2_code 4 = .ok (.ldc 37, 2) := by decide +kernel
theorem d3_6 : decode prog_60_method_2_code 6 = .ok (.aconst_null, 1) := by decide +kernel
theorem d3_7 : decode prog_60_method_2_code 7 = .ok (.invokespecial 39, 3) := by decide +kernel
theorem pd_1 : parseMethodDescriptor "(Ljava/lang/String;Lorg/rolepath/model/Node;)V" = some ⟨[(.object "java/lang/String"), (.object "org/rolepath/model/Node")], none⟩ := by decide +kernel
theorem d3_10 : decode prog_60_method_2_code 10 = .ok (.areturn, 1) := by decide +kernel
set_option maxRecDepth 65536 in
set_option maxHeartbeats 40000000 in
theorem rmr (l : Launch) (Z : State) (a0 : Array Value) (hw : ∀ d ∈ tables_1, d.before a0 Z = true) (ws : List Jvm.Cond)  (h0 : Heap) (n0 : Nat) (Z0 : n0 ≤ h0.size) :
    MetFree l (⟨"org/rolepath/model/Node", "root", "()Lorg/rolepath/model/Node;"⟩ : MethodName) (head1 (Jvm.Cond.code (⟨"org/rolepath/model/Node", "root", "()Lorg/rolepath/model/Node;"⟩ : MethodName) prog_60_method_2_code 0 (some (.object "org/rolepath/model/Node")) :: ws) ({ frames := 2, cells := 3, slots := 10, locals := 27 } : Room)) (fun a U => a = #[] ∧ Z.Warmed39 U.vm ∧ U.heap = h0) (fun _ _ _ _ _ => True) (fun _ U o U' => ∃ v L, o = .returned v ∧ QR Z "org/rolepath/model/Node" h0 n0 v U'.heap L ∧ ReturnedEndW U o U' L ({ frames := 2, cells := 3, slots := 10, locals := 27 } : Room).cells ({ frames := 2, cells := 3, slots := 10, locals := 27 } : Room).slots) := by
  refine MetFree.of_bodySF (plainFor_of_name pn_org_rolepath_model_Node) hisR ?_
  intro p e s m args below meth c s₁ Bd hml0 hP hK
  obtain ⟨rfl, hZ, hh⟩ := hP
  have hx := Bd.exec
  have hby := Bd.bytes
  have hml : c.maxLocals = 0 := hml0
  have hown : s.vm.findClass "org/rolepath/model/Node" = some m.cls := findClass_of_methodNamed Bd.named
  have hnm := (name_of_methodNamed Bd.named Bd.method).1
  have X0 : Stand p l e ({ frames := 2, cells := 3, slots := 10, locals := 27 } : Room) s m #[] below meth c s₁ [] 0 0 := Stand.of_body Bd
  have e0 : s₁.heap = h0 := by rw [← hh, Bd.state]; rfl
  have N0 := Fr.nil n0
  show own_Rch p.tables e below (s₁.setTop (entryFrame m #[] 0)) (own_EndW s (QR Z "org/rolepath/model/Node" h0 n0) ({ frames := 2, cells := 3, slots := 10, locals := 27 } : Room).cells ({ frames := 2, cells := 3, slots := 10, locals := 27 } : Room).slots)
  refine own_via (fun t k => castTop (ef_r m ) k) ?_
  have Kc := Keep.refl h0 []
  have X0 : Stand p l e ({ frames := 2, cells := 3, slots := 10, locals := 27 } : Room) (s.setVm s.vm) m #[] below meth c s₁ [] 0 0 := X0
  have hZ : Z.Warmed39 (s.setVm s.vm).vm := hZ
  have hown : (s.setVm s.vm).vm.findClass "org/rolepath/model/Node" = some m.cls := hown
  have Si0 : s.Since s.vm h0.size := own_S0 s _
  show own_Rch p.tables e below (s₁.setTop (mkF m 0 #[] [])) _
  obtain ⟨T1, h1, X1, e1, E1, A1, D1, -, st1⟩ := newO X0 hx hZ hown (hw _ (List.mem_of_getElem? (i := 16) rfl)) (hw _ (List.mem_of_getElem? (i := 17) rfl)) (hw _ (List.mem_of_getElem? (i := 14) rfl)) e0 (g := (mkF m 0 #[] [])) rfl (hb hby d3_0) (by decide) (by decide)
  obtain ⟨b1, g1⟩ : ∃ z, z = h0.size := ⟨_, rfl⟩
  rw [← g1] at A1 D1 st1
  have g_b1 : n0 ≤ b1 := Nat.le_trans Z0 (Nat.le_of_eq g1.symm)
  have sz_b1 : h0.size ≤ b1 := Nat.le_trans Kc.1 (Nat.le_of_eq g1.symm)
  have F1_name : Fld Z h1 b1 "org/rolepath/model/Node" "name" "Ljava/lang/String;" .null := D1 (Or.inr (hw _ (List.mem_of_getElem? (i := 31) rfl))) (ty := (.object "java/lang/String")) (by decide)
  have F1_parent : Fld Z h1 b1 "org/rolepath/model/Node" "parent" "Lorg/rolepath/model/Node;" .null := D1 (Or.inr (hw _ (List.mem_of_getElem? (i := 33) rfl))) (ty := (.object "org/rolepath/model/Node")) (by decide)
  have F1_depth : Fld Z h1 b1 "org/rolepath/model/Node" "depth" "I" (.int (0 : Int32)) := D1 (Or.inr (hw _ (List.mem_of_getElem? (i := 35) rfl))) (ty := .int) (by decide)
  have F1_kind : Fld Z h1 b1 "org/rolepath/model/Node" "kind" "Lorg/rolepath/model/Kind;" .null := D1 (Or.inr (hw _ (List.mem_of_getElem? (i := 37) rfl))) (ty := (.object "org/rolepath/model/Kind")) (by decide)
  have F1_properties : Fld Z h1 b1 "org/rolepath/model/Node" "properties" "Lorg/rolepath/model/PropertyMap;" .null := D1 (Or.inl (hw _ (List.mem_of_getElem? (i := 126) rfl))) (ty := (.object "org/rolepath/model/PropertyMap")) (by decide)
  have Kc1 := Kc.ext E1
  refine own_via st1 ?_
  show own_Rch p.tables e below (T1.setTop (mkF m 3 #[] [(.ref b1)])) _
  refine own_via (fun t k => XS.dup X1.here hx rfl (hb hby d3_3) rfl rfl k) ?_
  show own_Rch p.tables e below (T1.setTop (mkF m 4 #[] [(.ref b1), (.ref b1)])) _
  obtain ⟨b2, T2, h2, k2, X2, e2, E2, Si2, gk2, hZ, hown, st2⟩ := ldcS X1 hx hZ hown (hw _ (List.mem_of_getElem? (i := 18) rfl)) (own_wS hw) e1 Si0 (Nat.le_trans (Nat.le_refl _) E1.1) (g := (mkF m 4 #[] [(.ref b1), (.ref b1)])) rfl (hb hby d3_4) (n := 0) (by decide) (by decide) (by decide) (by decide)
  have Kc2 := Kc1.ext E2
  refine own_via st2 ?_
  show own_Rch p.tables e below (T2.setTop (mkF m 6 #[] [(.ref b2), (.ref b1), (.ref b1)])) _
  refine own_via (fun t k => XS.aconstNull X2.here hx rfl (hb hby d3_6) k) ?_
  show own_Rch p.tables e below (T2.setTop (mkF m 7 #[] [.null, (.ref b2), (.ref b1), (.ref b1)])) _
  obtain ⟨_, _, ⟨T3, L3, k3, n3⟩, -, X3, ⟨Lc3, hQ3, l3, y3, z3⟩, st3⟩ := X2.specialBack hx (y := (⟨"org/rolepath/model/Node", "<init>", "(Ljava/lang/String;Lorg/rolepath/model/Node;)V"⟩ : MethodName)) rfl hown (mvT hZ (hw _ (List.mem_of_getElem? (i := 26) rfl))) (mvT hZ (hw _ (List.mem_of_getElem? (i := 27) rfl))) (mvT hZ (hw _ (List.mem_of_getElem? (i := 28) rfl))) (by decide) (backOf (W := 1) (rmN l Z a0 hw [] b1 b2 h2 n0 g_b1 (A1.ext E2) (F1_name.ext E2) (F1_parent.ext E2) (F1_depth.ext E2) (F1_kind.ext E2)) hZ (hw _ (List.mem_of_getElem? (i := 28) rfl)) (hw _ (List.mem_of_getElem? (i := 14) rfl)) (by decide) (by decide)) (g := (mkF m 7 #[] [.null, (.ref b2), (.ref b1), (.ref b1)])) rfl (by rw [hml]; rfl) (Steps.refl _) (a := b1) (argsL := [(.ref b2), .null]) (rest := [(.ref b1)]) (lenOf pd_1 rfl) rfl (by show 2 * 0 + _ ≤ _; exact Nat.le_of_eq rfl) (hb hby d3_7) (fun _ _ => ⟨rfl, e2, (by decide : 3 + 0 ≤ _), (by decide : 10 + 0 ≤ _)⟩)
  dsimp only [Pt.U, Pt.locs, Pt.cells, Pt.slots] at X3 l3 y3 z3 st3 hQ3
  subst l3 y3 z3
  obtain ⟨rfl, N3q, K3, Ee3⟩ := hQ3
  have N3 := Fr.app N0 N3q
  have KcK3 := Kc2.trans K3 (allS (Or.inr sz_b1) all0)
  refine own_via (fun t k => st3.trans k) ?_
  show own_Rch p.tables e below (T3.setTop (mkF m 10 #[] [(.ref b1)])) _
  exact own_finW X3 Si2 (Nat.le_trans gk2 K3.1) hx (t := (.object "org/rolepath/model/Node")) (i := .areturn) Bd.returns Bd.notSynchronized rfl (Or.inr (Or.inr (Or.inr (Or.inr ⟨rfl, rfl, rfl⟩)))) (hb hby d3_10) (by decide) (by decide) ⟨_, rfl, N3, KcK3, g_b1, sz_b1, Ee3⟩
def QP (Z : State) (a1 : Addr) (h0 : Heap) (n0 : Nat) (v : Option Value) (h : Heap) (L : List Loc) : Prop := v = none ∧ Fr n0 L ∧ Keep h0 h [a1] ∧ Exa Z h a1 "org/rolepath/model/PropertyMap$Builder" ∧ Fld Z h a1 "org/rolepath/model/PropertyMap$Builder" "size" "I" (.int 0)
theorem ef_P (m : MethodId) (x0 : Addr) : entryFrame m #[(.ref x0)] 1 = mkF m 0 #[.val (.ref x0)] [] := by first | (simp [entryFrame, mkF, argsToLocals, Value.category]; done) | rfl
theorem pn_org_rolepath_model_PropertyMap_Builder : plainName "org/rolepath/model/PropertyMap$Builder" = true := by first | (simp [plainName, overriddenIn]; done) | decide +kernel
theorem d5_0 : decode prog_65_method_1_code 0 = .ok (.aload_n 0, 1) := by decide +kernel
theorem d5_1 : decode prog_65_method_1_code 1 = .ok (.invokespecial 1, 3) := by decide +kernel
theorem d5_4 : decode prog_65_method_1_code 4 = .ok (.aload_n 0, 1) := by decide +kernel
theorem d5_5 : decode prog_65_method_1_code 5 = .ok (.bipush 8, 2) := by decide +kernel
theorem d5_7 : decode prog_65_method_1_code 7 = .ok (.anewarray 9, 3) := by decide +kernel
theorem d5_10 : decode prog_65_method_1_code 10 = .ok (.putfield 11, 3) := by decide +kernel
theorem d5_13 : decode prog_65_method_1_code 13 = .ok (.aload_n 0, 1) := by decide +kernel
theorem d5_14 : decode prog_65_method_1_code 14 = .ok (.bipush 8, 2) := by decide +kernel
theorem d5_16 : decode prog_65_method_1_code 16 = .ok (.anewarray 9, 3) := by decide +kernel
theorem d5_19 : decode prog_65_method_1_code 19 = .ok (.putfield 15, 3) := by decide +kernel
theorem d5_22 : decode prog_65_method_1_code 22 = .ok (.return_, 1) := by decide +kernel
set_option maxRecDepth 65536 in
set_option maxHeartbeats 40000000 in
theorem rmP (l : Launch) (Z : State) (a0 : Array Value) (hw : ∀ d ∈ tables_1, d.before a0 Z = true) (ws : List Jvm.Cond) (a1 : Addr) (h0 : Heap) (n0 : Nat) (Z0 : n0 ≤ h0.size) (g_a1 : n0 ≤ a1) (E_a1 : Exa Z h0 a1 "org/rolepath/model/PropertyMap$Builder") (F_keys : Fld Z h0 a1 "org/rolepath/model/PropertyMap$Builder" "keys" "[Ljava/lang/String;" .null) (F_values : Fld Z h0 a1 "org/rolepath/model/PropertyMap$Builder" "values" "[Ljava/lang/String;" .null) (F_size : Fld Z h0 a1 "org/rolepath/model/PropertyMap$Builder" "size" "I" (.int 0)) :
    MetFree l (⟨"org/rolepath/model/PropertyMap$Builder", "<init>", "()V"⟩ : MethodName) (head1 (Jvm.Cond.code (⟨"org/rolepath/model/PropertyMap$Builder", "<init>", "()V"⟩ : MethodName) prog_65_method_1_code 1 none :: ws) ({ frames := 1, cells := 2, slots := 16, locals := 12 } : Room)) (fun a U => a = #[(.ref a1)] ∧ Z.Warmed39 U.vm ∧ U.heap = h0) (fun _ _ _ _ _ => True) (fun _ U o U' => ∃ v L, o = .returned v ∧ QP Z a1 h0 n0 v U'.heap L ∧ FrameEnd U o U' L ({ frames := 1, cells := 2, slots := 16, locals := 12 } : Room).cells ({ frames := 1, cells := 2, slots := 16, locals := 12 } : Room).slots) := by
  refine MetFree.of_bodySF (plainFor_of_name pn_org_rolepath_model_PropertyMap_Builder) hisR ?_
  intro p e s m args below meth c s₁ Bd hml0 hP hK
  obtain ⟨rfl, hZ, hh⟩ := hP
  have hx := Bd.exec
  have hby := Bd.bytes
  have hml : c.maxLocals = 1 := hml0
  have hown : s.vm.findClass "org/rolepath/model/PropertyMap$Builder" = some m.cls := findClass_of_methodNamed Bd.named
  have hnm := (name_of_methodNamed Bd.named Bd.method).1
  have X0 : Stand p l e ({ frames := 1, cells := 2, slots := 16, locals := 12 } : Room) s m #[(.ref a1)] below meth c s₁ [] 0 0 := Stand.of_body Bd
  have e0 : s₁.heap = h0 := by rw [← hh, Bd.state]; rfl
  have N0 := Fr.nil n0
  show own_Rch p.tables e below (s₁.setTop (entryFrame m #[(.ref a1)] 1)) (own_End s (QP Z a1 h0 n0) ({ frames := 1, cells := 2, slots := 16, locals := 12 } : Room).cells ({ frames := 1, cells := 2, slots := 16, locals := 12 } : Room).slots)
  refine own_via (fun t k => castTop (ef_P m a1) k) ?_
  have Kc := Keep.refl h0 [a1]
  show own_Rch p.tables e below (s₁.setTop (mkF m 0 #[.val (.ref a1)] [])) _
  refine own_via (fun t k => XS.aloadN X0.here hx rfl (hb hby d5_0) rfl rfl k) ?_
  show own_Rch p.tables e below (s₁.setTop (mkF m 1 #[.val (.ref a1)] [(.ref a1)])) _
  obtain ⟨T1, X1, e1, st1⟩ := initO X0 hx hZ hown (hw _ (List.mem_of_getElem? (i := 52) rfl)) (hw _ (List.mem_of_getElem? (i := 10) rfl)) (hw _ (List.mem_of_getElem? (i := 11) rfl)) e0 (g := (mkF m 1 #[.val (.ref a1)] [(.ref a1)])) rfl (by rw [hml]; rfl) rfl (hb hby d5_1) (by decide) (W := 0) (by show 2 * 0 + _ ≤ _; exact Nat.le_of_eq rfl) (by decide)
  refine own_via st1 ?_
  show own_Rch p.tables e below (T1.setTop (mkF m 4 #[.val (.ref a1)] [])) _
  refine own_via (fun t k => XS.aloadN X1.here hx rfl (hb hby d5_4) rfl rfl k) ?_
  show own_Rch p.tables e below (T1.setTop (mkF m 5 #[.val (.ref a1)] [(.ref a1)])) _
  refine own_via (fun t k => XS.bipush X1.here hx rfl (hb hby d5_5) k) ?_
  show own_Rch p.tables e below (T1.setTop (mkF m 7 #[.val (.ref a1)] [(.int (8 : Int32)), (.ref a1)])) _
  obtain ⟨T2, h2, k2, X2, e2, E2, A2, Ov2, st2⟩ := newR X1 hx hZ hown (hw _ (List.mem_of_getElem? (i := 53) rfl)) (hw _ (List.mem_of_getElem? (i := 54) rfl)) e1 (g := (mkF m 7 #[.val (.ref a1)] [(.int (8 : Int32)), (.ref a1)])) rfl (hb hby d5_7) rfl (by decide) (cap := 8) (by decide) (by decide) (by decide) (by decide)
  obtain ⟨b2, g2⟩ : ∃ z, z = h0.size := ⟨_, rfl⟩
  rw [← g2] at A2 st2
  have g_b2 : n0 ≤ b2 := Nat.le_trans Z0 (Nat.le_of_eq g2.symm)
  have sz_b2 : h0.size ≤ b2 := Nat.le_trans Kc.1 (Nat.le_of_eq g2.symm)
  have V2 := Arv.new A2 (by decide)
  have Kc2 := Kc.ext E2
  refine own_via st2 ?_
  show own_Rch p.tables e below (T2.setTop (mkF m 10 #[.val (.ref a1)] [(.ref b2), (.ref a1)])) _
  obtain ⟨T3, h3, X3, e3, W3, st3⟩ := putF X2 hx hZ hown (host := "") (Or.inl (hw _ (List.mem_of_getElem? (i := 55) rfl))) Via.refl e2 (F_keys.ext E2) (E_a1.ext E2) (Or.inl (hw _ (List.mem_of_getElem? (i := 56) rfl))) (hw _ (List.mem_of_getElem? (i := 47) rfl)) (ty := (.array (.object "java/lang/String"))) (by decide) rfl rfl (g := (mkF m 10 #[.val (.ref a1)] [(.ref b2), (.ref a1)])) rfl rfl (hb hby d5_10)
  have Fw3 := (F_keys.ext E2).same W3
  have N3 := Fr.snoc X3 N0 g_a1
  have Kc3 := Kc2.wr W3 (Or.inl (by simp))
  refine own_via st3 ?_
  show own_Rch p.tables e below (T3.setTop (mkF m 13 #[.val (.ref a1)] [])) _
  refine own_via (fun t k => XS.aloadN X3.here hx rfl (hb hby d5_13) rfl rfl k) ?_
  show own_Rch p.tables e below (T3.setTop (mkF m 14 #[.val (.ref a1)] [(.ref a1)])) _
  refine own_via (fun t k => XS.bipush X3.here hx rfl (hb hby d5_14) k) ?_
  show own_Rch p.tables e below (T3.setTop (mkF m 16 #[.val (.ref a1)] [(.int (8 : Int32)), (.ref a1)])) _
  obtain ⟨T4, h4, k4, X4, e4, E4, A4, Ov4, st4⟩ := newR X3 hx hZ hown (hw _ (List.mem_of_getElem? (i := 53) rfl)) (hw _ (List.mem_of_getElem? (i := 54) rfl)) e3 (g := (mkF m 16 #[.val (.ref a1)] [(.int (8 : Int32)), (.ref a1)])) rfl (hb hby d5_16) rfl (by decide) (cap := 8) (by decide) (by decide) (by decide) (by decide)
  obtain ⟨b4, g4⟩ : ∃ z, z = h3.size := ⟨_, rfl⟩
  rw [← g4] at A4 st4
  have g_b4 : n0 ≤ b4 := Nat.le_trans (Nat.le_trans (Nat.le_trans Z0 E2.1) (Keep.of_wr W3).1) (Nat.le_of_eq g4.symm)
  have sz_b4 : h0.size ≤ b4 := Nat.le_trans Kc3.1 (Nat.le_of_eq g4.symm)
  have V4 := Arv.new A4 (by decide)
  have Kc4 := Kc3.ext E4
  refine own_via st4 ?_
  show own_Rch p.tables e below (T4.setTop (mkF m 19 #[.val (.ref a1)] [(.ref b4), (.ref a1)])) _
  obtain ⟨T5, h5, X5, e5, W5, st5⟩ := putF X4 hx hZ hown (host := "") (Or.inl (hw _ (List.mem_of_getElem? (i := 57) rfl))) Via.refl e4 (((F_values.ext E2).other W3 (Or.inr (slot_ne (Or.inl (hw _ (List.mem_of_getElem? (i := 58) rfl))) (Or.inl (hw _ (List.mem_of_getElem? (i := 56) rfl))) (by decide) (t := (.array (.object "java/lang/String"))) (t' := (.array (.object "java/lang/String"))) (by decide) (by decide)))).ext E4) (((E_a1.ext E2).wr W3).ext E4) (Or.inl (hw _ (List.mem_of_getElem? (i := 58) rfl))) (hw _ (List.mem_of_getElem? (i := 47) rfl)) (ty := (.array (.object "java/lang/String"))) (by decide) rfl rfl (g := (mkF m 19 #[.val (.ref a1)] [(.ref b4), (.ref a1)])) rfl rfl (hb hby d5_19)
  have Fw5 := (((F_values.ext E2).other W3 (Or.inr (slot_ne (Or.inl (hw _ (List.mem_of_getElem? (i := 58) rfl))) (Or.inl (hw _ (List.mem_of_getElem? (i := 56) rfl))) (by decide) (t := (.array (.object "java/lang/String"))) (t' := (.array (.object "java/lang/String"))) (by decide) (by decide)))).ext E4).same W5
  have N5 := Fr.snoc X5 N3 g_a1
  have Kc5 := Kc4.wr W5 (Or.inl (by simp))
  refine own_via st5 ?_
  show own_Rch p.tables e below (T5.setTop (mkF m 22 #[.val (.ref a1)] [])) _
  exact own_fin0 X5 hx Bd.returns Bd.notSynchronized (hb hby d5_22) (by decide) (by decide) (by rw [e5]; exact ⟨rfl, N5, Kc5, ((((E_a1.ext E2).wr W3).ext E4).wr W5), ((((F_size.ext E2).other W3 (Or.inr (slot_ne (Or.inl (hw _ (List.mem_of_getElem? (i := 95) rfl))) (Or.inl (hw _ (List.mem_of_getElem? (i := 56) rfl))) (by decide) (t := .int) (t' := (.array (.object "java/lang/String"))) (by decide) (by decide)))).ext E4).other W5 (Or.inr (slot_ne (Or.inl (hw _ (List.mem_of_getElem? (i := 95) rfl))) (Or.inl (hw _ (List.mem_of_getElem? (i := 58) rfl))) (by decide) (t := .int) (t' := (.array (.object "java/lang/String"))) (by decide) (by decide))))⟩)
theorem ef_e (m : MethodId) (x0 : Addr) : entryFrame m #[(.ref x0)] 1 = mkF m 0 #[.val (.ref x0)] [] := by first | (simp [entryFrame, mkF, argsToLocals, Value.category]; done) | rfl
theorem d10_0 : decode prog_65_method_2_code 0 = .ok (.aload_n 0, 1) := by decide +kernel
theorem d10_1 : decode prog_65_method_2_code 1 = .ok (.getfield 18, 3) := by decide +kernel
theorem d10_4 : decode prog_65_method_2_code 4 = .ok (.ifCond .ne 7, 3) := by decide +kernel
theorem d10_7 : decode prog_65_method_2_code 7 = .ok (.iconst 1, 1) := by decide +kernel
theorem d10_8 : decode prog_65_method_2_code 8 = .ok (.goto 4, 3) := by decide +kernel
theorem d10_12 : decode prog_65_method_2_code 12 = .ok (.ireturn, 1) := by decide +kernel
set_option maxRecDepth 65536 in
set_option maxHeartbeats 40000000 in
theorem rme (l : Launch) (Z : State) (a0 : Array Value) (hw : ∀ d ∈ tables_1, d.before a0 Z = true) (ws : List Jvm.Cond) (a1 : Addr) (h0 : Heap) (n0 : Nat) (F_size : Fld Z h0 a1 "org/rolepath/model/PropertyMap$Builder" "size" "I" (.int 0)) :
    MetFree l (⟨"org/rolepath/model/PropertyMap$Builder", "isEmpty", "()Z"⟩ : MethodName) (head1 (Jvm.Cond.code (⟨"org/rolepath/model/PropertyMap$Builder", "isEmpty", "()Z"⟩ : MethodName) prog_65_method_2_code 1 (some .boolean) :: ws) ({ frames := 0, cells := 0, slots := 0, locals := 0 } : Room)) (fun a U => a = #[(.ref a1)] ∧ Z.Warmed39 U.vm ∧ U.heap = h0) (fun _ _ _ _ _ => True) (fun _ U o U' => ∃ v L, o = .returned v ∧ own_Pure (.int (1 : Int32)) h0 n0 v U'.heap L ∧ FrameEnd U o U' L ({ frames := 0, cells := 0, slots := 0, locals := 0 } : Room).cells ({ frames := 0, cells := 0, slots := 0, locals := 0 } : Room).slots) := by
  refine MetFree.of_bodySF (plainFor_of_name pn_org_rolepath_model_PropertyMap_Builder) hisR ?_
  intro p e s m args below meth c s₁ Bd hml0 hP hK
  obtain ⟨rfl, hZ, hh⟩ := hP
  have hx := Bd.exec
  have hby := Bd.bytes
  have hml : c.maxLocals = 1 := hml0
  have hown : s.vm.findClass "org/rolepath/model/PropertyMap$Builder" = some m.cls := findClass_of_methodNamed Bd.named
  have hnm := (name_of_methodNamed Bd.named Bd.method).1
  have X0 : Stand p l e ({ frames := 0, cells := 0, slots := 0, locals := 0 } : Room) s m #[(.ref a1)] below meth c s₁ [] 0 0 := Stand.of_body Bd
  have e0 : s₁.heap = h0 := by rw [← hh, Bd.state]; rfl
  have N0 := Fr.nil n0
  show own_Rch p.tables e below (s₁.setTop (entryFrame m #[(.ref a1)] 1)) (own_End s (own_Pure (.int (1 : Int32)) h0 n0) ({ frames := 0, cells := 0, slots := 0, locals := 0 } : Room).cells ({ frames := 0, cells := 0, slots := 0, locals := 0 } : Room).slots)
  refine own_via (fun t k => castTop (ef_e m a1) k) ?_
  show own_Rch p.tables e below (s₁.setTop (mkF m 0 #[.val (.ref a1)] [])) _
  refine own_via (fun t k => XS.aloadN X0.here hx rfl (hb hby d10_0) rfl rfl k) ?_
  show own_Rch p.tables e below (s₁.setTop (mkF m 1 #[.val (.ref a1)] [(.ref a1)])) _
  obtain ⟨T1, X1, e1, st1⟩ := getF X0 hx hZ hown (host := "") (Or.inl (hw _ (List.mem_of_getElem? (i := 94) rfl))) Via.refl e0 F_size (g := (mkF m 1 #[.val (.ref a1)] [(.ref a1)])) rfl rfl (hb hby d10_1)
  refine own_via st1 ?_
  show own_Rch p.tables e below (T1.setTop (mkF m 4 #[.val (.ref a1)] [(.int (0 : Int32))])) _
  refine own_via (fun t k => XS.ifNo X1.here hx rfl (hb hby d10_4) rfl ((if0 _ _).trans (teq (by decide : (0 : Int32) = (0 : Int32))).2) k) ?_
  show own_Rch p.tables e below (T1.setTop (mkF m 7 #[.val (.ref a1)] [])) _
  refine own_via (fun t k => XS.iconst X1.here hx rfl (hb hby d10_7) k) ?_
  show own_Rch p.tables e below (T1.setTop (mkF m 8 #[.val (.ref a1)] [(.int (1 : Int32))])) _
  refine own_via (fun t k => XS.goto X1.here hx rfl (pc0 := 8) (pc' := 12) rfl (hb hby d10_8) (by decide) (by decide) k) ?_
  show own_Rch p.tables e below (T1.setTop (mkF m 12 #[.val (.ref a1)] [(.int (1 : Int32))])) _
  exact own_fin X1 hx (t := .boolean) (i := .ireturn) Bd.returns Bd.notSynchronized rfl (Or.inl ⟨rfl, by simp, _, rfl⟩) (hb hby d10_12) (by decide) (by decide) ⟨rfl, N0, e1⟩
theorem ef_t (m : MethodId) (x0 : Addr) (x1 : Addr) : entryFrame m #[(.ref x0), (.ref x1)] 2 = mkF m 0 #[.val (.ref x0), .val (.ref x1)] [] := by first | (simp [entryFrame, mkF, argsToLocals, Value.category]; done) | rfl
theorem d9_0 : decode prog_60_method_6_code 0 = .ok (.aload_n 1, 1) := by decide +kernel
theorem d9_1 : decode prog_60_method_6_code 1 = .ok (.invokevirtual 159, 3) := by decide +kernel
theorem pd_2 : parseMethodDescriptor "()Z" = some ⟨[], some .boolean⟩ := by decide +kernel
theorem d9_4 : decode prog_60_method_6_code 4 = .ok (.ifCond .ne 15, 3) := by decide +kernel
theorem d9_19 : decode prog_60_method_6_code 19 = .ok (.return_, 1) := by decide +kernel
set_option maxRecDepth 65536 in
set_option maxHeartbeats 40000000 in
theorem rmt (l : Launch) (Z : State) (a0 : Array Value) (hw : ∀ d ∈ tables_1, d.before a0 Z = true) (ws : List Jvm.Cond) (a1 a2 : Addr) (h0 : Heap) (n0 : Nat) (E_a2 : Exa Z h0 a2 "org/rolepath/model/PropertyMap$Builder") (F_size : Fld Z h0 a2 "org/rolepath/model/PropertyMap$Builder" "size" "I" (.int 0)) :
    MetFree l (⟨"org/rolepath/model/Node", "takeProperties", "(Lorg/rolepath/model/PropertyMap$Builder;)V"⟩ : MethodName) (head1 (Jvm.Cond.code (⟨"org/rolepath/model/Node", "takeProperties", "(Lorg/rolepath/model/PropertyMap$Builder;)V"⟩ : MethodName) prog_60_method_6_code 2 none :: ws) ({ frames := 1, cells := 0, slots := 0, locals := 12 } : Room)) (fun a U => a = #[(.ref a1), (.ref a2)] ∧ Z.Warmed39 U.vm ∧ U.heap = h0) (fun _ _ _ _ _ => True) (fun _ U o U' => ∃ v L, o = .returned v ∧ own_None h0 n0 v U'.heap L ∧ FrameEnd U o U' L ({ frames := 1, cells := 0, slots := 0, locals := 12 } : Room).cells ({ frames := 1, cells := 0, slots := 0, locals := 12 } : Room).slots) := by
  refine MetFree.of_bodySF (plainFor_of_name pn_org_rolepath_model_Node) hisR ?_
  intro p e s m args below meth c s₁ Bd hml0 hP hK
  obtain ⟨rfl, hZ, hh⟩ := hP
  have hx := Bd.exec
  have hby := Bd.bytes
  have hml : c.maxLocals = 2 := hml0
  have hown : s.vm.findClass "org/rolepath/model/Node" = some m.cls := findClass_of_methodNamed Bd.named
  have hnm := (name_of_methodNamed Bd.named Bd.method).1
  have X0 : Stand p l e ({ frames := 1, cells := 0, slots := 0, locals := 12 } : Room) s m #[(.ref a1), (.ref a2)] below meth c s₁ [] 0 0 := Stand.of_body Bd
  have e0 : s₁.heap = h0 := by rw [← hh, Bd.state]; rfl
  have N0 := Fr.nil n0
  show own_Rch p.tables e below (s₁.setTop (entryFrame m #[(.ref a1), (.ref a2)] 2)) (own_End s (own_None h0 n0) ({ frames := 1, cells := 0, slots := 0, locals := 12 } : Room).cells ({ frames := 1, cells := 0, slots := 0, locals := 12 } : Room).slots)
  refine own_via (fun t k => castTop (ef_t m a1 a2) k) ?_
  show own_Rch p.tables e below (s₁.setTop (mkF m 0 #[.val (.ref a1), .val (.ref a2)] [])) _
  refine own_via (fun t k => XS.aloadN X0.here hx rfl (hb hby d9_0) rfl rfl k) ?_
  show own_Rch p.tables e below (s₁.setTop (mkF m 1 #[.val (.ref a1), .val (.ref a2)] [(.ref a2)])) _
  obtain ⟨cq1, kq1, q1a, q1b, q1c⟩ := isOf hZ e0 E_a2
  obtain ⟨_, _, ⟨T1, L1, k1, n1⟩, -, X1, ⟨Lc1, hQ1, l1, y1, z1⟩, st1⟩ := X0.virtualBack hx (y := (⟨"org/rolepath/model/PropertyMap$Builder", "isEmpty", "()Z"⟩ : MethodName)) (z := (⟨"org/rolepath/model/PropertyMap$Builder", "isEmpty", "()Z"⟩ : MethodName)) hown (mvT hZ (hw _ (List.mem_of_getElem? (i := 89) rfl))) (mvT hZ (hw _ (List.mem_of_getElem? (i := 90) rfl))) (notFace_of_selects (args := #[]) (mvT hZ (hw _ (List.mem_of_getElem? (i := 92) rfl)))) (mvT hZ (hw _ (List.mem_of_getElem? (i := 92) rfl))) (mvT hZ (hw _ (List.mem_of_getElem? (i := 91) rfl))) (by decide) (backOf (W := 0) (rme l Z a0 hw [] a2 h0 n0 F_size) hZ (hw _ (List.mem_of_getElem? (i := 93) rfl)) (hw _ (List.mem_of_getElem? (i := 48) rfl)) (by decide) (by decide)) q1a q1c (g := (mkF m 1 #[.val (.ref a1), .val (.ref a2)] [(.ref a2)])) rfl (by rw [hml]; rfl) (Steps.refl _) (argsL := []) (rest := []) (lenOf pd_2 rfl) rfl (by show 2 * 0 + _ ≤ _; exact Nat.le_of_eq rfl) (hb hby d9_1) (fun _ _ => ⟨rfl, e0, (by decide : 0 + 0 ≤ _), (by decide : 0 + 0 ≤ _)⟩)
  dsimp only [Pt.U, Pt.locs, Pt.cells, Pt.slots] at X1 l1 y1 z1 st1 hQ1
  subst l1 y1 z1
  obtain ⟨rfl, N1q, eh1⟩ := hQ1
  have N1 := Fr.app N0 N1q
  refine own_via (fun t k => st1.trans k) ?_
  show own_Rch p.tables e below (T1.setTop (mkF m 4 #[.val (.ref a1), .val (.ref a2)] [(.int (1 : Int32))])) _
  refine own_via (fun t k => XS.ifYes X1.here hx rfl (pc0 := 4) (pc' := 19) rfl (hb hby d9_4) rfl ((if0 _ _).trans (feq (by decide : ¬ ((1 : Int32) = (0 : Int32)))).2) (by decide) (by decide) k) ?_
  show own_Rch p.tables e below (T1.setTop (mkF m 19 #[.val (.ref a1), .val (.ref a2)] [])) _
  exact own_fin0 X1 hx Bd.returns Bd.notSynchronized (hb hby d9_19) (by decide) (by decide) ⟨rfl, N1, eh1⟩
def QH (Z : State) (a1 rt : Addr) (h0 : Heap) (n0 : Nat) (v : Option Value) (h : Heap) (L : List Loc) : Prop := v = none ∧ Fr n0 L ∧ Keep h0 h [a1] ∧ Exa Z h a1 "org/rolepath/model/Hierarchy" ∧ Fld Z h a1 "org/rolepath/model/Hierarchy" "rootType" "Lorg/rolepath/model/RootType;" (.ref rt)
theorem ef_H (m : MethodId) (x0 : Addr) (x1 : Addr) (x2 : Addr) : entryFrame m #[(.ref x0), (.ref x1), (.ref x2)] 3 = mkF m 0 #[.val (.ref x0), .val (.ref x1), .val (.ref x2)] [] := by first | (simp [entryFrame, mkF, argsToLocals, Value.category]; done) | rfl
theorem pn_org_rolepath_model_Hierarchy : plainName "org/rolepath/model/Hierarchy" = true := by first | (simp [plainName, overriddenIn]; done) | decide +kernel
theorem d11_0 : decode prog_56_method_1_code 0 = .ok (.aload_n 0, 1) := by decide +kernel
theorem d11_1 : decode prog_56_method_1_code 1 = .ok (.invokespecial 1, 3) := by decide +kernel
theorem d11_4 : decode prog_56_method_1_code 4 = .ok (.aload_n 0, 1) := by decide +kernel
theorem d11_5 : decode prog_56_method_1_code 5 = .ok (.aload_n 1, 1) := by decide +kernel
theorem d11_6 : decode prog_56_method_1_code 6 = .ok (.putfield 7, 3) := by decide +kernel
theorem d11_9 : decode prog_56_method_1_code 9 = .ok (.aload_n 0, 1) := by decide +kernel
theorem d11_10 : decode prog_56_method_1_code 10 = .ok (.aload_n 2, 1) := by decide +kernel
theorem d11_11 : decode prog_56_method_1_code 11 = .ok (.putfield 13, 3) := by decide +kernel
theorem d11_14 : decode prog_56_method_1_code 14 = .ok (.return_, 1) := by decide +kernel
set_option maxRecDepth 65536 in
set_option maxHeartbeats 40000000 in
theorem rmH (l : Launch) (Z : State) (a0 : Array Value) (hw : ∀ d ∈ tables_1, d.before a0 Z = true) (ws : List Jvm.Cond) (a1 a2 a3 : Addr) (h0 : Heap) (n0 : Nat) (g_a1 : n0 ≤ a1) (E_a1 : Exa Z h0 a1 "org/rolepath/model/Hierarchy") (F_root : Fld Z h0 a1 "org/rolepath/model/Hierarchy" "root" "Lorg/rolepath/model/Node;" .null) (F_rootType : Fld Z h0 a1 "org/rolepath/model/Hierarchy" "rootType" "Lorg/rolepath/model/RootType;" .null) :
    MetFree l (⟨"org/rolepath/model/Hierarchy", "<init>", "(Lorg/rolepath/model/Node;Lorg/rolepath/model/RootType;)V"⟩ : MethodName) (head1 (Jvm.Cond.code (⟨"org/rolepath/model/Hierarchy", "<init>", "(Lorg/rolepath/model/Node;Lorg/rolepath/model/RootType;)V"⟩ : MethodName) prog_56_method_1_code 3 none :: ws) ({ frames := 1, cells := 0, slots := 0, locals := 12 } : Room)) (fun a U => a = #[(.ref a1), (.ref a2), (.ref a3)] ∧ Z.Warmed39 U.vm ∧ U.heap = h0) (fun _ _ _ _ _ => True) (fun _ U o U' => ∃ v L, o = .returned v ∧ QH Z a1 a3 h0 n0 v U'.heap L ∧ FrameEnd U o U' L ({ frames := 1, cells := 0, slots := 0, locals := 12 } : Room).cells ({ frames := 1, cells := 0, slots := 0, locals := 12 } : Room).slots) := by
  refine MetFree.of_bodySF (plainFor_of_name pn_org_rolepath_model_Hierarchy) hisR ?_
  intro p e s m args below meth c s₁ Bd hml0 hP hK
  obtain ⟨rfl, hZ, hh⟩ := hP
  have hx := Bd.exec
  have hby := Bd.bytes
  have hml : c.maxLocals = 3 := hml0
  have hown : s.vm.findClass "org/rolepath/model/Hierarchy" = some m.cls := findClass_of_methodNamed Bd.named
  have hnm := (name_of_methodNamed Bd.named Bd.method).1
  have X0 : Stand p l e ({ frames := 1, cells := 0, slots := 0, locals := 12 } : Room) s m #[(.ref a1), (.ref a2), (.ref a3)] below meth c s₁ [] 0 0 := Stand.of_body Bd
  have e0 : s₁.heap = h0 := by rw [← hh, Bd.state]; rfl
  have N0 := Fr.nil n0
  show own_Rch p.tables e below (s₁.setTop (entryFrame m #[(.ref a1), (.ref a2), (.ref a3)] 3)) (own_End s (QH Z a1 a3 h0 n0) ({ frames := 1, cells := 0, slots := 0, locals := 12 } : Room).cells ({ frames := 1, cells := 0, slots := 0, locals := 12 } : Room).slots)
  refine own_via (fun t k => castTop (ef_H m a1 a2 a3) k) ?_
  have Kc := Keep.refl h0 [a1]
  show own_Rch p.tables e below (s₁.setTop (mkF m 0 #[.val (.ref a1), .val (.ref a2), .val (.ref a3)] [])) _
  refine own_via (fun t k => XS.aloadN X0.here hx rfl (hb hby d11_0) rfl rfl k) ?_
  show own_Rch p.tables e below (s₁.setTop (mkF m 1 #[.val (.ref a1), .val (.ref a2), .val (.ref a3)] [(.ref a1)])) _
  obtain ⟨T1, X1, e1, st1⟩ := initO X0 hx hZ hown (hw _ (List.mem_of_getElem? (i := 102) rfl)) (hw _ (List.mem_of_getElem? (i := 10) rfl)) (hw _ (List.mem_of_getElem? (i := 11) rfl)) e0 (g := (mkF m 1 #[.val (.ref a1), .val (.ref a2), .val (.ref a3)] [(.ref a1)])) rfl (by rw [hml]; rfl) rfl (hb hby d11_1) (by decide) (W := 0) (by show 2 * 0 + _ ≤ _; exact Nat.le_of_eq rfl) (by decide)
  refine own_via st1 ?_
  show own_Rch p.tables e below (T1.setTop (mkF m 4 #[.val (.ref a1), .val (.ref a2), .val (.ref a3)] [])) _
  refine own_via (fun t k => XS.aloadN X1.here hx rfl (hb hby d11_4) rfl rfl k) ?_
  show own_Rch p.tables e below (T1.setTop (mkF m 5 #[.val (.ref a1), .val (.ref a2), .val (.ref a3)] [(.ref a1)])) _
  refine own_via (fun t k => XS.aloadN X1.here hx rfl (hb hby d11_5) rfl rfl k) ?_
  show own_Rch p.tables e below (T1.setTop (mkF m 6 #[.val (.ref a1), .val (.ref a2), .val (.ref a3)] [(.ref a2), (.ref a1)])) _
  obtain ⟨T2, h2, X2, e2, W2, st2⟩ := putF X1 hx hZ hown (host := "") (Or.inl (hw _ (List.mem_of_getElem? (i := 103) rfl))) Via.refl e1 F_root E_a1 (Or.inr ⟨(hw _ (List.mem_of_getElem? (i := 104) rfl)), rfl, hnm⟩) (hw _ (List.mem_of_getElem? (i := 97) rfl)) (ty := (.object "org/rolepath/model/Node")) (by decide) rfl rfl (g := (mkF m 6 #[.val (.ref a1), .val (.ref a2), .val (.ref a3)] [(.ref a2), (.ref a1)])) rfl rfl (hb hby d11_6)
  have Fw2 := F_root.same W2
  have N2 := Fr.snoc X2 N0 g_a1
  have Kc2 := Kc.wr W2 (Or.inl (by simp))
  refine own_via st2 ?_
  show own_Rch p.tables e below (T2.setTop (mkF m 9 #[.val (.ref a1), .val (.ref a2), .val (.ref a3)] [])) _
  refine own_via (fun t k => XS.aloadN X2.here hx rfl (hb hby d11_9) rfl rfl k) ?_
  show own_Rch p.tables e below (T2.setTop (mkF m 10 #[.val (.ref a1), .val (.ref a2), .val (.ref a3)] [(.ref a1)])) _
  refine own_via (fun t k => XS.aloadN X2.here hx rfl (hb hby d11_10) rfl rfl k) ?_
  show own_Rch p.tables e below (T2.setTop (mkF m 11 #[.val (.ref a1), .val (.ref a2), .val (.ref a3)] [(.ref a3), (.ref a1)])) _
  obtain ⟨T3, h3, X3, e3, W3, st3⟩ := putF X2 hx hZ hown (host := "") (Or.inl (hw _ (List.mem_of_getElem? (i := 105) rfl))) Via.refl e2 (F_rootType.other W2 (Or.inr (slot_ne (Or.inr (hw _ (List.mem_of_getElem? (i := 106) rfl))) (Or.inr (hw _ (List.mem_of_getElem? (i := 104) rfl))) (by decide) (t := (.object "org/rolepath/model/RootType")) (t' := (.object "org/rolepath/model/Node")) (by decide) (by decide)))) (E_a1.wr W2) (Or.inr ⟨(hw _ (List.mem_of_getElem? (i := 106) rfl)), rfl, hnm⟩) (hw _ (List.mem_of_getElem? (i := 97) rfl)) (ty := (.object "org/rolepath/model/RootType")) (by decide) rfl rfl (g := (mkF m 11 #[.val (.ref a1), .val (.ref a2), .val (.ref a3)] [(.ref a3), (.ref a1)])) rfl rfl (hb hby d11_11)
  have Fw3 := (F_rootType.other W2 (Or.inr (slot_ne (Or.inr (hw _ (List.mem_of_getElem? (i := 106) rfl))) (Or.inr (hw _ (List.mem_of_getElem? (i := 104) rfl))) (by decide) (t := (.object "org/rolepath/model/RootType")) (t' := (.object "org/rolepath/model/Node")) (by decide) (by decide)))).same W3
  have N3 := Fr.snoc X3 N2 g_a1
  have Kc3 := Kc2.wr W3 (Or.inl (by simp))
  refine own_via st3 ?_
  show own_Rch p.tables e below (T3.setTop (mkF m 14 #[.val (.ref a1), .val (.ref a2), .val (.ref a3)] [])) _
  exact own_fin0 X3 hx Bd.returns Bd.notSynchronized (hb hby d11_14) (by decide) (by decide) (by rw [e3]; exact ⟨rfl, N3, Kc3, ((E_a1.wr W2).wr W3), Fw3⟩)
def QB (Z : State) (rt : Addr) (h0 : Heap) (n0 : Nat) (v : Option Value) (h : Heap) (L : List Loc) : Prop := ∃ b, v = some (.ref b) ∧ Fr n0 L ∧ Keep h0 h [] ∧ n0 ≤ b ∧ h0.size ≤ b ∧ Exa Z h b "org/rolepath/model/Hierarchy" ∧ Fld Z h b "org/rolepath/model/Hierarchy" "rootType" "Lorg/rolepath/model/RootType;" (.ref rt)
theorem ef_b (m : MethodId) (x0 : Addr) : entryFrame m #[(.ref x0)] 1 = mkF m 0 #[.val (.ref x0)] [] := by first | (simp [entryFrame, mkF, argsToLocals, Value.category]; done) | rfl
theorem pn_org_rolepath_model_Hierarchy_Builder : plainName "org/rolepath/model/Hierarchy$Builder" = true := by first | (simp [plainName, overriddenIn]; done) | decide +kernel
theorem d8_0 : decode prog_57_method_9_code 0 = .ok (.aload_n 0, 1) := by decide +kernel
theorem d8_1 : decode prog_57_method_9_code 1 = .ok (.getfield 18, 3) := by decide +kernel
theorem d8_4 : decode prog_57_method_9_code 4 = .ok (.aload_n 0, 1) := by decide +kernel
theorem d8_5 : decode prog_57_method_9_code 5 = .ok (.getfield 33, 3) := by decide +kernel
theorem d8_8 : decode prog_57_method_9_code 8 = .ok (.invokevirtual 93, 3) := by decide +kernel
theorem pd_3 : parseMethodDescriptor "(Lorg/rolepath/model/PropertyMap$Builder;)V" = some ⟨[(.object "org/rolepath/model/PropertyMap$Builder")], none⟩ := by decide +kernel
theorem d8_11 : decode prog_57_method_9_code 11 = .ok (.new 97, 3) := by decide +kernel
theorem d8_14 : decode prog_57_method_9_code 14 = .ok (.dup, 1) := by decide +kernel
theorem d8_15 : decode prog_57_method_9_code 15 = .ok (.aload_n 0, 1) := by decide +kernel
theorem d8_16 : decode prog_57_method_9_code 16 = .ok (.getfield 13, 3) := by decide +kernel
theorem d8_19 : decode prog_57_method_9_code 19 = .ok (.aload_n 0, 1) := by decide +kernel
theorem d8_20 : decode prog_57_method_9_code 20 = .ok (.getfield 27, 3) := by decide +kernel
theorem d8_23 : decode prog_57_method_9_code 23 = .ok (.invokespecial 99, 3) := by decide +kernel
theorem pd_4 : parseMethodDescriptor "(Lorg/rolepath/model/Node;Lorg/rolepath/model/RootType;)V" = some ⟨[(.object "org/rolepath/model/Node"), (.object "org/rolepath/model/RootType")], none⟩ := by decide +kernel
theorem d8_26 : decode prog_57_method_9_code 26 = .ok (.areturn, 1) := by decide +kernel
set_option maxRecDepth 65536 in
set_option maxHeartbeats 40000000 in
theorem rmb (l : Launch) (Z : State) (a0 : Array Value) (hw : ∀ d ∈ tables_1, d.before a0 Z = true) (ws : List Jvm.Cond) (a1 rt nd pm : Addr) (h0 : Heap) (n0 : Nat) (Z0 : n0 ≤ h0.size) (B_ : own_Bd Z h0 a1 rt nd pm) :
    MetFree l (⟨"org/rolepath/model/Hierarchy$Builder", "build", "()Lorg/rolepath/model/Hierarchy;"⟩ : MethodName) (head1 (Jvm.Cond.code (⟨"org/rolepath/model/Hierarchy$Builder", "build", "()Lorg/rolepath/model/Hierarchy;"⟩ : MethodName) prog_57_method_9_code 1 (some (.object "org/rolepath/model/Hierarchy")) :: ws) ({ frames := 2, cells := 1, slots := 2, locals := 27 } : Room)) (fun a U => a = #[(.ref a1)] ∧ Z.Warmed39 U.vm ∧ U.heap = h0) (fun _ _ _ _ _ => True) (fun _ U o U' => ∃ v L, o = .returned v ∧ QB Z rt h0 n0 v U'.heap L ∧ FrameEnd U o U' L ({ frames := 2, cells := 1, slots := 2, locals := 27 } : Room).cells ({ frames := 2, cells := 1, slots := 2, locals := 27 } : Room).slots) := by
  refine MetFree.of_bodySF (plainFor_of_name pn_org_rolepath_model_Hierarchy_Builder) hisR ?_
  intro p e s m args below meth c s₁ Bd hml0 hP hK
  obtain ⟨rfl, hZ, hh⟩ := hP
  have hx := Bd.exec
  have hby := Bd.bytes
  have hml : c.maxLocals = 1 := hml0
  have hown : s.vm.findClass "org/rolepath/model/Hierarchy$Builder" = some m.cls := findClass_of_methodNamed Bd.named
  have hnm := (name_of_methodNamed Bd.named Bd.method).1
  have X0 : Stand p l e ({ frames := 2, cells := 1, slots := 2, locals := 27 } : Room) s m #[(.ref a1)] below meth c s₁ [] 0 0 := Stand.of_body Bd
  have e0 : s₁.heap = h0 := by rw [← hh, Bd.state]; rfl
  have N0 := Fr.nil n0
  show own_Rch p.tables e below (s₁.setTop (entryFrame m #[(.ref a1)] 1)) (own_End s (QB Z rt h0 n0) ({ frames := 2, cells := 1, slots := 2, locals := 27 } : Room).cells ({ frames := 2, cells := 1, slots := 2, locals := 27 } : Room).slots)
  refine own_via (fun t k => castTop (ef_b m a1) k) ?_
  have Kc := Keep.refl h0 []
  show own_Rch p.tables e below (s₁.setTop (mkF m 0 #[.val (.ref a1)] [])) _
  obtain ⟨E_b, F_b1, F_b2, F_b3, F_b4, E_n, E_p, F_p⟩ := B_
  refine own_via (fun t k => XS.aloadN X0.here hx rfl (hb hby d8_0) rfl rfl k) ?_
  show own_Rch p.tables e below (s₁.setTop (mkF m 1 #[.val (.ref a1)] [(.ref a1)])) _
  obtain ⟨T1, X1, e1, st1⟩ := getF X0 hx hZ hown (host := "") (Or.inl (hw _ (List.mem_of_getElem? (i := 40) rfl))) Via.refl e0 F_b2 (g := (mkF m 1 #[.val (.ref a1)] [(.ref a1)])) rfl rfl (hb hby d8_1)
  refine own_via st1 ?_
  show own_Rch p.tables e below (T1.setTop (mkF m 4 #[.val (.ref a1)] [(.ref nd)])) _
  refine own_via (fun t k => XS.aloadN X1.here hx rfl (hb hby d8_4) rfl rfl k) ?_
  show own_Rch p.tables e below (T1.setTop (mkF m 5 #[.val (.ref a1)] [(.ref a1), (.ref nd)])) _
  obtain ⟨T2, X2, e2, st2⟩ := getF X1 hx hZ hown (host := "") (Or.inl (hw _ (List.mem_of_getElem? (i := 59) rfl))) Via.refl e1 F_b4 (g := (mkF m 5 #[.val (.ref a1)] [(.ref a1), (.ref nd)])) rfl rfl (hb hby d8_5)
  refine own_via st2 ?_
  show own_Rch p.tables e below (T2.setTop (mkF m 8 #[.val (.ref a1)] [(.ref pm), (.ref nd)])) _
  obtain ⟨cq3, kq3, q3a, q3b, q3c⟩ := isOf hZ e2 E_n
  obtain ⟨_, _, ⟨T3, L3, k3, n3⟩, -, X3, ⟨Lc3, hQ3, l3, y3, z3⟩, st3⟩ := X2.virtualBack hx (y := (⟨"org/rolepath/model/Node", "takeProperties", "(Lorg/rolepath/model/PropertyMap$Builder;)V"⟩ : MethodName)) (z := (⟨"org/rolepath/model/Node", "takeProperties", "(Lorg/rolepath/model/PropertyMap$Builder;)V"⟩ : MethodName)) hown (mvT hZ (hw _ (List.mem_of_getElem? (i := 84) rfl))) (mvT hZ (hw _ (List.mem_of_getElem? (i := 85) rfl))) (notFace_of_selects (args := #[]) (mvT hZ (hw _ (List.mem_of_getElem? (i := 87) rfl)))) (mvT hZ (hw _ (List.mem_of_getElem? (i := 87) rfl))) (mvT hZ (hw _ (List.mem_of_getElem? (i := 86) rfl))) (by decide) (backOf (W := 0) (rmt l Z a0 hw [] nd pm h0 n0 E_p F_p) hZ (hw _ (List.mem_of_getElem? (i := 88) rfl)) (hw _ (List.mem_of_getElem? (i := 14) rfl)) (by decide) (by decide)) q3a q3c (g := (mkF m 8 #[.val (.ref a1)] [(.ref pm), (.ref nd)])) rfl (by rw [hml]; rfl) (Steps.refl _) (argsL := [(.ref pm)]) (rest := []) (lenOf pd_3 rfl) rfl (by show 2 * 0 + _ ≤ _; exact Nat.le_of_eq rfl) (hb hby d8_8) (fun _ _ => ⟨rfl, e2, (by decide : 0 + 0 ≤ _), (by decide : 0 + 0 ≤ _)⟩)
  dsimp only [Pt.U, Pt.locs, Pt.cells, Pt.slots] at X3 l3 y3 z3 st3 hQ3
  subst l3 y3 z3
  obtain ⟨rfl, N3q, eh3⟩ := hQ3
  have N3 := Fr.app N0 N3q
  refine own_via (fun t k => st3.trans k) ?_
  show own_Rch p.tables e below (T3.setTop (mkF m 11 #[.val (.ref a1)] [])) _
  obtain ⟨T4, h4, X4, e4, E4, A4, D4, -, st4⟩ := newO X3 hx hZ hown (hw _ (List.mem_of_getElem? (i := 96) rfl)) (hw _ (List.mem_of_getElem? (i := 97) rfl)) (hw _ (List.mem_of_getElem? (i := 98) rfl)) eh3 (g := (mkF m 11 #[.val (.ref a1)] [])) rfl (hb hby d8_11) (by decide) (by decide)
  obtain ⟨b4, g4⟩ : ∃ z, z = h0.size := ⟨_, rfl⟩
  rw [← g4] at A4 D4 st4
  have g_b4 : n0 ≤ b4 := Nat.le_trans Z0 (Nat.le_of_eq g4.symm)
  have sz_b4 : h0.size ≤ b4 := Nat.le_trans Kc.1 (Nat.le_of_eq g4.symm)
  have F4_root : Fld Z h4 b4 "org/rolepath/model/Hierarchy" "root" "Lorg/rolepath/model/Node;" .null := D4 (Or.inr (hw _ (List.mem_of_getElem? (i := 104) rfl))) (ty := (.object "org/rolepath/model/Node")) (by decide)
  have F4_rootType : Fld Z h4 b4 "org/rolepath/model/Hierarchy" "rootType" "Lorg/rolepath/model/RootType;" .null := D4 (Or.inr (hw _ (List.mem_of_getElem? (i := 106) rfl))) (ty := (.object "org/rolepath/model/RootType")) (by decide)
  have Kc4 := Kc.ext E4
  refine own_via st4 ?_
  show own_Rch p.tables e below (T4.setTop (mkF m 14 #[.val (.ref a1)] [(.ref b4)])) _
  refine own_via (fun t k => XS.dup X4.here hx rfl (hb hby d8_14) rfl rfl k) ?_
  show own_Rch p.tables e below (T4.setTop (mkF m 15 #[.val (.ref a1)] [(.ref b4), (.ref b4)])) _
  refine own_via (fun t k => XS.aloadN X4.here hx rfl (hb hby d8_15) rfl rfl k) ?_
  show own_Rch p.tables e below (T4.setTop (mkF m 16 #[.val (.ref a1)] [(.ref a1), (.ref b4), (.ref b4)])) _
  obtain ⟨T5, X5, e5, st5⟩ := getF X4 hx hZ hown (host := "") (Or.inl (hw _ (List.mem_of_getElem? (i := 38) rfl))) Via.refl e4 (F_b1.ext E4) (g := (mkF m 16 #[.val (.ref a1)] [(.ref a1), (.ref b4), (.ref b4)])) rfl rfl (hb hby d8_16)
  refine own_via st5 ?_
  show own_Rch p.tables e below (T5.setTop (mkF m 19 #[.val (.ref a1)] [(.ref nd), (.ref b4), (.ref b4)])) _
  refine own_via (fun t k => XS.aloadN X5.here hx rfl (hb hby d8_19) rfl rfl k) ?_
  show own_Rch p.tables e below (T5.setTop (mkF m 20 #[.val (.ref a1)] [(.ref a1), (.ref nd), (.ref b4), (.ref b4)])) _
  obtain ⟨T6, X6, e6, st6⟩ := getF X5 hx hZ hown (host := "") (Or.inl (hw _ (List.mem_of_getElem? (i := 44) rfl))) Via.refl e5 (F_b3.ext E4) (g := (mkF m 20 #[.val (.ref a1)] [(.ref a1), (.ref nd), (.ref b4), (.ref b4)])) rfl rfl (hb hby d8_20)
  refine own_via st6 ?_
  show own_Rch p.tables e below (T6.setTop (mkF m 23 #[.val (.ref a1)] [(.ref rt), (.ref nd), (.ref b4), (.ref b4)])) _
  obtain ⟨_, _, ⟨T7, L7, k7, n7⟩, -, X7, ⟨Lc7, hQ7, l7, y7, z7⟩, st7⟩ := X6.specialBackNest hx (y := (⟨"org/rolepath/model/Hierarchy", "<init>", "(Lorg/rolepath/model/Node;Lorg/rolepath/model/RootType;)V"⟩ : MethodName)) rfl hown (own_mvMN hZ (hw _ (List.mem_of_getElem? (i := 99) rfl))) (mvT hZ (hw _ (List.mem_of_getElem? (i := 100) rfl))) (mvT hZ (hw _ (List.mem_of_getElem? (i := 101) rfl))) (by decide) (backOf (W := 1) (rmH l Z a0 hw [] b4 nd rt h4 n0 g_b4 A4 F4_root F4_rootType) hZ (hw _ (List.mem_of_getElem? (i := 101) rfl)) (hw _ (List.mem_of_getElem? (i := 98) rfl)) (by decide) (by decide)) (g := (mkF m 23 #[.val (.ref a1)] [(.ref rt), (.ref nd), (.ref b4), (.ref b4)])) rfl (by rw [hml]; rfl) (Steps.refl _) (a := b4) (argsL := [(.ref nd), (.ref rt)]) (rest := [(.ref b4)]) (lenOf pd_4 rfl) rfl (by show 2 * 0 + _ ≤ _; exact Nat.le_of_eq rfl) (hb hby d8_23) (fun _ _ => ⟨rfl, e6, (by decide : 1 + 0 ≤ _), (by decide : 2 + 0 ≤ _)⟩)
  dsimp only [Pt.U, Pt.locs, Pt.cells, Pt.slots] at X7 l7 y7 z7 st7 hQ7
  subst l7 y7 z7
  obtain ⟨rfl, N7q, K7, Ee7, Ft7⟩ := hQ7
  have N7 := Fr.app N3 N7q
  have KcK7 := Kc4.trans K7 (allS (Or.inr sz_b4) all0)
  refine own_via (fun t k => st7.trans k) ?_
  show own_Rch p.tables e below (T7.setTop (mkF m 26 #[.val (.ref a1)] [(.ref b4)])) _
  exact own_fin X7 hx (t := (.object "org/rolepath/model/Hierarchy")) (i := .areturn) Bd.returns Bd.notSynchronized rfl (Or.inr (Or.inr (Or.inr (Or.inr ⟨rfl, rfl, rfl⟩)))) (hb hby d8_26) (by decide) (by decide) ⟨_, rfl, N7, KcK7, g_b4, sz_b4, Ee7, Ft7⟩
theorem ef_y (m : MethodId) (x0 : Addr) : entryFrame m #[(.ref x0)] 1 = mkF m 0 #[.val (.ref x0)] [] := by first | (simp [entryFrame, mkF, argsToLocals, Value.category]; done) | rfl
theorem d12_0 : decode prog_56_method_3_code 0 = .ok (.aload_n 0, 1) := by decide +kernel
theorem d12_1 : decode prog_56_method_3_code 1 = .ok (.getfield 13, 3) := by decide +kernel
theorem d12_4 : decode prog_56_method_3_code 4 = .ok (.areturn, 1) := by decide +kernel
set_option maxRecDepth 65536 in
set_option maxHeartbeats 40000000 in
theorem rmy (l : Launch) (Z : State) (a0 : Array Value) (hw : ∀ d ∈ tables_1, d.before a0 Z = true) (ws : List Jvm.Cond) (a1 rt : Addr) (h0 : Heap) (n0 : Nat) (F_t : Fld Z h0 a1 "org/rolepath/model/Hierarchy" "rootType" "Lorg/rolepath/model/RootType;" (.ref rt)) :
    MetFree l (⟨"org/rolepath/model/Hierarchy", "rootType", "()Lorg/rolepath/model/RootType;"⟩ : MethodName) (head1 (Jvm.Cond.code (⟨"org/rolepath/model/Hierarchy", "rootType", "()Lorg/rolepath/model/RootType;"⟩ : MethodName) prog_56_method_3_code 1 (some (.object "org/rolepath/model/RootType")) :: ws) ({ frames := 0, cells := 0, slots := 0, locals := 0 } : Room)) (fun a U => a = #[(.ref a1)] ∧ Z.Warmed39 U.vm ∧ U.heap = h0) (fun _ _ _ _ _ => True) (fun _ U o U' => ∃ v L, o = .returned v ∧ own_Pure (.ref rt) h0 n0 v U'.heap L ∧ FrameEnd U o U' L ({ frames := 0, cells := 0, slots := 0, locals := 0 } : Room).cells ({ frames := 0, cells := 0, slots := 0, locals := 0 } : Room).slots) := by
  refine MetFree.of_bodySF (plainFor_of_name pn_org_rolepath_model_Hierarchy) hisR ?_
  intro p e s m args below meth c s₁ Bd hml0 hP hK
  obtain ⟨rfl, hZ, hh⟩ := hP
  have hx := Bd.exec
  have hby := Bd.bytes
  have hml : c.maxLocals = 1 := hml0
  have hown : s.vm.findClass "org/rolepath/model/Hierarchy" = some m.cls := findClass_of_methodNamed Bd.named
  have hnm := (name_of_methodNamed Bd.named Bd.method).1
  have X0 : Stand p l e ({ frames := 0, cells := 0, slots := 0, locals := 0 } : Room) s m #[(.ref a1)] below meth c s₁ [] 0 0 := Stand.of_body Bd
  have e0 : s₁.heap = h0 := by rw [← hh, Bd.state]; rfl
  have N0 := Fr.nil n0
  show own_Rch p.tables e below (s₁.setTop (entryFrame m #[(.ref a1)] 1)) (own_End s (own_Pure (.ref rt) h0 n0) ({ frames := 0, cells := 0, slots := 0, locals := 0 } : Room).cells ({ frames := 0, cells := 0, slots := 0, locals := 0 } : Room).slots)
  refine own_via (fun t k => castTop (ef_y m a1) k) ?_
  show own_Rch p.tables e below (s₁.setTop (mkF m 0 #[.val (.ref a1)] [])) _
  refine own_via (fun t k => XS.aloadN X0.here hx rfl (hb hby d12_0) rfl rfl k) ?_
  show own_Rch p.tables e below (s₁.setTop (mkF m 1 #[.val (.ref a1)] [(.ref a1)])) _
  obtain ⟨T1, X1, e1, st1⟩ := getF X0 hx hZ hown (host := "") (Or.inl (hw _ (List.mem_of_getElem? (i := 105) rfl))) Via.refl e0 F_t (g := (mkF m 1 #[.val (.ref a1)] [(.ref a1)])) rfl rfl (hb hby d12_1)
  refine own_via st1 ?_
  show own_Rch p.tables e below (T1.setTop (mkF m 4 #[.val (.ref a1)] [(.ref rt)])) _
  exact own_fin X1 hx (t := (.object "org/rolepath/model/RootType")) (i := .areturn) Bd.returns Bd.notSynchronized rfl (Or.inr (Or.inr (Or.inr (Or.inr ⟨rfl, rfl, rfl⟩)))) (hb hby d12_4) (by decide) (by decide) ⟨rfl, N0, e1⟩
theorem ef_q (m : MethodId) (x0 : Addr) (x1 : Addr) : entryFrame m #[(.ref x0), (.ref x1)] 2 = mkF m 0 #[.val (.ref x0), .val (.ref x1)] [] := by first | (simp [entryFrame, mkF, argsToLocals, Value.category]; done) | rfl
theorem pn_java_util_Objects : plainName "java/util/Objects" = true := by first | (simp [plainName, overriddenIn]; done) | decide +kernel
theorem d14_0 : decode jdk_31_method_11_code 0 = .ok (.aload_n 0, 1) := by decide +kernel
theorem d14_1 : decode jdk_31_method_11_code 1 = .ok (.ifnonnull 12, 3) := by decide +kernel
theorem d14_13 : decode jdk_31_method_11_code 13 = .ok (.aload_n 0, 1) := by decide +kernel
theorem d14_14 : decode jdk_31_method_11_code 14 = .ok (.areturn, 1) := by decide +kernel
set_option maxRecDepth 65536 in
set_option maxHeartbeats 40000000 in
theorem rmq (l : Launch) (Z : State) (a0 : Array Value) (hw : ∀ d ∈ tables_1, d.before a0 Z = true) (ws : List Jvm.Cond) (a1 a2 : Addr) (h0 : Heap) (n0 : Nat) :
    MetFree l (⟨"java/util/Objects", "requireNonNull", "(Ljava/lang/Object;Ljava/lang/String;)Ljava/lang/Object;"⟩ : MethodName) (head1 (Jvm.Cond.code (⟨"java/util/Objects", "requireNonNull", "(Ljava/lang/Object;Ljava/lang/String;)Ljava/lang/Object;"⟩ : MethodName) jdk_31_method_11_code 2 (some (.object "java/lang/Object")) :: ws) ({ frames := 0, cells := 0, slots := 0, locals := 0 } : Room)) (fun a U => a = #[(.ref a1), (.ref a2)] ∧ Z.Warmed39 U.vm ∧ U.heap = h0) (fun _ _ _ _ _ => True) (fun _ U o U' => ∃ v L, o = .returned v ∧ own_Pure (.ref a1) h0 n0 v U'.heap L ∧ FrameEnd U o U' L ({ frames := 0, cells := 0, slots := 0, locals := 0 } : Room).cells ({ frames := 0, cells := 0, slots := 0, locals := 0 } : Room).slots) := by
  refine MetFree.of_bodySF (plainFor_of_name pn_java_util_Objects) hisR ?_
  intro p e s m args below meth c s₁ Bd hml0 hP hK
  obtain ⟨rfl, hZ, hh⟩ := hP
  have hx := Bd.exec
  have hby := Bd.bytes
  have hml : c.maxLocals = 2 := hml0
  have hown : s.vm.findClass "java/util/Objects" = some m.cls := findClass_of_methodNamed Bd.named
  have hnm := (name_of_methodNamed Bd.named Bd.method).1
  have X0 : Stand p l e ({ frames := 0, cells := 0, slots := 0, locals := 0 } : Room) s m #[(.ref a1), (.ref a2)] below meth c s₁ [] 0 0 := Stand.of_body Bd
  have e0 : s₁.heap = h0 := by rw [← hh, Bd.state]; rfl
  have N0 := Fr.nil n0
  show own_Rch p.tables e below (s₁.setTop (entryFrame m #[(.ref a1), (.ref a2)] 2)) (own_End s (own_Pure (.ref a1) h0 n0) ({ frames := 0, cells := 0, slots := 0, locals := 0 } : Room).cells ({ frames := 0, cells := 0, slots := 0, locals := 0 } : Room).slots)
  refine own_via (fun t k => castTop (ef_q m a1 a2) k) ?_
  show own_Rch p.tables e below (s₁.setTop (mkF m 0 #[.val (.ref a1), .val (.ref a2)] [])) _
  refine own_via (fun t k => XS.aloadN X0.here hx rfl (hb hby d14_0) rfl rfl k) ?_
  show own_Rch p.tables e below (s₁.setTop (mkF m 1 #[.val (.ref a1), .val (.ref a2)] [(.ref a1)])) _
  refine own_via (fun t k => XS.ifnonnullYes X0.here hx rfl (pc0 := 1) (pc' := 13) rfl (hb hby d14_1) rfl (by decide) (by decide) k) ?_
  show own_Rch p.tables e below (s₁.setTop (mkF m 13 #[.val (.ref a1), .val (.ref a2)] [])) _
  refine own_via (fun t k => XS.aloadN X0.here hx rfl (hb hby d14_13) rfl rfl k) ?_
  show own_Rch p.tables e below (s₁.setTop (mkF m 14 #[.val (.ref a1), .val (.ref a2)] [(.ref a1)])) _
  exact own_fin X0 hx (t := (.object "java/lang/Object")) (i := .areturn) Bd.returns Bd.notSynchronized rfl (Or.inr (Or.inr (Or.inr (Or.inr ⟨rfl, rfl, rfl⟩)))) (hb hby d14_14) (by decide) (by decide) ⟨rfl, N0, e0⟩
def QS (Z : State) (a1 rt nd pm : Addr) (h0 : Heap) (n0 : Nat) (v : Option Value) (h : Heap) (L : List Loc) : Prop := v = none ∧ Fr n0 L ∧ Keep h0 h [a1] ∧ own_Bd Z h a1 rt nd pm
theorem ef_s (m : MethodId) (x0 : Addr) (x1 : Addr) : entryFrame m #[(.ref x0), (.ref x1)] 2 = mkF m 0 #[.val (.ref x0), .val (.ref x1)] [] := by first | (simp [entryFrame, mkF, argsToLocals, Value.category]; done) | rfl
theorem d13_0 : decode prog_57_method_2_code 0 = .ok (.aload_n 0, 1) := by decide +kernel
theorem d13_1 : decode prog_57_method_2_code 1 = .ok (.aload_n 1, 1) := by decide +kernel
theorem d13_2 : decode prog_57_method_2_code 2 = .ok (.ldc 44, 2) := by decide +kernel
theorem d13_4 : decode prog_57_method_2_code 4 = .ok (.invokestatic 46, 3) := by decide +kernel
theorem pd_5 : parseMethodDescriptor "(Ljava/lang/Object;Ljava/lang/String;)Ljava/lang/Object;" = some ⟨[(.object "java/lang/Object"), (.object "java/lang/String")], some (.object "java/lang/Object")⟩ := by decide +kernel
theorem d13_7 : decode prog_57_method_2_code 7 = .ok (.checkcast 22, 3) := by decide +kernel
theorem d13_10 : decode prog_57_method_2_code 10 = .ok (.putfield 27, 3) := by decide +kernel
theorem d13_13 : decode prog_57_method_2_code 13 = .ok (.return_, 1) := by decide +kernel
set_option maxRecDepth 65536 in
set_option maxHeartbeats 40000000 in
theorem rms (l : Launch) (Z : State) (a0 : Array Value) (hw : ∀ d ∈ tables_1, d.before a0 Z = true) (ws : List Jvm.Cond) (a1 a2 rt nd pm : Addr) (h0 : Heap) (n0 : Nat) (Z0 : n0 ≤ h0.size) (O0 : Old Z n0 h0) (g_a1 : n0 ≤ a1) (E_a2 : Exa Z Z.heap a2 "org/rolepath/model/RootType") (B_ : own_Bd Z h0 a1 rt nd pm) :
    MetFree l (⟨"org/rolepath/model/Hierarchy$Builder", "setRootType", "(Lorg/rolepath/model/RootType;)V"⟩ : MethodName) (head1 (Jvm.Cond.code (⟨"org/rolepath/model/Hierarchy$Builder", "setRootType", "(Lorg/rolepath/model/RootType;)V"⟩ : MethodName) prog_57_method_2_code 2 none :: ws) ({ frames := 1, cells := 2, slots := 20, locals := 14 } : Room)) (fun a U => a = #[(.ref a1), (.ref a2)] ∧ Z.Warmed39 U.vm ∧ U.heap = h0) (fun _ _ _ _ _ => True) (fun _ U o U' => ∃ v L, o = .returned v ∧ QS Z a1 a2 nd pm h0 n0 v U'.heap L ∧ ReturnedEndW U o U' L ({ frames := 1, cells := 2, slots := 20, locals := 14 } : Room).cells ({ frames := 1, cells := 2, slots := 20, locals := 14 } : Room).slots) := by
  refine MetFree.of_bodySF (plainFor_of_name pn_org_rolepath_model_Hierarchy_Builder) hisR ?_
  intro p e s m args below meth c s₁ Bd hml0 hP hK
  obtain ⟨rfl, hZ, hh⟩ := hP
  have hx := Bd.exec
  have hby := Bd.bytes
  have hml : c.maxLocals = 2 := hml0
  have hown : s.vm.findClass "org/rolepath/model/Hierarchy$Builder" = some m.cls := findClass_of_methodNamed Bd.named
  have hnm := (name_of_methodNamed Bd.named Bd.method).1
  have X0 : Stand p l e ({ frames := 1, cells := 2, slots := 20, locals := 14 } : Room) s m #[(.ref a1), (.ref a2)] below meth c s₁ [] 0 0 := Stand.of_body Bd
  have e0 : s₁.heap = h0 := by rw [← hh, Bd.state]; rfl
  have N0 := Fr.nil n0
  show own_Rch p.tables e below (s₁.setTop (entryFrame m #[(.ref a1), (.ref a2)] 2)) (own_EndW s (QS Z a1 a2 nd pm h0 n0) ({ frames := 1, cells := 2, slots := 20, locals := 14 } : Room).cells ({ frames := 1, cells := 2, slots := 20, locals := 14 } : Room).slots)
  refine own_via (fun t k => castTop (ef_s m a1 a2) k) ?_
  have Kc := Keep.refl h0 [a1]
  have X0 : Stand p l e ({ frames := 1, cells := 2, slots := 20, locals := 14 } : Room) (s.setVm s.vm) m #[(.ref a1), (.ref a2)] below meth c s₁ [] 0 0 := X0
  have hZ : Z.Warmed39 (s.setVm s.vm).vm := hZ
  have hown : (s.setVm s.vm).vm.findClass "org/rolepath/model/Hierarchy$Builder" = some m.cls := hown
  have Si0 : s.Since s.vm h0.size := own_S0 s _
  show own_Rch p.tables e below (s₁.setTop (mkF m 0 #[.val (.ref a1), .val (.ref a2)] [])) _
  obtain ⟨E_b, F_b1, F_b2, F_b3, F_b4, E_n, E_p, F_p⟩ := B_
  refine own_via (fun t k => XS.aloadN X0.here hx rfl (hb hby d13_0) rfl rfl k) ?_
  show own_Rch p.tables e below (s₁.setTop (mkF m 1 #[.val (.ref a1), .val (.ref a2)] [(.ref a1)])) _
  refine own_via (fun t k => XS.aloadN X0.here hx rfl (hb hby d13_1) rfl rfl k) ?_
  show own_Rch p.tables e below (s₁.setTop (mkF m 2 #[.val (.ref a1), .val (.ref a2)] [(.ref a2), (.ref a1)])) _
  obtain ⟨b1, T1, h1, k1, X1, e1, E1, Si1, gk1, hZ, hown, st1⟩ := ldcS X0 hx hZ hown (hw _ (List.mem_of_getElem? (i := 118) rfl)) (own_wS hw) e0 Si0 (Nat.le_refl _) (g := (mkF m 2 #[.val (.ref a1), .val (.ref a2)] [(.ref a2), (.ref a1)])) rfl (hb hby d13_2) (n := 16) (by decide) (by decide) (by decide) (by decide)
  have Kc1 := Kc.ext E1
  have O1 := O0.ext E1
  refine own_via st1 ?_
  show own_Rch p.tables e below (T1.setTop (mkF m 4 #[.val (.ref a1), .val (.ref a2)] [(.ref b1), (.ref a2), (.ref a1)])) _
  obtain ⟨_, _, ⟨T2, L2, k2, n2⟩, -, X2, ⟨Lc2, hQ2, l2, y2, z2⟩, st2⟩ := Jvm.LawKit.callS X1 hx (y := (⟨"java/util/Objects", "requireNonNull", "(Ljava/lang/Object;Ljava/lang/String;)Ljava/lang/Object;"⟩ : MethodName)) hown (mvT hZ (hw _ (List.mem_of_getElem? (i := 119) rfl))) (mvT hZ (hw _ (List.mem_of_getElem? (i := 120) rfl))) (mvT hZ (hw _ (List.mem_of_getElem? (i := 121) rfl))) (mvT hZ (hw _ (List.mem_of_getElem? (i := 122) rfl))) (by decide) (backOf (W := 1) (rmq l Z a0 hw [] a2 b1 h1 n0) hZ (hw _ (List.mem_of_getElem? (i := 122) rfl)) (hw _ (List.mem_of_getElem? (i := 121) rfl)) (by decide) (by decide)) (g := (mkF m 4 #[.val (.ref a1), .val (.ref a2)] [(.ref b1), (.ref a2), (.ref a1)])) rfl (by rw [hml]; rfl) (argsL := [(.ref a2), (.ref b1)]) (rest := [(.ref a1)]) (lenOf pd_5 rfl) rfl (by show 2 * 0 + _ ≤ _; exact Nat.le_of_eq rfl) (hb hby d13_4) (fun _ _ => ⟨rfl, e1, (by decide : 2 + 0 ≤ _), (by decide : 20 + 0 ≤ _)⟩)
  dsimp only [Pt.U, Pt.locs, Pt.cells, Pt.slots] at X2 l2 y2 z2 st2 hQ2
  subst l2 y2 z2
  obtain ⟨rfl, N2q, eh2⟩ := hQ2
  have N2 := Fr.app N0 N2q
  refine own_via st2 ?_
  show own_Rch p.tables e below (T2.setTop (mkF m 7 #[.val (.ref a1), .val (.ref a2)] [(.ref a2), (.ref a1)])) _
  obtain ⟨T3, X3, e3, st3⟩ := castY X2 hx hZ hown (hw _ (List.mem_of_getElem? (i := 123) rfl)) eh2 (Ins.self (E_a2.ext O1.2)) (g := (mkF m 7 #[.val (.ref a1), .val (.ref a2)] [(.ref a2), (.ref a1)])) rfl rfl (hb hby d13_7)
  refine own_via st3 ?_
  show own_Rch p.tables e below (T3.setTop (mkF m 10 #[.val (.ref a1), .val (.ref a2)] [(.ref a2), (.ref a1)])) _
  obtain ⟨T4, h4, X4, e4, W4, st4⟩ := putF X3 hx hZ hown (host := "") (Or.inl (hw _ (List.mem_of_getElem? (i := 44) rfl))) Via.refl e3 (F_b3.ext E1) (E_b.ext E1) (Or.inl (hw _ (List.mem_of_getElem? (i := 45) rfl))) (hw _ (List.mem_of_getElem? (i := 4) rfl)) (ty := (.object "org/rolepath/model/RootType")) (by decide) rfl rfl (g := (mkF m 10 #[.val (.ref a1), .val (.ref a2)] [(.ref a2), (.ref a1)])) rfl rfl (hb hby d13_10)
  have Fw4 := (F_b3.ext E1).same W4
  have N4 := Fr.snoc X4 N2 g_a1
  have Kc4 := Kc1.wr W4 (Or.inl (by simp))
  have O4 := O1.wr W4 g_a1
  refine own_via st4 ?_
  show own_Rch p.tables e below (T4.setTop (mkF m 13 #[.val (.ref a1), .val (.ref a2)] [])) _
  exact own_fin0W X4 Si1 (by rw [e4]; exact (Nat.le_trans gk1 (Keep.of_wr W4).1)) hx Bd.returns Bd.notSynchronized (hb hby d13_13) (by decide) (by decide) (by rw [e4]; exact ⟨rfl, N4, Kc4, ((E_b.ext E1).wr W4), ((F_b1.ext E1).other W4 (Or.inr (slot_ne (Or.inr (hw _ (List.mem_of_getElem? (i := 39) rfl))) (Or.inl (hw _ (List.mem_of_getElem? (i := 45) rfl))) (by decide) (t := (.object "org/rolepath/model/Node")) (t' := (.object "org/rolepath/model/RootType")) (by decide) (by decide)))), ((F_b2.ext E1).other W4 (Or.inr (slot_ne (Or.inl (hw _ (List.mem_of_getElem? (i := 41) rfl))) (Or.inl (hw _ (List.mem_of_getElem? (i := 45) rfl))) (by decide) (t := (.object "org/rolepath/model/Node")) (t' := (.object "org/rolepath/model/RootType")) (by decide) (by decide)))), Fw4, ((F_b4.ext E1).other W4 (Or.inr (slot_ne (Or.inr (hw _ (List.mem_of_getElem? (i := 60) rfl))) (Or.inl (hw _ (List.mem_of_getElem? (i := 45) rfl))) (by decide) (t := (.object "org/rolepath/model/PropertyMap$Builder")) (t' := (.object "org/rolepath/model/RootType")) (by decide) (by decide)))), ((E_n.ext E1).wr W4), ((E_p.ext E1).wr W4), ((F_p.ext E1).other W4 (Or.inl (ne_exa ((E_p.ext E1).wr W4) ((E_b.ext E1).wr W4) (by decide))))⟩)
def QI (Z : State) (a1 rt : Addr) (h0 : Heap) (n0 : Nat) (v : Option Value) (h : Heap) (L : List Loc) : Prop := v = none ∧ Fr n0 L ∧ Keep h0 h [a1] ∧ ∃ nd pm, own_Bd Z h a1 rt nd pm
theorem ef_I (m : MethodId) (x0 : Addr) : entryFrame m #[(.ref x0)] 1 = mkF m 0 #[.val (.ref x0)] [] := by first | (simp [entryFrame, mkF, argsToLocals, Value.category]; done) | rfl
theorem d1_0 : decode prog_57_method_1_code 0 = .ok (.aload_n 0, 1) := by decide +kernel
theorem d1_1 : decode prog_57_method_1_code 1 = .ok (.invokespecial 1, 3) := by decide +kernel
theorem d1_4 : decode prog_57_method_1_code 4 = .ok (.aload_n 0, 1) := by decide +kernel
theorem d1_5 : decode prog_57_method_1_code 5 = .ok (.invokestatic 7, 3) := by decide +kernel
theorem pd_6 : parseMethodDescriptor "()Lorg/rolepath/model/Node;" = some ⟨[], some (.object "org/rolepath/model/Node")⟩ := by decide +kernel
theorem d1_8 : decode prog_57_method_1_code 8 = .ok (.putfield 13, 3) := by decide +kernel
theorem d1_11 : decode prog_57_method_1_code 11 = .ok (.aload_n 0, 1) := by decide +kernel
theorem d1_12 : decode prog_57_method_1_code 12 = .ok (.aload_n 0, 1) := by decide +kernel
theorem d1_13 : decode prog_57_method_1_code 13 = .ok (.getfield 13, 3) := by decide +kernel
theorem d1_16 : decode prog_57_method_1_code 16 = .ok (.putfield 18, 3) := by decide +kernel
theorem d1_19 : decode prog_57_method_1_code 19 = .ok (.aload_n 0, 1) := by decide +kernel
theorem d1_20 : decode prog_57_method_1_code 20 = .ok (.getstatic 21, 3) := by decide +kernel
theorem d1_23 : decode prog_57_method_1_code 23 = .ok (.putfield 27, 3) := by decide +kernel
theorem d1_26 : decode prog_57_method_1_code 26 = .ok (.aload_n 0, 1) := by decide +kernel
theorem d1_27 : decode prog_57_method_1_code 27 = .ok (.new 30, 3) := by decide +kernel
theorem d1_30 : decode prog_57_method_1_code 30 = .ok (.dup, 1) := by decide +kernel
theorem d1_31 : decode prog_57_method_1_code 31 = .ok (.invokespecial 32, 3) := by decide +kernel
theorem d1_34 : decode prog_57_method_1_code 34 = .ok (.putfield 33, 3) := by decide +kernel
theorem d1_37 : decode prog_57_method_1_code 37 = .ok (.aload_n 0, 1) := by decide +kernel
theorem d1_38 : decode prog_57_method_1_code 38 = .ok (.new 37, 3) := by decide +kernel
theorem d1_41 : decode prog_57_method_1_code 41 = .ok (.dup, 1) := by decide +kernel
theorem d1_42 : decode prog_57_method_1_code 42 = .ok (.invokespecial 39, 3) := by decide +kernel
theorem d1_45 : decode prog_57_method_1_code 45 = .ok (.putfield 40, 3) := by decide +kernel
theorem d1_48 : decode prog_57_method_1_code 48 = .ok (.return_, 1) := by decide +kernel
set_option maxRecDepth 65536 in
set_option maxHeartbeats 40000000 in
theorem rmI (l : Launch) (Z : State) (a0 : Array Value) (hw : ∀ d ∈ tables_1, d.before a0 Z = true) (ws : List Jvm.Cond) (a1 aU : Addr) (h0 : Heap) (n0 : Nat) (Z0 : n0 ≤ h0.size) (O0 : Old Z n0 h0) (S_U : Sta Z Z.heap "org/rolepath/model/RootType" "USER" "Lorg/rolepath/model/RootType;" (.ref aU)) (g_a1 : n0 ≤ a1) (E_a1 : Exa Z h0 a1 "org/rolepath/model/Hierarchy$Builder") (F_root : Fld Z h0 a1 "org/rolepath/model/Hierarchy$Builder" "root" "Lorg/rolepath/model/Node;" .null) (F_current : Fld Z h0 a1 "org/rolepath/model/Hierarchy$Builder" "current" "Lorg/rolepath/model/Node;" .null) (F_rootType : Fld Z h0 a1 "org/rolepath/model/Hierarchy$Builder" "rootType" "Lorg/rolepath/model/RootType;" .null) (F_properties : Fld Z h0 a1 "org/rolepath/model/Hierarchy$Builder" "properties" "Lorg/rolepath/model/PropertyMap$Builder;" .null) (F_keys : Fld Z h0 a1 "org/rolepath/model/Hierarchy$Builder" "keys" "Ljava/util/Map;" .null) :
    MetFree l (⟨"org/rolepath/model/Hierarchy$Builder", "<init>", "()V"⟩ : MethodName) (head1 (Jvm.Cond.code (⟨"org/rolepath/model/Hierarchy$Builder", "<init>", "()V"⟩ : MethodName) prog_57_method_1_code 1 none :: ws) ({ frames := 3, cells := 7, slots := 38, locals := 39 } : Room)) (fun a U => a = #[(.ref a1)] ∧ Z.Warmed39 U.vm ∧ U.heap = h0) (fun _ _ _ _ _ => True) (fun _ U o U' => ∃ v L, o = .returned v ∧ QI Z a1 aU h0 n0 v U'.heap L ∧ ReturnedEndW U o U' L ({ frames := 3, cells := 7, slots := 38, locals := 39 } : Room).cells ({ frames := 3, cells := 7, slots := 38, locals := 39 } : Room).slots) := by
  refine MetFree.of_bodySF (plainFor_of_name pn_org_rolepath_model_Hierarchy_Builder) hisR ?_
  intro p e s m args below meth c s₁ Bd hml0 hP hK
  obtain ⟨rfl, hZ, hh⟩ := hP
  have hx := Bd.exec
  have hby := Bd.bytes
  have hml : c.maxLocals = 1 := hml0
  have hown : s.vm.findClass "org/rolepath/model/Hierarchy$Builder" = some m.cls := findClass_of_methodNamed Bd.named
  have hnm := (name_of_methodNamed Bd.named Bd.method).1
  have X0 : Stand p l e ({ frames := 3, cells := 7, slots := 38, locals := 39 } : Room) s m #[(.ref a1)] below meth c s₁ [] 0 0 := Stand.of_body Bd
  have e0 : s₁.heap = h0 := by rw [← hh, Bd.state]; rfl
  have N0 := Fr.nil n0
  show own_Rch p.tables e below (s₁.setTop (entryFrame m #[(.ref a1)] 1)) (own_EndW s (QI Z a1 aU h0 n0) ({ frames := 3, cells := 7, slots := 38, locals := 39 } : Room).cells ({ frames := 3, cells := 7, slots := 38, locals := 39 } : Room).slots)
  refine own_via (fun t k => castTop (ef_I m a1) k) ?_
  have Kc := Keep.refl h0 [a1]
  have X0 : Stand p l e ({ frames := 3, cells := 7, slots := 38, locals := 39 } : Room) (s.setVm s.vm) m #[(.ref a1)] below meth c s₁ [] 0 0 := X0
  have hZ : Z.Warmed39 (s.setVm s.vm).vm := hZ
  have hown : (s.setVm s.vm).vm.findClass "org/rolepath/model/Hierarchy$Builder" = some m.cls := hown
  have Si0 : s.Since s.vm h0.size := own_S0 s _
  show own_Rch p.tables e below (s₁.setTop (mkF m 0 #[.val (.ref a1)] [])) _
  refine own_via (fun t k => XS.aloadN X0.here hx rfl (hb hby d1_0) rfl rfl k) ?_
  show own_Rch p.tables e below (s₁.setTop (mkF m 1 #[.val (.ref a1)] [(.ref a1)])) _
  obtain ⟨T1, X1, e1, st1⟩ := initO X0 hx hZ hown (hw _ (List.mem_of_getElem? (i := 9) rfl)) (hw _ (List.mem_of_getElem? (i := 10) rfl)) (hw _ (List.mem_of_getElem? (i := 11) rfl)) e0 (g := (mkF m 1 #[.val (.ref a1)] [(.ref a1)])) rfl (by rw [hml]; rfl) rfl (hb hby d1_1) (by decide) (W := 0) (by show 2 * 0 + _ ≤ _; exact Nat.le_of_eq rfl) (by decide)
  refine own_via st1 ?_
  show own_Rch p.tables e below (T1.setTop (mkF m 4 #[.val (.ref a1)] [])) _
  refine own_via (fun t k => XS.aloadN X1.here hx rfl (hb hby d1_4) rfl rfl k) ?_
  show own_Rch p.tables e below (T1.setTop (mkF m 5 #[.val (.ref a1)] [(.ref a1)])) _
  obtain ⟨_, _, ⟨T2, L2, k2, n2⟩, -, X2, Si2, gi2, ⟨Lc2, hQ2, l2, y2, z2⟩, st2⟩ := callSS X1 hx (y := (⟨"org/rolepath/model/Node", "root", "()Lorg/rolepath/model/Node;"⟩ : MethodName)) hown (mvT hZ (hw _ (List.mem_of_getElem? (i := 12) rfl))) (mvT hZ (hw _ (List.mem_of_getElem? (i := 13) rfl))) (mvT hZ (hw _ (List.mem_of_getElem? (i := 14) rfl))) (mvT hZ (hw _ (List.mem_of_getElem? (i := 15) rfl))) (by decide) (backOfS (W := 1) (rmr l Z a0 hw [] h0 n0 Z0) hZ (hw _ (List.mem_of_getElem? (i := 15) rfl)) (hw _ (List.mem_of_getElem? (i := 14) rfl)) (by decide) (by decide)) (g := (mkF m 5 #[.val (.ref a1)] [(.ref a1)])) rfl (by rw [hml]; rfl) (argsL := []) (rest := [(.ref a1)]) (lenOf pd_6 rfl) rfl (by show 2 * 0 + _ ≤ _; exact Nat.le_of_eq rfl) (hb hby d1_5) (fun _ _ => ⟨rfl, e1, (by decide : 0 + 3 ≤ _), (by decide : 0 + 10 ≤ _)⟩)
  dsimp only [Pt.U, Pt.locs, Pt.cells, Pt.slots] at X2 l2 y2 z2 st2 hQ2 Si2 gi2
  subst l2 y2 z2
  obtain ⟨nd, rfl, N2q, K2, g_nd, sz_nd, E_nd⟩ := hQ2
  have N2 := Fr.app N0 N2q
  have Sj2 := foldS Si0 (by rw [e1]; exact (Nat.le_refl _)) Si2 gi2
  have hZ : Z.Warmed39 (s.setVm T2.vm).vm := State.Warmed39.trans (t := (s.setVm s.vm)) hZ Si2.1
  have hown : (s.setVm T2.vm).vm.findClass "org/rolepath/model/Hierarchy$Builder" = some m.cls := by rw [show (s.setVm T2.vm).vm = T2.vm from rfl, Si2.1.alike.findClass]; exact hown
  have X2 : Stand p l e ({ frames := 3, cells := 7, slots := 38, locals := 39 } : Room) (s.setVm T2.vm) m _ below meth c T2 _ _ _ := X2
  have KcK2 := Kc.trans K2 all0
  have O_K2 := O0.keep K2 all0
  refine own_via (fun t k => st2.trans k) ?_
  show own_Rch p.tables e below (T2.setTop (mkF m 8 #[.val (.ref a1)] [(.ref nd), (.ref a1)])) _
  obtain ⟨T3, h3, X3, e3, W3, st3⟩ := putF X2 hx hZ hown (host := "") (Or.inl (hw _ (List.mem_of_getElem? (i := 38) rfl))) Via.refl rfl (F_root.keep K2 nin0) (E_a1.keep K2) (Or.inr ⟨(hw _ (List.mem_of_getElem? (i := 39) rfl)), rfl, hnm⟩) (hw _ (List.mem_of_getElem? (i := 4) rfl)) (ty := (.object "org/rolepath/model/Node")) (by decide) rfl rfl (g := (mkF m 8 #[.val (.ref a1)] [(.ref nd), (.ref a1)])) rfl rfl (hb hby d1_8)
  have Fw3 := (F_root.keep K2 nin0).same W3
  have N3 := Fr.snoc X3 N2 g_a1
  have Kc3 := KcK2.wr W3 (Or.inl (by simp))
  have O3 := O_K2.wr W3 g_a1
  refine own_via st3 ?_
  show own_Rch p.tables e below (T3.setTop (mkF m 11 #[.val (.ref a1)] [])) _
  refine own_via (fun t k => XS.aloadN X3.here hx rfl (hb hby d1_11) rfl rfl k) ?_
  show own_Rch p.tables e below (T3.setTop (mkF m 12 #[.val (.ref a1)] [(.ref a1)])) _
  refine own_via (fun t k => XS.aloadN X3.here hx rfl (hb hby d1_12) rfl rfl k) ?_
  show own_Rch p.tables e below (T3.setTop (mkF m 13 #[.val (.ref a1)] [(.ref a1), (.ref a1)])) _
  obtain ⟨T4, X4, e4, st4⟩ := getF X3 hx hZ hown (host := "") (Or.inl (hw _ (List.mem_of_getElem? (i := 38) rfl))) Via.refl e3 Fw3 (g := (mkF m 13 #[.val (.ref a1)] [(.ref a1), (.ref a1)])) rfl rfl (hb hby d1_13)
  refine own_via st4 ?_
  show own_Rch p.tables e below (T4.setTop (mkF m 16 #[.val (.ref a1)] [(.ref nd), (.ref a1)])) _
  obtain ⟨T5, h5, X5, e5, W5, st5⟩ := putF X4 hx hZ hown (host := "") (Or.inl (hw _ (List.mem_of_getElem? (i := 40) rfl))) Via.refl e4 ((F_current.keep K2 nin0).other W3 (Or.inr (slot_ne (Or.inl (hw _ (List.mem_of_getElem? (i := 41) rfl))) (Or.inr (hw _ (List.mem_of_getElem? (i := 39) rfl))) (by decide) (t := (.object "org/rolepath/model/Node")) (t' := (.object "org/rolepath/model/Node")) (by decide) (by decide)))) ((E_a1.keep K2).wr W3) (Or.inl (hw _ (List.mem_of_getElem? (i := 41) rfl))) (hw _ (List.mem_of_getElem? (i := 4) rfl)) (ty := (.object "org/rolepath/model/Node")) (by decide) rfl rfl (g := (mkF m 16 #[.val (.ref a1)] [(.ref nd), (.ref a1)])) rfl rfl (hb hby d1_16)
  have Fw5 := ((F_current.keep K2 nin0).other W3 (Or.inr (slot_ne (Or.inl (hw _ (List.mem_of_getElem? (i := 41) rfl))) (Or.inr (hw _ (List.mem_of_getElem? (i := 39) rfl))) (by decide) (t := (.object "org/rolepath/model/Node")) (t' := (.object "org/rolepath/model/Node")) (by decide) (by decide)))).same W5
  have N5 := Fr.snoc X5 N3 g_a1
  have Kc5 := Kc3.wr W5 (Or.inl (by simp))
  have O5 := O3.wr W5 g_a1
  refine own_via st5 ?_
  show own_Rch p.tables e below (T5.setTop (mkF m 19 #[.val (.ref a1)] [])) _
  refine own_via (fun t k => XS.aloadN X5.here hx rfl (hb hby d1_19) rfl rfl k) ?_
  show own_Rch p.tables e below (T5.setTop (mkF m 20 #[.val (.ref a1)] [(.ref a1)])) _
  obtain ⟨T6, X6, e6, st6⟩ := getS2 X5 hx hZ hown (host := "") (Or.inl (hw _ (List.mem_of_getElem? (i := 42) rfl))) Via.refl e5 (S_U.ext O5.2) (g := (mkF m 20 #[.val (.ref a1)] [(.ref a1)])) rfl (hb hby d1_20)
  refine own_via st6 ?_
  show own_Rch p.tables e below (T6.setTop (mkF m 23 #[.val (.ref a1)] [(.ref aU), (.ref a1)])) _
  obtain ⟨T7, h7, X7, e7, W7, st7⟩ := putF X6 hx hZ hown (host := "") (Or.inl (hw _ (List.mem_of_getElem? (i := 44) rfl))) Via.refl e6 (((F_rootType.keep K2 nin0).other W3 (Or.inr (slot_ne (Or.inl (hw _ (List.mem_of_getElem? (i := 45) rfl))) (Or.inr (hw _ (List.mem_of_getElem? (i := 39) rfl))) (by decide) (t := (.object "org/rolepath/model/RootType")) (t' := (.object "org/rolepath/model/Node")) (by decide) (by decide)))).other W5 (Or.inr (slot_ne (Or.inl (hw _ (List.mem_of_getElem? (i := 45) rfl))) (Or.inl (hw _ (List.mem_of_getElem? (i := 41) rfl))) (by decide) (t := (.object "org/rolepath/model/RootType")) (t' := (.object "org/rolepath/model/Node")) (by decide) (by decide)))) (((E_a1.keep K2).wr W3).wr W5) (Or.inl (hw _ (List.mem_of_getElem? (i := 45) rfl))) (hw _ (List.mem_of_getElem? (i := 4) rfl)) (ty := (.object "org/rolepath/model/RootType")) (by decide) rfl rfl (g := (mkF m 23 #[.val (.ref a1)] [(.ref aU), (.ref a1)])) rfl rfl (hb hby d1_23)
  have Fw7 := (((F_rootType.keep K2 nin0).other W3 (Or.inr (slot_ne (Or.inl (hw _ (List.mem_of_getElem? (i := 45) rfl))) (Or.inr (hw _ (List.mem_of_getElem? (i := 39) rfl))) (by decide) (t := (.object "org/rolepath/model/RootType")) (t' := (.object "org/rolepath/model/Node")) (by decide) (by decide)))).other W5 (Or.inr (slot_ne (Or.inl (hw _ (List.mem_of_getElem? (i := 45) rfl))) (Or.inl (hw _ (List.mem_of_getElem? (i := 41) rfl))) (by decide) (t := (.object "org/rolepath/model/RootType")) (t' := (.object "org/rolepath/model/Node")) (by decide) (by decide)))).same W7
  have N7 := Fr.snoc X7 N5 g_a1
  have Kc7 := Kc5.wr W7 (Or.inl (by simp))
  have O7 := O5.wr W7 g_a1
  refine own_via st7 ?_
  show own_Rch p.tables e below (T7.setTop (mkF m 26 #[.val (.ref a1)] [])) _
  refine own_via (fun t k => XS.aloadN X7.here hx rfl (hb hby d1_26) rfl rfl k) ?_
  show own_Rch p.tables e below (T7.setTop (mkF m 27 #[.val (.ref a1)] [(.ref a1)])) _
  obtain ⟨T8, h8, X8, e8, E8, A8, D8, -, st8⟩ := newO X7 hx hZ hown (hw _ (List.mem_of_getElem? (i := 46) rfl)) (hw _ (List.mem_of_getElem? (i := 47) rfl)) (hw _ (List.mem_of_getElem? (i := 48) rfl)) e7 (g := (mkF m 27 #[.val (.ref a1)] [(.ref a1)])) rfl (hb hby d1_27) (by decide) (by decide)
  obtain ⟨b8, g8⟩ : ∃ z, z = h7.size := ⟨_, rfl⟩
  rw [← g8] at A8 D8 st8
  have g_b8 : n0 ≤ b8 := Nat.le_trans (Nat.le_trans (Nat.le_trans (Nat.le_trans (Nat.le_trans Z0 K2.1) (Keep.of_wr W3).1) (Keep.of_wr W5).1) (Keep.of_wr W7).1) (Nat.le_of_eq g8.symm)
  have sz_b8 : h0.size ≤ b8 := Nat.le_trans Kc7.1 (Nat.le_of_eq g8.symm)
  have F8_keys : Fld Z h8 b8 "org/rolepath/model/PropertyMap$Builder" "keys" "[Ljava/lang/String;" .null := D8 (Or.inl (hw _ (List.mem_of_getElem? (i := 56) rfl))) (ty := (.array (.object "java/lang/String"))) (by decide)
  have F8_values : Fld Z h8 b8 "org/rolepath/model/PropertyMap$Builder" "values" "[Ljava/lang/String;" .null := D8 (Or.inl (hw _ (List.mem_of_getElem? (i := 58) rfl))) (ty := (.array (.object "java/lang/String"))) (by decide)
  have F8_size : Fld Z h8 b8 "org/rolepath/model/PropertyMap$Builder" "size" "I" (.int (0 : Int32)) := D8 (Or.inl (hw _ (List.mem_of_getElem? (i := 95) rfl))) (ty := .int) (by decide)
  have Kc8 := Kc7.ext E8
  have O8 := O7.ext E8
  refine own_via st8 ?_
  show own_Rch p.tables e below (T8.setTop (mkF m 30 #[.val (.ref a1)] [(.ref b8), (.ref a1)])) _
  refine own_via (fun t k => XS.dup X8.here hx rfl (hb hby d1_30) rfl rfl k) ?_
  show own_Rch p.tables e below (T8.setTop (mkF m 31 #[.val (.ref a1)] [(.ref b8), (.ref b8), (.ref a1)])) _
  obtain ⟨_, _, ⟨T9, L9, k9, n9⟩, -, X9, ⟨Lc9, hQ9, l9, y9, z9⟩, st9⟩ := X8.specialBack hx (y := (⟨"org/rolepath/model/PropertyMap$Builder", "<init>", "()V"⟩ : MethodName)) rfl hown (mvT hZ (hw _ (List.mem_of_getElem? (i := 49) rfl))) (mvT hZ (hw _ (List.mem_of_getElem? (i := 50) rfl))) (mvT hZ (hw _ (List.mem_of_getElem? (i := 51) rfl))) (by decide) (backOf (W := 2) (rmP l Z a0 hw [] b8 h8 n0 (Nat.le_trans (Nat.le_trans (Nat.le_trans (Nat.le_trans (Nat.le_trans Z0 K2.1) (Keep.of_wr W3).1) (Keep.of_wr W5).1) (Keep.of_wr W7).1) E8.1) g_b8 A8 F8_keys F8_values F8_size) hZ (hw _ (List.mem_of_getElem? (i := 51) rfl)) (hw _ (List.mem_of_getElem? (i := 48) rfl)) (by decide) (by decide)) (g := (mkF m 31 #[.val (.ref a1)] [(.ref b8), (.ref b8), (.ref a1)])) rfl (by rw [hml]; rfl) (Steps.refl _) (a := b8) (argsL := []) (rest := [(.ref b8), (.ref a1)]) (lenOf pd_0 rfl) rfl (by show 2 * 0 + _ ≤ _; exact Nat.le_of_eq rfl) (hb hby d1_31) (fun _ _ => ⟨rfl, e8, (by decide : 4 + 2 ≤ _), (by decide : 14 + 16 ≤ _)⟩)
  dsimp only [Pt.U, Pt.locs, Pt.cells, Pt.slots] at X9 l9 y9 z9 st9 hQ9
  subst l9 y9 z9
  obtain ⟨rfl, N9q, K9, Ee9, Fs9⟩ := hQ9
  have N9 := Fr.app N7 N9q
  have KcK9 := Kc8.trans K9 (allS (Or.inr sz_b8) all0)
  have O_K9 := O8.keep K9 (allS g_b8 all0)
  refine own_via (fun t k => st9.trans k) ?_
  show own_Rch p.tables e below (T9.setTop (mkF m 34 #[.val (.ref a1)] [(.ref b8), (.ref a1)])) _
  obtain ⟨T10, h10, X10, e10, W10, st10⟩ := putF X9 hx hZ hown (host := "") (Or.inl (hw _ (List.mem_of_getElem? (i := 59) rfl))) Via.refl rfl ((((((F_properties.keep K2 nin0).other W3 (Or.inr (slot_ne (Or.inr (hw _ (List.mem_of_getElem? (i := 60) rfl))) (Or.inr (hw _ (List.mem_of_getElem? (i := 39) rfl))) (by decide) (t := (.object "org/rolepath/model/PropertyMap$Builder")) (t' := (.object "org/rolepath/model/Node")) (by decide) (by decide)))).other W5 (Or.inr (slot_ne (Or.inr (hw _ (List.mem_of_getElem? (i := 60) rfl))) (Or.inl (hw _ (List.mem_of_getElem? (i := 41) rfl))) (by decide) (t := (.object "org/rolepath/model/PropertyMap$Builder")) (t' := (.object "org/rolepath/model/Node")) (by decide) (by decide)))).other W7 (Or.inr (slot_ne (Or.inr (hw _ (List.mem_of_getElem? (i := 60) rfl))) (Or.inl (hw _ (List.mem_of_getElem? (i := 45) rfl))) (by decide) (t := (.object "org/rolepath/model/PropertyMap$Builder")) (t' := (.object "org/rolepath/model/RootType")) (by decide) (by decide)))).ext E8).keep K9 (ninS (ne_exa ((((((E_a1.keep K2).wr W3).wr W5).wr W7).ext E8).keep K9) Ee9 (by decide)) nin0)) ((((((E_a1.keep K2).wr W3).wr W5).wr W7).ext E8).keep K9) (Or.inr ⟨(hw _ (List.mem_of_getElem? (i := 60) rfl)), rfl, hnm⟩) (hw _ (List.mem_of_getElem? (i := 4) rfl)) (ty := (.object "org/rolepath/model/PropertyMap$Builder")) (by decide) rfl rfl (g := (mkF m 34 #[.val (.ref a1)] [(.ref b8), (.ref a1)])) rfl rfl (hb hby d1_34)
  have Fw10 := ((((((F_properties.keep K2 nin0).other W3 (Or.inr (slot_ne (Or.inr (hw _ (List.mem_of_getElem? (i := 60) rfl))) (Or.inr (hw _ (List.mem_of_getElem? (i := 39) rfl))) (by decide) (t := (.object "org/rolepath/model/PropertyMap$Builder")) (t' := (.object "org/rolepath/model/Node")) (by decide) (by decide)))).other W5 (Or.inr (slot_ne (Or.inr (hw _ (List.mem_of_getElem? (i := 60) rfl))) (Or.inl (hw _ (List.mem_of_getElem? (i := 41) rfl))) (by decide) (t := (.object "org/rolepath/model/PropertyMap$Builder")) (t' := (.object "org/rolepath/model/Node")) (by decide) (by decide)))).other W7 (Or.inr (slot_ne (Or.inr (hw _ (List.mem_of_getElem? (i := 60) rfl))) (Or.inl (hw _ (List.mem_of_getElem? (i := 45) rfl))) (by decide) (t := (.object "org/rolepath/model/PropertyMap$Builder")) (t' := (.object "org/rolepath/model/RootType")) (by decide) (by decide)))).ext E8).keep K9 (ninS (ne_exa ((((((E_a1.keep K2).wr W3).wr W5).wr W7).ext E8).keep K9) Ee9 (by decide)) nin0)).same W10
  have N10 := Fr.snoc X10 N9 g_a1
  have Kc10 := KcK9.wr W10 (Or.inl (by simp))
  have O10 := O_K9.wr W10 g_a1
  refine own_via st10 ?_
  show own_Rch p.tables e below (T10.setTop (mkF m 37 #[.val (.ref a1)] [])) _
  refine own_via (fun t k => XS.aloadN X10.here hx rfl (hb hby d1_37) rfl rfl k) ?_
  show own_Rch p.tables e below (T10.setTop (mkF m 38 #[.val (.ref a1)] [(.ref a1)])) _
  obtain ⟨T11, h11, X11, e11, E11, A11, D11, -, st11⟩ := newO X10 hx hZ hown (hw _ (List.mem_of_getElem? (i := 61) rfl)) (hw _ (List.mem_of_getElem? (i := 62) rfl)) (hw _ (List.mem_of_getElem? (i := 63) rfl)) e10 (g := (mkF m 38 #[.val (.ref a1)] [(.ref a1)])) rfl (hb hby d1_38) (by decide) (by decide)
  obtain ⟨b11, g11⟩ : ∃ z, z = h10.size := ⟨_, rfl⟩
  rw [← g11] at A11 D11 st11
  have g_b11 : n0 ≤ b11 := Nat.le_trans (Nat.le_trans (Nat.le_trans (Nat.le_trans (Nat.le_trans (Nat.le_trans (Nat.le_trans (Nat.le_trans Z0 K2.1) (Keep.of_wr W3).1) (Keep.of_wr W5).1) (Keep.of_wr W7).1) E8.1) K9.1) (Keep.of_wr W10).1) (Nat.le_of_eq g11.symm)
  have sz_b11 : h0.size ≤ b11 := Nat.le_trans Kc10.1 (Nat.le_of_eq g11.symm)
  have F11_loadFactor : Fld Z h11 b11 "java/util/HashMap" "loadFactor" "F" (.float (0 : UInt32)) := D11 (Or.inr (hw _ (List.mem_of_getElem? (i := 76) rfl))) (ty := .float) (by decide)
  have Kc11 := Kc10.ext E11
  have O11 := O10.ext E11
  refine own_via st11 ?_
  show own_Rch p.tables e below (T11.setTop (mkF m 41 #[.val (.ref a1)] [(.ref b11), (.ref a1)])) _
  refine own_via (fun t k => XS.dup X11.here hx rfl (hb hby d1_41) rfl rfl k) ?_
  show own_Rch p.tables e below (T11.setTop (mkF m 42 #[.val (.ref a1)] [(.ref b11), (.ref b11), (.ref a1)])) _
  obtain ⟨_, _, ⟨T12, L12, k12, n12⟩, -, X12, ⟨Lc12, hQ12, l12, y12, z12⟩, st12⟩ := X11.specialBack hx (y := (⟨"java/util/HashMap", "<init>", "()V"⟩ : MethodName)) rfl hown (mvT hZ (hw _ (List.mem_of_getElem? (i := 64) rfl))) (mvT hZ (hw _ (List.mem_of_getElem? (i := 65) rfl))) (mvT hZ (hw _ (List.mem_of_getElem? (i := 66) rfl))) (by decide) (backOf (W := 2) (rmHM l Z a0 hw [] b11 h11 n0 g_b11 A11 F11_loadFactor) hZ (hw _ (List.mem_of_getElem? (i := 66) rfl)) (hw _ (List.mem_of_getElem? (i := 63) rfl)) (by decide) (by decide)) (g := (mkF m 42 #[.val (.ref a1)] [(.ref b11), (.ref b11), (.ref a1)])) rfl (by rw [hml]; rfl) (Steps.refl _) (a := b11) (argsL := []) (rest := [(.ref b11), (.ref a1)]) (lenOf pd_0 rfl) rfl (by show 2 * 0 + _ ≤ _; exact Nat.le_of_eq rfl) (hb hby d1_42) (fun _ _ => ⟨rfl, e11, (by decide : 7 + 0 ≤ _), (by decide : 38 + 0 ≤ _)⟩)
  dsimp only [Pt.U, Pt.locs, Pt.cells, Pt.slots] at X12 l12 y12 z12 st12 hQ12
  subst l12 y12 z12
  obtain ⟨rfl, N12q, K12⟩ := hQ12
  have N12 := Fr.app N10 N12q
  have KcK12 := Kc11.trans K12 (allS (Or.inr sz_b11) all0)
  have O_K12 := O11.keep K12 (allS g_b11 all0)
  refine own_via (fun t k => st12.trans k) ?_
  show own_Rch p.tables e below (T12.setTop (mkF m 45 #[.val (.ref a1)] [(.ref b11), (.ref a1)])) _
  obtain ⟨T13, h13, X13, e13, W13, st13⟩ := putF X12 hx hZ hown (host := "") (Or.inl (hw _ (List.mem_of_getElem? (i := 77) rfl))) Via.refl rfl (((((((((F_keys.keep K2 nin0).other W3 (Or.inr (slot_ne (Or.inr (hw _ (List.mem_of_getElem? (i := 78) rfl))) (Or.inr (hw _ (List.mem_of_getElem? (i := 39) rfl))) (by decide) (t := (.object "java/util/Map")) (t' := (.object "org/rolepath/model/Node")) (by decide) (by decide)))).other W5 (Or.inr (slot_ne (Or.inr (hw _ (List.mem_of_getElem? (i := 78) rfl))) (Or.inl (hw _ (List.mem_of_getElem? (i := 41) rfl))) (by decide) (t := (.object "java/util/Map")) (t' := (.object "org/rolepath/model/Node")) (by decide) (by decide)))).other W7 (Or.inr (slot_ne (Or.inr (hw _ (List.mem_of_getElem? (i := 78) rfl))) (Or.inl (hw _ (List.mem_of_getElem? (i := 45) rfl))) (by decide) (t := (.object "java/util/Map")) (t' := (.object "org/rolepath/model/RootType")) (by decide) (by decide)))).ext E8).keep K9 (ninS (ne_exa (((((((((E_a1.keep K2).wr W3).wr W5).wr W7).ext E8).keep K9).wr W10).ext E11).keep K12) (((Ee9.wr W10).ext E11).keep K12) (by decide)) nin0)).other W10 (Or.inr (slot_ne (Or.inr (hw _ (List.mem_of_getElem? (i := 78) rfl))) (Or.inr (hw _ (List.mem_of_getElem? (i := 60) rfl))) (by decide) (t := (.object "java/util/Map")) (t' := (.object "org/rolepath/model/PropertyMap$Builder")) (by decide) (by decide)))).ext E11).keep K12 (ninS (ne_exa (((((((((E_a1.keep K2).wr W3).wr W5).wr W7).ext E8).keep K9).wr W10).ext E11).keep K12) (A11.keep K12) (by decide)) nin0)) (((((((((E_a1.keep K2).wr W3).wr W5).wr W7).ext E8).keep K9).wr W10).ext E11).keep K12) (Or.inr ⟨(hw _ (List.mem_of_getElem? (i := 78) rfl)), rfl, hnm⟩) (hw _ (List.mem_of_getElem? (i := 4) rfl)) (ty := (.object "java/util/Map")) (by decide) rfl rfl (g := (mkF m 45 #[.val (.ref a1)] [(.ref b11), (.ref a1)])) rfl rfl (hb hby d1_45)
  have Fw13 := (((((((((F_keys.keep K2 nin0).other W3 (Or.inr (slot_ne (Or.inr (hw _ (List.mem_of_getElem? (i := 78) rfl))) (Or.inr (hw _ (List.mem_of_getElem? (i := 39) rfl))) (by decide) (t := (.object "java/util/Map")) (t' := (.object "org/rolepath/model/Node")) (by decide) (by decide)))).other W5 (Or.inr (slot_ne (Or.inr (hw _ (List.mem_of_getElem? (i := 78) rfl))) (Or.inl (hw _ (List.mem_of_getElem? (i := 41) rfl))) (by decide) (t := (.object "java/util/Map")) (t' := (.object "org/rolepath/model/Node")) (by decide) (by decide)))).other W7 (Or.inr (slot_ne (Or.inr (hw _ (List.mem_of_getElem? (i := 78) rfl))) (Or.inl (hw _ (List.mem_of_getElem? (i := 45) rfl))) (by decide) (t := (.object "java/util/Map")) (t' := (.object "org/rolepath/model/RootType")) (by decide) (by decide)))).ext E8).keep K9 (ninS (ne_exa (((((((((E_a1.keep K2).wr W3).wr W5).wr W7).ext E8).keep K9).wr W10).ext E11).keep K12) (((Ee9.wr W10).ext E11).keep K12) (by decide)) nin0)).other W10 (Or.inr (slot_ne (Or.inr (hw _ (List.mem_of_getElem? (i := 78) rfl))) (Or.inr (hw _ (List.mem_of_getElem? (i := 60) rfl))) (by decide) (t := (.object "java/util/Map")) (t' := (.object "org/rolepath/model/PropertyMap$Builder")) (by decide) (by decide)))).ext E11).keep K12 (ninS (ne_exa (((((((((E_a1.keep K2).wr W3).wr W5).wr W7).ext E8).keep K9).wr W10).ext E11).keep K12) (A11.keep K12) (by decide)) nin0)).same W13
  have N13 := Fr.snoc X13 N12 g_a1
  have Kc13 := KcK12.wr W13 (Or.inl (by simp))
  have O13 := O_K12.wr W13 g_a1
  refine own_via st13 ?_
  show own_Rch p.tables e below (T13.setTop (mkF m 48 #[.val (.ref a1)] [])) _
  exact own_fin0W X13 Sj2 (by rw [e13]; exact (Nat.le_trans (Nat.le_trans (Nat.le_trans (Nat.le_trans (Nat.le_trans (Nat.le_trans (Nat.le_trans (Nat.le_trans (Nat.le_trans (Nat.le_refl _) (Keep.of_wr W3).1) (Keep.of_wr W5).1) (Keep.of_wr W7).1) E8.1) K9.1) (Keep.of_wr W10).1) E11.1) K12.1) (Keep.of_wr W13).1)) hx Bd.returns Bd.notSynchronized (hb hby d1_48) (by decide) (by decide) (by rw [e13]; exact ⟨rfl, N13, Kc13, _, _, ((((((((((E_a1.keep K2).wr W3).wr W5).wr W7).ext E8).keep K9).wr W10).ext E11).keep K12).wr W13), ((((((((Fw3.other W5 (Or.inr (slot_ne (Or.inr (hw _ (List.mem_of_getElem? (i := 39) rfl))) (Or.inl (hw _ (List.mem_of_getElem? (i := 41) rfl))) (by decide) (t := (.object "org/rolepath/model/Node")) (t' := (.object "org/rolepath/model/Node")) (by decide) (by decide)))).other W7 (Or.inr (slot_ne (Or.inr (hw _ (List.mem_of_getElem? (i := 39) rfl))) (Or.inl (hw _ (List.mem_of_getElem? (i := 45) rfl))) (by decide) (t := (.object "org/rolepath/model/Node")) (t' := (.object "org/rolepath/model/RootType")) (by decide) (by decide)))).ext E8).keep K9 (ninS (ne_exa ((((((((((E_a1.keep K2).wr W3).wr W5).wr W7).ext E8).keep K9).wr W10).ext E11).keep K12).wr W13) ((((Ee9.wr W10).ext E11).keep K12).wr W13) (by decide)) nin0)).other W10 (Or.inr (slot_ne (Or.inr (hw _ (List.mem_of_getElem? (i := 39) rfl))) (Or.inr (hw _ (List.mem_of_getElem? (i := 60) rfl))) (by decide) (t := (.object "org/rolepath/model/Node")) (t' := (.object "org/rolepath/model/PropertyMap$Builder")) (by decide) (by decide)))).ext E11).keep K12 (ninS (ne_exa ((((((((((E_a1.keep K2).wr W3).wr W5).wr W7).ext E8).keep K9).wr W10).ext E11).keep K12).wr W13) ((A11.keep K12).wr W13) (by decide)) nin0)).other W13 (Or.inr (slot_ne (Or.inr (hw _ (List.mem_of_getElem? (i := 39) rfl))) (Or.inr (hw _ (List.mem_of_getElem? (i := 78) rfl))) (by decide) (t := (.object "org/rolepath/model/Node")) (t' := (.object "java/util/Map")) (by decide) (by decide)))), (((((((Fw5.other W7 (Or.inr (slot_ne (Or.inl (hw _ (List.mem_of_getElem? (i := 41) rfl))) (Or.inl (hw _ (List.mem_of_getElem? (i := 45) rfl))) (by decide) (t := (.object "org/rolepath/model/Node")) (t' := (.object "org/rolepath/model/RootType")) (by decide) (by decide)))).ext E8).keep K9 (ninS (ne_exa ((((((((((E_a1.keep K2).wr W3).wr W5).wr W7).ext E8).keep K9).wr W10).ext E11).keep K12).wr W13) ((((Ee9.wr W10).ext E11).keep K12).wr W13) (by decide)) nin0)).other W10 (Or.inr (slot_ne (Or.inl (hw _ (List.mem_of_getElem? (i := 41) rfl))) (Or.inr (hw _ (List.mem_of_getElem? (i := 60) rfl))) (by decide) (t := (.object "org/rolepath/model/Node")) (t' := (.object "org/rolepath/model/PropertyMap$Builder")) (by decide) (by decide)))).ext E11).keep K12 (ninS (ne_exa ((((((((((E_a1.keep K2).wr W3).wr W5).wr W7).ext E8).keep K9).wr W10).ext E11).keep K12).wr W13) ((A11.keep K12).wr W13) (by decide)) nin0)).other W13 (Or.inr (slot_ne (Or.inl (hw _ (List.mem_of_getElem? (i := 41) rfl))) (Or.inr (hw _ (List.mem_of_getElem? (i := 78) rfl))) (by decide) (t := (.object "org/rolepath/model/Node")) (t' := (.object "java/util/Map")) (by decide) (by decide)))), ((((((Fw7.ext E8).keep K9 (ninS (ne_exa ((((((((((E_a1.keep K2).wr W3).wr W5).wr W7).ext E8).keep K9).wr W10).ext E11).keep K12).wr W13) ((((Ee9.wr W10).ext E11).keep K12).wr W13) (by decide)) nin0)).other W10 (Or.inr (slot_ne (Or.inl (hw _ (List.mem_of_getElem? (i := 45) rfl))) (Or.inr (hw _ (List.mem_of_getElem? (i := 60) rfl))) (by decide) (t := (.object "org/rolepath/model/RootType")) (t' := (.object "org/rolepath/model/PropertyMap$Builder")) (by decide) (by decide)))).ext E11).keep K12 (ninS (ne_exa ((((((((((E_a1.keep K2).wr W3).wr W5).wr W7).ext E8).keep K9).wr W10).ext E11).keep K12).wr W13) ((A11.keep K12).wr W13) (by decide)) nin0)).other W13 (Or.inr (slot_ne (Or.inl (hw _ (List.mem_of_getElem? (i := 45) rfl))) (Or.inr (hw _ (List.mem_of_getElem? (i := 78) rfl))) (by decide) (t := (.object "org/rolepath/model/RootType")) (t' := (.object "java/util/Map")) (by decide) (by decide)))), (((Fw10.ext E11).keep K12 (ninS (ne_exa ((((((((((E_a1.keep K2).wr W3).wr W5).wr W7).ext E8).keep K9).wr W10).ext E11).keep K12).wr W13) ((A11.keep K12).wr W13) (by decide)) nin0)).other W13 (Or.inr (slot_ne (Or.inr (hw _ (List.mem_of_getElem? (i := 60) rfl))) (Or.inr (hw _ (List.mem_of_getElem? (i := 78) rfl))) (by decide) (t := (.object "org/rolepath/model/PropertyMap$Builder")) (t' := (.object "java/util/Map")) (by decide) (by decide)))), (((((((((E_nd.wr W3).wr W5).wr W7).ext E8).keep K9).wr W10).ext E11).keep K12).wr W13), ((((Ee9.wr W10).ext E11).keep K12).wr W13), ((((Fs9.other W10 (Or.inl (ne_exa ((((Ee9.wr W10).ext E11).keep K12).wr W13) ((((((((((E_a1.keep K2).wr W3).wr W5).wr W7).ext E8).keep K9).wr W10).ext E11).keep K12).wr W13) (by decide)))).ext E11).keep K12 (ninS (ne_exa ((((Ee9.wr W10).ext E11).keep K12).wr W13) ((A11.keep K12).wr W13) (by decide)) nin0)).other W13 (Or.inl (ne_exa ((((Ee9.wr W10).ext E11).keep K12).wr W13) ((((((((((E_a1.keep K2).wr W3).wr W5).wr W7).ext E8).keep K9).wr W10).ext E11).keep K12).wr W13) (by decide))))⟩)
def Q0 (n0 : Nat) (v : Option Value) (h : Heap) (L : List Loc) : Prop := v = some (.int (1 : Int32)) ∧ Fr n0 L
theorem pd_7 : parseMethodDescriptor "()Lorg/rolepath/model/Hierarchy;" = some ⟨[], some (.object "org/rolepath/model/Hierarchy")⟩ := by decide +kernel
theorem pd_8 : parseMethodDescriptor "()Lorg/rolepath/model/RootType;" = some ⟨[], some (.object "org/rolepath/model/RootType")⟩ := by decide +kernel
theorem pd_9 : parseMethodDescriptor "(Lorg/rolepath/model/RootType;)V" = some ⟨[(.object "org/rolepath/model/RootType")], none⟩ := by decide +kernel
set_option maxRecDepth 65536 in
set_option maxHeartbeats 40000000 in
theorem tl {p : Program} {l : Launch} {e : Env} {s : State} {m : MethodId} {args : Array Value} {below : List Frame} {meth : Method} {c : Code} {T0 : State} {locs : List Loc} {Z : State} {a0 : Array Value} {h0 : Heap} {n0 : Nat} (p1 p2 m2 : Int32) (x3 x4 aU : Addr)
    (X0 : Stand p l e room_1 (s.setVm s.vm) m args below meth c T0 locs 0 0) (hx : p.tables.exec = Jvm.exec) (hZ : Z.Warmed39 (s.setVm s.vm).vm) (hw : ∀ d ∈ tables_1, d.before a0 Z = true) (hby : c.code = code) (hml : c.maxLocals = 8) (hown : (s.setVm s.vm).vm.findClass "org/rolepath/model/BuilderSetRootTypePinLaw" = some m.cls) (hret : meth.sig.returnType = some .boolean) (hlk : meth.locks = false) (e0 : T0.heap = h0) (N0 : Fr n0 locs) (Si0 : s.Since s.vm h0.size) (Z0 : n0 ≤ h0.size) (O0 : Old Z n0 h0) (S_U : Sta Z Z.heap "org/rolepath/model/RootType" "USER" "Lorg/rolepath/model/RootType;" (.ref aU)) (E_x3 : Exa Z Z.heap x3 "org/rolepath/model/RootType") (E_x4 : Exa Z Z.heap x4 "org/rolepath/model/RootType") :
    own_Rch p.tables e below (T0.setTop (mkF m 37 #[.val (.int p1), .val (.int p2), .val (.int m2), .val (.ref x3), .val (.ref x4), .unset, .unset, .unset] [])) (own_EndW s (Q0 n0) room_1.cells room_1.slots) := by
  show own_Rch p.tables e below (T0.setTop (mkF m 37 #[.val (.int p1), .val (.int p2), .val (.int m2), .val (.ref x3), .val (.ref x4), .unset, .unset, .unset] [])) _
  obtain ⟨T1, h1, X1, e1, E1, A1, D1, -, st1⟩ := newO X0 hx hZ hown (hw _ (List.mem_of_getElem? (i := 3) rfl)) (hw _ (List.mem_of_getElem? (i := 4) rfl)) (hw _ (List.mem_of_getElem? (i := 5) rfl)) e0 (g := (mkF m 37 #[.val (.int p1), .val (.int p2), .val (.int m2), .val (.ref x3), .val (.ref x4), .unset, .unset, .unset] [])) rfl (hb hby at_37) (by decide) (by decide)
  obtain ⟨b1, g1⟩ : ∃ z, z = h0.size := ⟨_, rfl⟩
  rw [← g1] at A1 D1 st1
  have g_b1 : n0 ≤ b1 := Nat.le_trans Z0 (Nat.le_of_eq g1.symm)
  have F1_root : Fld Z h1 b1 "org/rolepath/model/Hierarchy$Builder" "root" "Lorg/rolepath/model/Node;" .null := D1 (Or.inr (hw _ (List.mem_of_getElem? (i := 39) rfl))) (ty := (.object "org/rolepath/model/Node")) (by decide)
  have F1_current : Fld Z h1 b1 "org/rolepath/model/Hierarchy$Builder" "current" "Lorg/rolepath/model/Node;" .null := D1 (Or.inl (hw _ (List.mem_of_getElem? (i := 41) rfl))) (ty := (.object "org/rolepath/model/Node")) (by decide)
  have F1_rootType : Fld Z h1 b1 "org/rolepath/model/Hierarchy$Builder" "rootType" "Lorg/rolepath/model/RootType;" .null := D1 (Or.inl (hw _ (List.mem_of_getElem? (i := 45) rfl))) (ty := (.object "org/rolepath/model/RootType")) (by decide)
  have F1_properties : Fld Z h1 b1 "org/rolepath/model/Hierarchy$Builder" "properties" "Lorg/rolepath/model/PropertyMap$Builder;" .null := D1 (Or.inr (hw _ (List.mem_of_getElem? (i := 60) rfl))) (ty := (.object "org/rolepath/model/PropertyMap$Builder")) (by decide)
  have F1_keys : Fld Z h1 b1 "org/rolepath/model/Hierarchy$Builder" "keys" "Ljava/util/Map;" .null := D1 (Or.inr (hw _ (List.mem_of_getElem? (i := 78) rfl))) (ty := (.object "java/util/Map")) (by decide)
  have O1 := O0.ext E1
  refine own_via st1 ?_
  show own_Rch p.tables e below (T1.setTop (mkF m 40 #[.val (.int p1), .val (.int p2), .val (.int m2), .val (.ref x3), .val (.ref x4), .unset, .unset, .unset] [(.ref b1)])) _
  refine own_via (fun t k => XS.dup X1.here hx rfl (hb hby at_40) rfl rfl k) ?_
  show own_Rch p.tables e below (T1.setTop (mkF m 41 #[.val (.int p1), .val (.int p2), .val (.int m2), .val (.ref x3), .val (.ref x4), .unset, .unset, .unset] [(.ref b1), (.ref b1)])) _
  obtain ⟨_, _, ⟨T2, L2, k2, n2⟩, -, X2, Si2, gi2, ⟨Lc2, hQ2, l2, y2, z2⟩, st2⟩ := X1.specialBackS hx (y := (⟨"org/rolepath/model/Hierarchy$Builder", "<init>", "()V"⟩ : MethodName)) rfl hown (mvT hZ (hw _ (List.mem_of_getElem? (i := 6) rfl))) (mvT hZ (hw _ (List.mem_of_getElem? (i := 7) rfl))) (mvT hZ (hw _ (List.mem_of_getElem? (i := 8) rfl))) (by decide) (backOfS (W := 1) (rmI l Z a0 hw [] b1 aU h1 n0 (Nat.le_trans Z0 E1.1) O1 S_U g_b1 A1 F1_root F1_current F1_rootType F1_properties F1_keys) hZ (hw _ (List.mem_of_getElem? (i := 8) rfl)) (hw _ (List.mem_of_getElem? (i := 5) rfl)) (by decide) (by decide)) (g := (mkF m 41 #[.val (.int p1), .val (.int p2), .val (.int m2), .val (.ref x3), .val (.ref x4), .unset, .unset, .unset] [(.ref b1), (.ref b1)])) rfl (by rw [hml]; rfl) (Steps.refl _) (a := b1) (argsL := []) (rest := [(.ref b1)]) (lenOf pd_0 rfl) rfl (by show 2 * 0 + _ ≤ _; exact Nat.le_of_eq rfl) (hb hby at_41) (fun _ _ => ⟨rfl, e1, (by decide : 1 + 7 ≤ _), (by decide : 5 + 38 ≤ _)⟩)
  dsimp only [Pt.U, Pt.locs, Pt.cells, Pt.slots] at X2 l2 y2 z2 st2 hQ2 Si2 gi2
  subst l2 y2 z2
  obtain ⟨rfl, N2q, K2, nd, pm, E_b_2, F_b1_2, F_b2_2, F_b3_2, F_b4_2, E_n_2, E_p_2, F_p_2⟩ := hQ2
  have N2 := Fr.app N0 N2q
  have Sj2 := foldS Si0 (by rw [e1]; exact (Nat.le_trans (Nat.le_refl _) E1.1)) Si2 gi2
  have hZ : Z.Warmed39 (s.setVm T2.vm).vm := State.Warmed39.trans (t := (s.setVm s.vm)) hZ Si2.1
  have hown : (s.setVm T2.vm).vm.findClass "org/rolepath/model/BuilderSetRootTypePinLaw" = some m.cls := by rw [show (s.setVm T2.vm).vm = T2.vm from rfl, Si2.1.alike.findClass]; exact hown
  have X2 : Stand p l e room_1 (s.setVm T2.vm) m _ below meth c T2 _ _ _ := X2
  have O_K2 := O1.keep K2 (allS g_b1 all0)
  refine own_via (fun t k => st2.trans k) ?_
  show own_Rch p.tables e below (T2.setTop (mkF m 44 #[.val (.int p1), .val (.int p2), .val (.int m2), .val (.ref x3), .val (.ref x4), .unset, .unset, .unset] [(.ref b1)])) _
  refine own_via (fun t k => XS.astore X2.here hx rfl (hb hby at_44) rfl rfl (l' := #[.val (.int p1), .val (.int p2), .val (.int m2), .val (.ref x3), .val (.ref x4), .val (.ref b1), .unset, .unset]) rfl k) ?_
  show own_Rch p.tables e below (T2.setTop (mkF m 46 #[.val (.int p1), .val (.int p2), .val (.int m2), .val (.ref x3), .val (.ref x4), .val (.ref b1), .unset, .unset] [])) _
  refine own_via (fun t k => XS.iloadN X2.here hx rfl (hb hby at_46) rfl k) ?_
  show own_Rch p.tables e below (T2.setTop (mkF m 47 #[.val (.int p1), .val (.int p2), .val (.int m2), .val (.ref x3), .val (.ref x4), .val (.ref b1), .unset, .unset] [(.int m2)])) _
  by_cases c47 : m2 = (0 : Int32)
  · refine own_via (fun t k => XS.ifNo X2.here hx rfl (hb hby at_47) rfl ((if0 _ _).trans (teq c47).2) k) ?_
    show own_Rch p.tables e below (T2.setTop (mkF m 50 #[.val (.int p1), .val (.int p2), .val (.int m2), .val (.ref x3), .val (.ref x4), .val (.ref b1), .unset, .unset] [])) _
    refine own_via (fun t k => XS.aload X2.here hx rfl (hb hby at_50) rfl rfl k) ?_
    show own_Rch p.tables e below (T2.setTop (mkF m 52 #[.val (.int p1), .val (.int p2), .val (.int m2), .val (.ref x3), .val (.ref x4), .val (.ref b1), .unset, .unset] [(.ref b1)])) _
    obtain ⟨cq3, kq3, q3a, q3b, q3c⟩ := isOf hZ rfl E_b_2
    obtain ⟨_, _, ⟨T3, L3, k3, n3⟩, -, X3, ⟨Lc3, hQ3, l3, y3, z3⟩, st3⟩ := X2.virtualBack hx (y := (⟨"org/rolepath/model/Hierarchy$Builder", "build", "()Lorg/rolepath/model/Hierarchy;"⟩ : MethodName)) (z := (⟨"org/rolepath/model/Hierarchy$Builder", "build", "()Lorg/rolepath/model/Hierarchy;"⟩ : MethodName)) hown (mvT hZ (hw _ (List.mem_of_getElem? (i := 79) rfl))) (mvT hZ (hw _ (List.mem_of_getElem? (i := 80) rfl))) (notFace_of_selects (args := #[]) (mvT hZ (hw _ (List.mem_of_getElem? (i := 82) rfl)))) (mvT hZ (hw _ (List.mem_of_getElem? (i := 82) rfl))) (mvT hZ (hw _ (List.mem_of_getElem? (i := 81) rfl))) (by decide) (backOf (W := 0) (rmb l Z a0 hw [] b1 aU nd pm T2.heap n0 (Nat.le_trans (Nat.le_trans Z0 E1.1) K2.1) ⟨E_b_2, F_b1_2, F_b2_2, F_b3_2, F_b4_2, E_n_2, E_p_2, F_p_2⟩) hZ (hw _ (List.mem_of_getElem? (i := 83) rfl)) (hw _ (List.mem_of_getElem? (i := 5) rfl)) (by decide) (by decide)) q3a q3c (g := (mkF m 52 #[.val (.int p1), .val (.int p2), .val (.int m2), .val (.ref x3), .val (.ref x4), .val (.ref b1), .unset, .unset] [(.ref b1)])) rfl (by rw [hml]; rfl) (Steps.refl _) (argsL := []) (rest := []) (lenOf pd_7 rfl) rfl (by show 2 * 0 + _ ≤ _; exact Nat.le_of_eq rfl) (hb hby at_52) (fun _ _ => ⟨rfl, rfl, (by decide : 8 + 1 ≤ _), (by decide : 43 + 2 ≤ _)⟩)
    dsimp only [Pt.U, Pt.locs, Pt.cells, Pt.slots] at X3 l3 y3 z3 st3 hQ3
    subst l3 y3 z3
    obtain ⟨hh3, rfl, N3q, K3, g_hh3, sz_hh3, Ex3, Fx3⟩ := hQ3
    have N3 := Fr.app N2 N3q
    have O_K3 := O_K2.keep K3 all0
    refine own_via (fun t k => st3.trans k) ?_
    show own_Rch p.tables e below (T3.setTop (mkF m 55 #[.val (.int p1), .val (.int p2), .val (.int m2), .val (.ref x3), .val (.ref x4), .val (.ref b1), .unset, .unset] [(.ref hh3)])) _
    obtain ⟨cq4, kq4, q4a, q4b, q4c⟩ := isOf hZ rfl Ex3
    obtain ⟨_, _, ⟨T4, L4, k4, n4⟩, -, X4, ⟨Lc4, hQ4, l4, y4, z4⟩, st4⟩ := X3.virtualBack hx (y := (⟨"org/rolepath/model/Hierarchy", "rootType", "()Lorg/rolepath/model/RootType;"⟩ : MethodName)) (z := (⟨"org/rolepath/model/Hierarchy", "rootType", "()Lorg/rolepath/model/RootType;"⟩ : MethodName)) hown (mvT hZ (hw _ (List.mem_of_getElem? (i := 107) rfl))) (mvT hZ (hw _ (List.mem_of_getElem? (i := 108) rfl))) (notFace_of_selects (args := #[]) (mvT hZ (hw _ (List.mem_of_getElem? (i := 110) rfl)))) (mvT hZ (hw _ (List.mem_of_getElem? (i := 110) rfl))) (mvT hZ (hw _ (List.mem_of_getElem? (i := 109) rfl))) (by decide) (backOf (W := 0) (rmy l Z a0 hw [] hh3 aU T3.heap n0 Fx3) hZ (hw _ (List.mem_of_getElem? (i := 111) rfl)) (hw _ (List.mem_of_getElem? (i := 98) rfl)) (by decide) (by decide)) q4a q4c (g := (mkF m 55 #[.val (.int p1), .val (.int p2), .val (.int m2), .val (.ref x3), .val (.ref x4), .val (.ref b1), .unset, .unset] [(.ref hh3)])) rfl (by rw [hml]; rfl) (Steps.refl _) (argsL := []) (rest := []) (lenOf pd_8 rfl) rfl (by show 2 * 0 + _ ≤ _; exact Nat.le_of_eq rfl) (hb hby at_55) (fun _ _ => ⟨rfl, rfl, (by decide : 9 + 0 ≤ _), (by decide : 45 + 0 ≤ _)⟩)
    dsimp only [Pt.U, Pt.locs, Pt.cells, Pt.slots] at X4 l4 y4 z4 st4 hQ4
    subst l4 y4 z4
    obtain ⟨rfl, N4q, eh4⟩ := hQ4
    have N4 := Fr.app N3 N4q
    refine own_via (fun t k => st4.trans k) ?_
    show own_Rch p.tables e below (T4.setTop (mkF m 58 #[.val (.int p1), .val (.int p2), .val (.int m2), .val (.ref x3), .val (.ref x4), .val (.ref b1), .unset, .unset] [(.ref aU)])) _
    obtain ⟨T5, X5, e5, st5⟩ := getS2 X4 hx hZ hown (host := "") (Or.inl (hw _ (List.mem_of_getElem? (i := 112) rfl))) Via.refl eh4 (S_U.ext O_K3.2) (g := (mkF m 58 #[.val (.int p1), .val (.int p2), .val (.int m2), .val (.ref x3), .val (.ref x4), .val (.ref b1), .unset, .unset] [(.ref aU)])) rfl (hb hby at_58)
    refine own_via st5 ?_
    show own_Rch p.tables e below (T5.setTop (mkF m 61 #[.val (.int p1), .val (.int p2), .val (.int m2), .val (.ref x3), .val (.ref x4), .val (.ref b1), .unset, .unset] [(.ref aU), (.ref aU)])) _
    refine own_via (fun t k => Jvm.RoadKit.acmp (g := (mkF m 61 #[.val (.int p1), .val (.int p2), .val (.int m2), .val (.ref x3), .val (.ref x4), .val (.ref b1), .unset, .unset] [(.ref aU), (.ref aU)])) X5 hx rfl rfl rfl (pc0 := 61) (pc' := 64) (same := true) rfl (hb hby at_61) rfl (decide_eq_true rfl) (by decide) (by decide) k) ?_
    show own_Rch p.tables e below (T5.setTop (mkF m 64 #[.val (.int p1), .val (.int p2), .val (.int m2), .val (.ref x3), .val (.ref x4), .val (.ref b1), .unset, .unset] [])) _
    refine own_via (fun t k => XS.iconst X5.here hx rfl (hb hby at_64) k) ?_
    show own_Rch p.tables e below (T5.setTop (mkF m 65 #[.val (.int p1), .val (.int p2), .val (.int m2), .val (.ref x3), .val (.ref x4), .val (.ref b1), .unset, .unset] [(.int (1 : Int32))])) _
    refine own_via (fun t k => XS.goto X5.here hx rfl (pc0 := 65) (pc' := 69) rfl (hb hby at_65) (by decide) (by decide) k) ?_
    show own_Rch p.tables e below (T5.setTop (mkF m 69 #[.val (.int p1), .val (.int p2), .val (.int m2), .val (.ref x3), .val (.ref x4), .val (.ref b1), .unset, .unset] [(.int (1 : Int32))])) _
    exact own_finW X5 Sj2 (by rw [e5]; exact (Nat.le_trans (Nat.le_refl _) K3.1)) hx (t := .boolean) (i := .ireturn) hret hlk rfl (Or.inl ⟨rfl, by simp, _, rfl⟩) (hb hby at_69) (by decide) (by decide) ⟨rfl, N4⟩
  · refine own_via (fun t k => XS.ifYes X2.here hx rfl (pc0 := 47) (pc' := 70) rfl (hb hby at_47) rfl ((if0 _ _).trans (feq c47).2) (by decide) (by decide) k) ?_
    show own_Rch p.tables e below (T2.setTop (mkF m 70 #[.val (.int p1), .val (.int p2), .val (.int m2), .val (.ref x3), .val (.ref x4), .val (.ref b1), .unset, .unset] [])) _
    refine own_via (fun t k => XS.aload X2.here hx rfl (hb hby at_70) rfl rfl k) ?_
    show own_Rch p.tables e below (T2.setTop (mkF m 72 #[.val (.int p1), .val (.int p2), .val (.int m2), .val (.ref x3), .val (.ref x4), .val (.ref b1), .unset, .unset] [(.ref b1)])) _
    refine own_via (fun t k => XS.aloadN X2.here hx rfl (hb hby at_72) rfl rfl k) ?_
    show own_Rch p.tables e below (T2.setTop (mkF m 73 #[.val (.int p1), .val (.int p2), .val (.int m2), .val (.ref x3), .val (.ref x4), .val (.ref b1), .unset, .unset] [(.ref x3), (.ref b1)])) _
    obtain ⟨cq6, kq6, q6a, q6b, q6c⟩ := isOf hZ rfl E_b_2
    obtain ⟨_, _, ⟨T6, L6, k6, n6⟩, -, X6, Si6, gi6, ⟨Lc6, hQ6, l6, y6, z6⟩, st6⟩ := X2.virtualBackS hx (y := (⟨"org/rolepath/model/Hierarchy$Builder", "setRootType", "(Lorg/rolepath/model/RootType;)V"⟩ : MethodName)) (z := (⟨"org/rolepath/model/Hierarchy$Builder", "setRootType", "(Lorg/rolepath/model/RootType;)V"⟩ : MethodName)) hown (mvT hZ (hw _ (List.mem_of_getElem? (i := 113) rfl))) (mvT hZ (hw _ (List.mem_of_getElem? (i := 114) rfl))) (notFace_of_selects (args := #[]) (mvT hZ (hw _ (List.mem_of_getElem? (i := 116) rfl)))) (mvT hZ (hw _ (List.mem_of_getElem? (i := 116) rfl))) (mvT hZ (hw _ (List.mem_of_getElem? (i := 115) rfl))) (by decide) (backOfS (W := 0) (rms l Z a0 hw [] b1 x3 aU nd pm T2.heap n0 (Nat.le_trans (Nat.le_trans Z0 E1.1) K2.1) O_K2 g_b1 E_x3 ⟨E_b_2, F_b1_2, F_b2_2, F_b3_2, F_b4_2, E_n_2, E_p_2, F_p_2⟩) hZ (hw _ (List.mem_of_getElem? (i := 117) rfl)) (hw _ (List.mem_of_getElem? (i := 5) rfl)) (by decide) (by decide)) q6a q6c (g := (mkF m 73 #[.val (.int p1), .val (.int p2), .val (.int m2), .val (.ref x3), .val (.ref x4), .val (.ref b1), .unset, .unset] [(.ref x3), (.ref b1)])) rfl (by rw [hml]; rfl) (Steps.refl _) (argsL := [(.ref x3)]) (rest := []) (lenOf pd_9 rfl) rfl (by show 2 * 0 + _ ≤ _; exact Nat.le_of_eq rfl) (hb hby at_73) (fun _ _ => ⟨rfl, rfl, (by decide : 8 + 2 ≤ _), (by decide : 43 + 20 ≤ _)⟩)
    dsimp only [Pt.U, Pt.locs, Pt.cells, Pt.slots] at X6 l6 y6 z6 st6 hQ6 Si6 gi6
    subst l6 y6 z6
    obtain ⟨rfl, N6q, K6, E_b_6, F_b1_6, F_b2_6, F_b3_6, F_b4_6, E_n_6, E_p_6, F_p_6⟩ := hQ6
    have N6 := Fr.app N2 N6q
    have Sj6 := foldS Sj2 (Nat.le_refl _) Si6 gi6
    have hZ : Z.Warmed39 (s.setVm T6.vm).vm := State.Warmed39.trans (t := (s.setVm T2.vm)) hZ Si6.1
    have hown : (s.setVm T6.vm).vm.findClass "org/rolepath/model/BuilderSetRootTypePinLaw" = some m.cls := by rw [show (s.setVm T6.vm).vm = T6.vm from rfl, Si6.1.alike.findClass]; exact hown
    have X6 : Stand p l e room_1 (s.setVm T6.vm) m _ below meth c T6 _ _ _ := X6
    have O_K6 := O_K2.keep K6 (allS g_b1 all0)
    refine own_via (fun t k => st6.trans k) ?_
    show own_Rch p.tables e below (T6.setTop (mkF m 76 #[.val (.int p1), .val (.int p2), .val (.int m2), .val (.ref x3), .val (.ref x4), .val (.ref b1), .unset, .unset] [])) _
    refine own_via (fun t k => XS.iloadN X6.here hx rfl (hb hby at_76) rfl k) ?_
    show own_Rch p.tables e below (T6.setTop (mkF m 77 #[.val (.int p1), .val (.int p2), .val (.int m2), .val (.ref x3), .val (.ref x4), .val (.ref b1), .unset, .unset] [(.int m2)])) _
    refine own_via (fun t k => XS.iconst X6.here hx rfl (hb hby at_77) k) ?_
    show own_Rch p.tables e below (T6.setTop (mkF m 78 #[.val (.int p1), .val (.int p2), .val (.int m2), .val (.ref x3), .val (.ref x4), .val (.ref b1), .unset, .unset] [(.int (1 : Int32)), (.int m2)])) _
    by_cases c78 : m2 = (1 : Int32)
    · refine own_via (fun t k => XS.icmpNo X6.here hx rfl (hb hby at_78) rfl (teq c78).2 k) ?_
      show own_Rch p.tables e below (T6.setTop (mkF m 81 #[.val (.int p1), .val (.int p2), .val (.int m2), .val (.ref x3), .val (.ref x4), .val (.ref b1), .unset, .unset] [])) _
      refine own_via (fun t k => XS.aload X6.here hx rfl (hb hby at_81) rfl rfl k) ?_
      show own_Rch p.tables e below (T6.setTop (mkF m 83 #[.val (.int p1), .val (.int p2), .val (.int m2), .val (.ref x3), .val (.ref x4), .val (.ref b1), .unset, .unset] [(.ref b1)])) _
      obtain ⟨cq7, kq7, q7a, q7b, q7c⟩ := isOf hZ rfl E_b_6
      obtain ⟨_, _, ⟨T7, L7, k7, n7⟩, -, X7, ⟨Lc7, hQ7, l7, y7, z7⟩, st7⟩ := X6.virtualBack hx (y := (⟨"org/rolepath/model/Hierarchy$Builder", "build", "()Lorg/rolepath/model/Hierarchy;"⟩ : MethodName)) (z := (⟨"org/rolepath/model/Hierarchy$Builder", "build", "()Lorg/rolepath/model/Hierarchy;"⟩ : MethodName)) hown (mvT hZ (hw _ (List.mem_of_getElem? (i := 79) rfl))) (mvT hZ (hw _ (List.mem_of_getElem? (i := 80) rfl))) (notFace_of_selects (args := #[]) (mvT hZ (hw _ (List.mem_of_getElem? (i := 82) rfl)))) (mvT hZ (hw _ (List.mem_of_getElem? (i := 82) rfl))) (mvT hZ (hw _ (List.mem_of_getElem? (i := 81) rfl))) (by decide) (backOf (W := 0) (rmb l Z a0 hw [] b1 x3 nd pm T6.heap n0 (Nat.le_trans (Nat.le_trans (Nat.le_trans Z0 E1.1) K2.1) K6.1) ⟨E_b_6, F_b1_6, F_b2_6, F_b3_6, F_b4_6, E_n_6, E_p_6, F_p_6⟩) hZ (hw _ (List.mem_of_getElem? (i := 83) rfl)) (hw _ (List.mem_of_getElem? (i := 5) rfl)) (by decide) (by decide)) q7a q7c (g := (mkF m 83 #[.val (.int p1), .val (.int p2), .val (.int m2), .val (.ref x3), .val (.ref x4), .val (.ref b1), .unset, .unset] [(.ref b1)])) rfl (by rw [hml]; rfl) (Steps.refl _) (argsL := []) (rest := []) (lenOf pd_7 rfl) rfl (by show 2 * 0 + _ ≤ _; exact Nat.le_of_eq rfl) (hb hby at_83) (fun _ _ => ⟨rfl, rfl, (by decide : 10 + 1 ≤ _), (by decide : 63 + 2 ≤ _)⟩)
      dsimp only [Pt.U, Pt.locs, Pt.cells, Pt.slots] at X7 l7 y7 z7 st7 hQ7
      subst l7 y7 z7
      obtain ⟨hh7, rfl, N7q, K7, g_hh7, sz_hh7, Ex7, Fx7⟩ := hQ7
      have N7 := Fr.app N6 N7q
      have O_K7 := O_K6.keep K7 all0
      refine own_via (fun t k => st7.trans k) ?_
      show own_Rch p.tables e below (T7.setTop (mkF m 86 #[.val (.int p1), .val (.int p2), .val (.int m2), .val (.ref x3), .val (.ref x4), .val (.ref b1), .unset, .unset] [(.ref hh7)])) _
      obtain ⟨cq8, kq8, q8a, q8b, q8c⟩ := isOf hZ rfl Ex7
      obtain ⟨_, _, ⟨T8, L8, k8, n8⟩, -, X8, ⟨Lc8, hQ8, l8, y8, z8⟩, st8⟩ := X7.virtualBack hx (y := (⟨"org/rolepath/model/Hierarchy", "rootType", "()Lorg/rolepath/model/RootType;"⟩ : MethodName)) (z := (⟨"org/rolepath/model/Hierarchy", "rootType", "()Lorg/rolepath/model/RootType;"⟩ : MethodName)) hown (mvT hZ (hw _ (List.mem_of_getElem? (i := 107) rfl))) (mvT hZ (hw _ (List.mem_of_getElem? (i := 108) rfl))) (notFace_of_selects (args := #[]) (mvT hZ (hw _ (List.mem_of_getElem? (i := 110) rfl)))) (mvT hZ (hw _ (List.mem_of_getElem? (i := 110) rfl))) (mvT hZ (hw _ (List.mem_of_getElem? (i := 109) rfl))) (by decide) (backOf (W := 0) (rmy l Z a0 hw [] hh7 x3 T7.heap n0 Fx7) hZ (hw _ (List.mem_of_getElem? (i := 111) rfl)) (hw _ (List.mem_of_getElem? (i := 98) rfl)) (by decide) (by decide)) q8a q8c (g := (mkF m 86 #[.val (.int p1), .val (.int p2), .val (.int m2), .val (.ref x3), .val (.ref x4), .val (.ref b1), .unset, .unset] [(.ref hh7)])) rfl (by rw [hml]; rfl) (Steps.refl _) (argsL := []) (rest := []) (lenOf pd_8 rfl) rfl (by show 2 * 0 + _ ≤ _; exact Nat.le_of_eq rfl) (hb hby at_86) (fun _ _ => ⟨rfl, rfl, (by decide : 11 + 0 ≤ _), (by decide : 65 + 0 ≤ _)⟩)
      dsimp only [Pt.U, Pt.locs, Pt.cells, Pt.slots] at X8 l8 y8 z8 st8 hQ8
      subst l8 y8 z8
      obtain ⟨rfl, N8q, eh8⟩ := hQ8
      have N8 := Fr.app N7 N8q
      refine own_via (fun t k => st8.trans k) ?_
      show own_Rch p.tables e below (T8.setTop (mkF m 89 #[.val (.int p1), .val (.int p2), .val (.int m2), .val (.ref x3), .val (.ref x4), .val (.ref b1), .unset, .unset] [(.ref x3)])) _
      refine own_via (fun t k => XS.aloadN X8.here hx rfl (hb hby at_89) rfl rfl k) ?_
      show own_Rch p.tables e below (T8.setTop (mkF m 90 #[.val (.int p1), .val (.int p2), .val (.int m2), .val (.ref x3), .val (.ref x4), .val (.ref b1), .unset, .unset] [(.ref x3), (.ref x3)])) _
      refine own_via (fun t k => Jvm.RoadKit.acmp (g := (mkF m 90 #[.val (.int p1), .val (.int p2), .val (.int m2), .val (.ref x3), .val (.ref x4), .val (.ref b1), .unset, .unset] [(.ref x3), (.ref x3)])) X8 hx rfl rfl rfl (pc0 := 90) (pc' := 93) (same := true) rfl (hb hby at_90) rfl (decide_eq_true rfl) (by decide) (by decide) k) ?_
      show own_Rch p.tables e below (T8.setTop (mkF m 93 #[.val (.int p1), .val (.int p2), .val (.int m2), .val (.ref x3), .val (.ref x4), .val (.ref b1), .unset, .unset] [])) _
      refine own_via (fun t k => XS.iconst X8.here hx rfl (hb hby at_93) k) ?_
      show own_Rch p.tables e below (T8.setTop (mkF m 94 #[.val (.int p1), .val (.int p2), .val (.int m2), .val (.ref x3), .val (.ref x4), .val (.ref b1), .unset, .unset] [(.int (1 : Int32))])) _
      refine own_via (fun t k => XS.goto X8.here hx rfl (pc0 := 94) (pc' := 98) rfl (hb hby at_94) (by decide) (by decide) k) ?_
      show own_Rch p.tables e below (T8.setTop (mkF m 98 #[.val (.int p1), .val (.int p2), .val (.int m2), .val (.ref x3), .val (.ref x4), .val (.ref b1), .unset, .unset] [(.int (1 : Int32))])) _
      exact own_finW X8 Sj6 (by rw [eh8]; exact (Nat.le_trans (Nat.le_refl _) K7.1)) hx (t := .boolean) (i := .ireturn) hret hlk rfl (Or.inl ⟨rfl, by simp, _, rfl⟩) (hb hby at_98) (by decide) (by decide) ⟨rfl, N8⟩
    · refine own_via (fun t k => XS.icmpYes X6.here hx rfl (pc0 := 78) (pc' := 99) rfl (hb hby at_78) rfl (feq c78).2 (by decide) (by decide) k) ?_
      show own_Rch p.tables e below (T6.setTop (mkF m 99 #[.val (.int p1), .val (.int p2), .val (.int m2), .val (.ref x3), .val (.ref x4), .val (.ref b1), .unset, .unset] [])) _
      refine own_via (fun t k => XS.iloadN X6.here hx rfl (hb hby at_99) rfl k) ?_
      show own_Rch p.tables e below (T6.setTop (mkF m 100 #[.val (.int p1), .val (.int p2), .val (.int m2), .val (.ref x3), .val (.ref x4), .val (.ref b1), .unset, .unset] [(.int m2)])) _
      refine own_via (fun t k => XS.iconst X6.here hx rfl (hb hby at_100) k) ?_
      show own_Rch p.tables e below (T6.setTop (mkF m 101 #[.val (.int p1), .val (.int p2), .val (.int m2), .val (.ref x3), .val (.ref x4), .val (.ref b1), .unset, .unset] [(.int (2 : Int32)), (.int m2)])) _
      by_cases c101 : m2 = (2 : Int32)
      · refine own_via (fun t k => XS.icmpNo X6.here hx rfl (hb hby at_101) rfl (teq c101).2 k) ?_
        show own_Rch p.tables e below (T6.setTop (mkF m 104 #[.val (.int p1), .val (.int p2), .val (.int m2), .val (.ref x3), .val (.ref x4), .val (.ref b1), .unset, .unset] [])) _
        refine own_via (fun t k => XS.aload X6.here hx rfl (hb hby at_104) rfl rfl k) ?_
        show own_Rch p.tables e below (T6.setTop (mkF m 106 #[.val (.int p1), .val (.int p2), .val (.int m2), .val (.ref x3), .val (.ref x4), .val (.ref b1), .unset, .unset] [(.ref b1)])) _
        refine own_via (fun t k => XS.aload X6.here hx rfl (hb hby at_106) rfl rfl k) ?_
        show own_Rch p.tables e below (T6.setTop (mkF m 108 #[.val (.int p1), .val (.int p2), .val (.int m2), .val (.ref x3), .val (.ref x4), .val (.ref b1), .unset, .unset] [(.ref x4), (.ref b1)])) _
        obtain ⟨cq9, kq9, q9a, q9b, q9c⟩ := isOf hZ rfl E_b_6
        obtain ⟨_, _, ⟨T9, L9, k9, n9⟩, -, X9, Si9, gi9, ⟨Lc9, hQ9, l9, y9, z9⟩, st9⟩ := X6.virtualBackS hx (y := (⟨"org/rolepath/model/Hierarchy$Builder", "setRootType", "(Lorg/rolepath/model/RootType;)V"⟩ : MethodName)) (z := (⟨"org/rolepath/model/Hierarchy$Builder", "setRootType", "(Lorg/rolepath/model/RootType;)V"⟩ : MethodName)) hown (mvT hZ (hw _ (List.mem_of_getElem? (i := 113) rfl))) (mvT hZ (hw _ (List.mem_of_getElem? (i := 114) rfl))) (notFace_of_selects (args := #[]) (mvT hZ (hw _ (List.mem_of_getElem? (i := 116) rfl)))) (mvT hZ (hw _ (List.mem_of_getElem? (i := 116) rfl))) (mvT hZ (hw _ (List.mem_of_getElem? (i := 115) rfl))) (by decide) (backOfS (W := 0) (rms l Z a0 hw [] b1 x4 x3 nd pm T6.heap n0 (Nat.le_trans (Nat.le_trans (Nat.le_trans Z0 E1.1) K2.1) K6.1) O_K6 g_b1 E_x4 ⟨E_b_6, F_b1_6, F_b2_6, F_b3_6, F_b4_6, E_n_6, E_p_6, F_p_6⟩) hZ (hw _ (List.mem_of_getElem? (i := 117) rfl)) (hw _ (List.mem_of_getElem? (i := 5) rfl)) (by decide) (by decide)) q9a q9c (g := (mkF m 108 #[.val (.int p1), .val (.int p2), .val (.int m2), .val (.ref x3), .val (.ref x4), .val (.ref b1), .unset, .unset] [(.ref x4), (.ref b1)])) rfl (by rw [hml]; rfl) (Steps.refl _) (argsL := [(.ref x4)]) (rest := []) (lenOf pd_9 rfl) rfl (by show 2 * 0 + _ ≤ _; exact Nat.le_of_eq rfl) (hb hby at_108) (fun _ _ => ⟨rfl, rfl, (by decide : 10 + 2 ≤ _), (by decide : 63 + 20 ≤ _)⟩)
        dsimp only [Pt.U, Pt.locs, Pt.cells, Pt.slots] at X9 l9 y9 z9 st9 hQ9 Si9 gi9
        subst l9 y9 z9
        obtain ⟨rfl, N9q, K9, E_b_9, F_b1_9, F_b2_9, F_b3_9, F_b4_9, E_n_9, E_p_9, F_p_9⟩ := hQ9
        have N9 := Fr.app N6 N9q
        have Sj9 := foldS Sj6 (Nat.le_refl _) Si9 gi9
        have hZ : Z.Warmed39 (s.setVm T9.vm).vm := State.Warmed39.trans (t := (s.setVm T6.vm)) hZ Si9.1
        have hown : (s.setVm T9.vm).vm.findClass "org/rolepath/model/BuilderSetRootTypePinLaw" = some m.cls := by rw [show (s.setVm T9.vm).vm = T9.vm from rfl, Si9.1.alike.findClass]; exact hown
        have X9 : Stand p l e room_1 (s.setVm T9.vm) m _ below meth c T9 _ _ _ := X9
        have O_K9 := O_K6.keep K9 (allS g_b1 all0)
        refine own_via (fun t k => st9.trans k) ?_
        show own_Rch p.tables e below (T9.setTop (mkF m 111 #[.val (.int p1), .val (.int p2), .val (.int m2), .val (.ref x3), .val (.ref x4), .val (.ref b1), .unset, .unset] [])) _
        refine own_via (fun t k => XS.aload X9.here hx rfl (hb hby at_111) rfl rfl k) ?_
        show own_Rch p.tables e below (T9.setTop (mkF m 113 #[.val (.int p1), .val (.int p2), .val (.int m2), .val (.ref x3), .val (.ref x4), .val (.ref b1), .unset, .unset] [(.ref b1)])) _
        obtain ⟨cq10, kq10, q10a, q10b, q10c⟩ := isOf hZ rfl E_b_9
        obtain ⟨_, _, ⟨T10, L10, k10, n10⟩, -, X10, ⟨Lc10, hQ10, l10, y10, z10⟩, st10⟩ := X9.virtualBack hx (y := (⟨"org/rolepath/model/Hierarchy$Builder", "build", "()Lorg/rolepath/model/Hierarchy;"⟩ : MethodName)) (z := (⟨"org/rolepath/model/Hierarchy$Builder", "build", "()Lorg/rolepath/model/Hierarchy;"⟩ : MethodName)) hown (mvT hZ (hw _ (List.mem_of_getElem? (i := 79) rfl))) (mvT hZ (hw _ (List.mem_of_getElem? (i := 80) rfl))) (notFace_of_selects (args := #[]) (mvT hZ (hw _ (List.mem_of_getElem? (i := 82) rfl)))) (mvT hZ (hw _ (List.mem_of_getElem? (i := 82) rfl))) (mvT hZ (hw _ (List.mem_of_getElem? (i := 81) rfl))) (by decide) (backOf (W := 0) (rmb l Z a0 hw [] b1 x4 nd pm T9.heap n0 (Nat.le_trans (Nat.le_trans (Nat.le_trans (Nat.le_trans Z0 E1.1) K2.1) K6.1) K9.1) ⟨E_b_9, F_b1_9, F_b2_9, F_b3_9, F_b4_9, E_n_9, E_p_9, F_p_9⟩) hZ (hw _ (List.mem_of_getElem? (i := 83) rfl)) (hw _ (List.mem_of_getElem? (i := 5) rfl)) (by decide) (by decide)) q10a q10c (g := (mkF m 113 #[.val (.int p1), .val (.int p2), .val (.int m2), .val (.ref x3), .val (.ref x4), .val (.ref b1), .unset, .unset] [(.ref b1)])) rfl (by rw [hml]; rfl) (Steps.refl _) (argsL := []) (rest := []) (lenOf pd_7 rfl) rfl (by show 2 * 0 + _ ≤ _; exact Nat.le_of_eq rfl) (hb hby at_113) (fun _ _ => ⟨rfl, rfl, (by decide : 12 + 1 ≤ _), (by decide : 83 + 2 ≤ _)⟩)
        dsimp only [Pt.U, Pt.locs, Pt.cells, Pt.slots] at X10 l10 y10 z10 st10 hQ10
        subst l10 y10 z10
        obtain ⟨hh10, rfl, N10q, K10, g_hh10, sz_hh10, Ex10, Fx10⟩ := hQ10
        have N10 := Fr.app N9 N10q
        have O_K10 := O_K9.keep K10 all0
        refine own_via (fun t k => st10.trans k) ?_
        show own_Rch p.tables e below (T10.setTop (mkF m 116 #[.val (.int p1), .val (.int p2), .val (.int m2), .val (.ref x3), .val (.ref x4), .val (.ref b1), .unset, .unset] [(.ref hh10)])) _
        obtain ⟨cq11, kq11, q11a, q11b, q11c⟩ := isOf hZ rfl Ex10
        obtain ⟨_, _, ⟨T11, L11, k11, n11⟩, -, X11, ⟨Lc11, hQ11, l11, y11, z11⟩, st11⟩ := X10.virtualBack hx (y := (⟨"org/rolepath/model/Hierarchy", "rootType", "()Lorg/rolepath/model/RootType;"⟩ : MethodName)) (z := (⟨"org/rolepath/model/Hierarchy", "rootType", "()Lorg/rolepath/model/RootType;"⟩ : MethodName)) hown (mvT hZ (hw _ (List.mem_of_getElem? (i := 107) rfl))) (mvT hZ (hw _ (List.mem_of_getElem? (i := 108) rfl))) (notFace_of_selects (args := #[]) (mvT hZ (hw _ (List.mem_of_getElem? (i := 110) rfl)))) (mvT hZ (hw _ (List.mem_of_getElem? (i := 110) rfl))) (mvT hZ (hw _ (List.mem_of_getElem? (i := 109) rfl))) (by decide) (backOf (W := 0) (rmy l Z a0 hw [] hh10 x4 T10.heap n0 Fx10) hZ (hw _ (List.mem_of_getElem? (i := 111) rfl)) (hw _ (List.mem_of_getElem? (i := 98) rfl)) (by decide) (by decide)) q11a q11c (g := (mkF m 116 #[.val (.int p1), .val (.int p2), .val (.int m2), .val (.ref x3), .val (.ref x4), .val (.ref b1), .unset, .unset] [(.ref hh10)])) rfl (by rw [hml]; rfl) (Steps.refl _) (argsL := []) (rest := []) (lenOf pd_8 rfl) rfl (by show 2 * 0 + _ ≤ _; exact Nat.le_of_eq rfl) (hb hby at_116) (fun _ _ => ⟨rfl, rfl, (by decide : 13 + 0 ≤ _), (by decide : 85 + 0 ≤ _)⟩)
        dsimp only [Pt.U, Pt.locs, Pt.cells, Pt.slots] at X11 l11 y11 z11 st11 hQ11
        subst l11 y11 z11
        obtain ⟨rfl, N11q, eh11⟩ := hQ11
        have N11 := Fr.app N10 N11q
        refine own_via (fun t k => st11.trans k) ?_
        show own_Rch p.tables e below (T11.setTop (mkF m 119 #[.val (.int p1), .val (.int p2), .val (.int m2), .val (.ref x3), .val (.ref x4), .val (.ref b1), .unset, .unset] [(.ref x4)])) _
        refine own_via (fun t k => XS.aload X11.here hx rfl (hb hby at_119) rfl rfl k) ?_
        show own_Rch p.tables e below (T11.setTop (mkF m 121 #[.val (.int p1), .val (.int p2), .val (.int m2), .val (.ref x3), .val (.ref x4), .val (.ref b1), .unset, .unset] [(.ref x4), (.ref x4)])) _
        refine own_via (fun t k => Jvm.RoadKit.acmp (g := (mkF m 121 #[.val (.int p1), .val (.int p2), .val (.int m2), .val (.ref x3), .val (.ref x4), .val (.ref b1), .unset, .unset] [(.ref x4), (.ref x4)])) X11 hx rfl rfl rfl (pc0 := 121) (pc' := 124) (same := true) rfl (hb hby at_121) rfl (decide_eq_true rfl) (by decide) (by decide) k) ?_
        show own_Rch p.tables e below (T11.setTop (mkF m 124 #[.val (.int p1), .val (.int p2), .val (.int m2), .val (.ref x3), .val (.ref x4), .val (.ref b1), .unset, .unset] [])) _
        refine own_via (fun t k => XS.iconst X11.here hx rfl (hb hby at_124) k) ?_
        show own_Rch p.tables e below (T11.setTop (mkF m 125 #[.val (.int p1), .val (.int p2), .val (.int m2), .val (.ref x3), .val (.ref x4), .val (.ref b1), .unset, .unset] [(.int (1 : Int32))])) _
        refine own_via (fun t k => XS.goto X11.here hx rfl (pc0 := 125) (pc' := 129) rfl (hb hby at_125) (by decide) (by decide) k) ?_
        show own_Rch p.tables e below (T11.setTop (mkF m 129 #[.val (.int p1), .val (.int p2), .val (.int m2), .val (.ref x3), .val (.ref x4), .val (.ref b1), .unset, .unset] [(.int (1 : Int32))])) _
        exact own_finW X11 Sj9 (by rw [eh11]; exact (Nat.le_trans (Nat.le_refl _) K10.1)) hx (t := .boolean) (i := .ireturn) hret hlk rfl (Or.inl ⟨rfl, by simp, _, rfl⟩) (hb hby at_129) (by decide) (by decide) ⟨rfl, N11⟩
      · refine own_via (fun t k => XS.icmpYes X6.here hx rfl (pc0 := 101) (pc' := 130) rfl (hb hby at_101) rfl (feq c101).2 (by decide) (by decide) k) ?_
        show own_Rch p.tables e below (T6.setTop (mkF m 130 #[.val (.int p1), .val (.int p2), .val (.int m2), .val (.ref x3), .val (.ref x4), .val (.ref b1), .unset, .unset] [])) _
        refine own_via (fun t k => XS.aload X6.here hx rfl (hb hby at_130) rfl rfl k) ?_
        show own_Rch p.tables e below (T6.setTop (mkF m 132 #[.val (.int p1), .val (.int p2), .val (.int m2), .val (.ref x3), .val (.ref x4), .val (.ref b1), .unset, .unset] [(.ref b1)])) _
        obtain ⟨cq12, kq12, q12a, q12b, q12c⟩ := isOf hZ rfl E_b_6
        obtain ⟨_, _, ⟨T12, L12, k12, n12⟩, -, X12, ⟨Lc12, hQ12, l12, y12, z12⟩, st12⟩ := X6.virtualBack hx (y := (⟨"org/rolepath/model/Hierarchy$Builder", "build", "()Lorg/rolepath/model/Hierarchy;"⟩ : MethodName)) (z := (⟨"org/rolepath/model/Hierarchy$Builder", "build", "()Lorg/rolepath/model/Hierarchy;"⟩ : MethodName)) hown (mvT hZ (hw _ (List.mem_of_getElem? (i := 79) rfl))) (mvT hZ (hw _ (List.mem_of_getElem? (i := 80) rfl))) (notFace_of_selects (args := #[]) (mvT hZ (hw _ (List.mem_of_getElem? (i := 82) rfl)))) (mvT hZ (hw _ (List.mem_of_getElem? (i := 82) rfl))) (mvT hZ (hw _ (List.mem_of_getElem? (i := 81) rfl))) (by decide) (backOf (W := 0) (rmb l Z a0 hw [] b1 x3 nd pm T6.heap n0 (Nat.le_trans (Nat.le_trans (Nat.le_trans Z0 E1.1) K2.1) K6.1) ⟨E_b_6, F_b1_6, F_b2_6, F_b3_6, F_b4_6, E_n_6, E_p_6, F_p_6⟩) hZ (hw _ (List.mem_of_getElem? (i := 83) rfl)) (hw _ (List.mem_of_getElem? (i := 5) rfl)) (by decide) (by decide)) q12a q12c (g := (mkF m 132 #[.val (.int p1), .val (.int p2), .val (.int m2), .val (.ref x3), .val (.ref x4), .val (.ref b1), .unset, .unset] [(.ref b1)])) rfl (by rw [hml]; rfl) (Steps.refl _) (argsL := []) (rest := []) (lenOf pd_7 rfl) rfl (by show 2 * 0 + _ ≤ _; exact Nat.le_of_eq rfl) (hb hby at_132) (fun _ _ => ⟨rfl, rfl, (by decide : 10 + 1 ≤ _), (by decide : 63 + 2 ≤ _)⟩)
        dsimp only [Pt.U, Pt.locs, Pt.cells, Pt.slots] at X12 l12 y12 z12 st12 hQ12
        subst l12 y12 z12
        obtain ⟨hh12, rfl, N12q, K12, g_hh12, sz_hh12, Ex12, Fx12⟩ := hQ12
        have N12 := Fr.app N6 N12q
        have O_K12 := O_K6.keep K12 all0
        refine own_via (fun t k => st12.trans k) ?_
        show own_Rch p.tables e below (T12.setTop (mkF m 135 #[.val (.int p1), .val (.int p2), .val (.int m2), .val (.ref x3), .val (.ref x4), .val (.ref b1), .unset, .unset] [(.ref hh12)])) _
        refine own_via (fun t k => XS.astore X12.here hx rfl (hb hby at_135) rfl rfl (l' := #[.val (.int p1), .val (.int p2), .val (.int m2), .val (.ref x3), .val (.ref x4), .val (.ref b1), .val (.ref hh12), .unset]) rfl k) ?_
        show own_Rch p.tables e below (T12.setTop (mkF m 137 #[.val (.int p1), .val (.int p2), .val (.int m2), .val (.ref x3), .val (.ref x4), .val (.ref b1), .val (.ref hh12), .unset] [])) _
        refine own_via (fun t k => XS.aload X12.here hx rfl (hb hby at_137) rfl rfl k) ?_
        show own_Rch p.tables e below (T12.setTop (mkF m 139 #[.val (.int p1), .val (.int p2), .val (.int m2), .val (.ref x3), .val (.ref x4), .val (.ref b1), .val (.ref hh12), .unset] [(.ref b1)])) _
        refine own_via (fun t k => XS.aload X12.here hx rfl (hb hby at_139) rfl rfl k) ?_
        show own_Rch p.tables e below (T12.setTop (mkF m 141 #[.val (.int p1), .val (.int p2), .val (.int m2), .val (.ref x3), .val (.ref x4), .val (.ref b1), .val (.ref hh12), .unset] [(.ref x4), (.ref b1)])) _
        obtain ⟨cq13, kq13, q13a, q13b, q13c⟩ := isOf hZ rfl (E_b_6.keep K12)
        obtain ⟨_, _, ⟨T13, L13, k13, n13⟩, -, X13, Si13, gi13, ⟨Lc13, hQ13, l13, y13, z13⟩, st13⟩ := X12.virtualBackS hx (y := (⟨"org/rolepath/model/Hierarchy$Builder", "setRootType", "(Lorg/rolepath/model/RootType;)V"⟩ : MethodName)) (z := (⟨"org/rolepath/model/Hierarchy$Builder", "setRootType", "(Lorg/rolepath/model/RootType;)V"⟩ : MethodName)) hown (mvT hZ (hw _ (List.mem_of_getElem? (i := 113) rfl))) (mvT hZ (hw _ (List.mem_of_getElem? (i := 114) rfl))) (notFace_of_selects (args := #[]) (mvT hZ (hw _ (List.mem_of_getElem? (i := 116) rfl)))) (mvT hZ (hw _ (List.mem_of_getElem? (i := 116) rfl))) (mvT hZ (hw _ (List.mem_of_getElem? (i := 115) rfl))) (by decide) (backOfS (W := 0) (rms l Z a0 hw [] b1 x4 x3 nd pm T12.heap n0 (Nat.le_trans (Nat.le_trans (Nat.le_trans (Nat.le_trans Z0 E1.1) K2.1) K6.1) K12.1) O_K12 g_b1 E_x4 ⟨(E_b_6.keep K12), (F_b1_6.keep K12 nin0), (F_b2_6.keep K12 nin0), (F_b3_6.keep K12 nin0), (F_b4_6.keep K12 nin0), (E_n_6.keep K12), (E_p_6.keep K12), (F_p_6.keep K12 nin0)⟩) hZ (hw _ (List.mem_of_getElem? (i := 117) rfl)) (hw _ (List.mem_of_getElem? (i := 5) rfl)) (by decide) (by decide)) q13a q13c (g := (mkF m 141 #[.val (.int p1), .val (.int p2), .val (.int m2), .val (.ref x3), .val (.ref x4), .val (.ref b1), .val (.ref hh12), .unset] [(.ref x4), (.ref b1)])) rfl (by rw [hml]; rfl) (Steps.refl _) (argsL := [(.ref x4)]) (rest := []) (lenOf pd_9 rfl) rfl (by show 2 * 0 + _ ≤ _; exact Nat.le_of_eq rfl) (hb hby at_141) (fun _ _ => ⟨rfl, rfl, (by decide : 11 + 2 ≤ _), (by decide : 65 + 20 ≤ _)⟩)
        dsimp only [Pt.U, Pt.locs, Pt.cells, Pt.slots] at X13 l13 y13 z13 st13 hQ13 Si13 gi13
        subst l13 y13 z13
        obtain ⟨rfl, N13q, K13, E_b_13, F_b1_13, F_b2_13, F_b3_13, F_b4_13, E_n_13, E_p_13, F_p_13⟩ := hQ13
        have N13 := Fr.app N12 N13q
        have Sj13 := foldS Sj6 (Nat.le_trans (Nat.le_refl _) K12.1) Si13 gi13
        have hZ : Z.Warmed39 (s.setVm T13.vm).vm := State.Warmed39.trans (t := (s.setVm T6.vm)) hZ Si13.1
        have hown : (s.setVm T13.vm).vm.findClass "org/rolepath/model/BuilderSetRootTypePinLaw" = some m.cls := by rw [show (s.setVm T13.vm).vm = T13.vm from rfl, Si13.1.alike.findClass]; exact hown
        have X13 : Stand p l e room_1 (s.setVm T13.vm) m _ below meth c T13 _ _ _ := X13
        have O_K13 := O_K12.keep K13 (allS g_b1 all0)
        refine own_via (fun t k => st13.trans k) ?_
        show own_Rch p.tables e below (T13.setTop (mkF m 144 #[.val (.int p1), .val (.int p2), .val (.int m2), .val (.ref x3), .val (.ref x4), .val (.ref b1), .val (.ref hh12), .unset] [])) _
        refine own_via (fun t k => XS.aload X13.here hx rfl (hb hby at_144) rfl rfl k) ?_
        show own_Rch p.tables e below (T13.setTop (mkF m 146 #[.val (.int p1), .val (.int p2), .val (.int m2), .val (.ref x3), .val (.ref x4), .val (.ref b1), .val (.ref hh12), .unset] [(.ref b1)])) _
        obtain ⟨cq14, kq14, q14a, q14b, q14c⟩ := isOf hZ rfl E_b_13
        obtain ⟨_, _, ⟨T14, L14, k14, n14⟩, -, X14, ⟨Lc14, hQ14, l14, y14, z14⟩, st14⟩ := X13.virtualBack hx (y := (⟨"org/rolepath/model/Hierarchy$Builder", "build", "()Lorg/rolepath/model/Hierarchy;"⟩ : MethodName)) (z := (⟨"org/rolepath/model/Hierarchy$Builder", "build", "()Lorg/rolepath/model/Hierarchy;"⟩ : MethodName)) hown (mvT hZ (hw _ (List.mem_of_getElem? (i := 79) rfl))) (mvT hZ (hw _ (List.mem_of_getElem? (i := 80) rfl))) (notFace_of_selects (args := #[]) (mvT hZ (hw _ (List.mem_of_getElem? (i := 82) rfl)))) (mvT hZ (hw _ (List.mem_of_getElem? (i := 82) rfl))) (mvT hZ (hw _ (List.mem_of_getElem? (i := 81) rfl))) (by decide) (backOf (W := 0) (rmb l Z a0 hw [] b1 x4 nd pm T13.heap n0 (Nat.le_trans (Nat.le_trans (Nat.le_trans (Nat.le_trans (Nat.le_trans Z0 E1.1) K2.1) K6.1) K12.1) K13.1) ⟨E_b_13, F_b1_13, F_b2_13, F_b3_13, F_b4_13, E_n_13, E_p_13, F_p_13⟩) hZ (hw _ (List.mem_of_getElem? (i := 83) rfl)) (hw _ (List.mem_of_getElem? (i := 5) rfl)) (by decide) (by decide)) q14a q14c (g := (mkF m 146 #[.val (.int p1), .val (.int p2), .val (.int m2), .val (.ref x3), .val (.ref x4), .val (.ref b1), .val (.ref hh12), .unset] [(.ref b1)])) rfl (by rw [hml]; rfl) (Steps.refl _) (argsL := []) (rest := []) (lenOf pd_7 rfl) rfl (by show 2 * 0 + _ ≤ _; exact Nat.le_of_eq rfl) (hb hby at_146) (fun _ _ => ⟨rfl, rfl, (by decide : 13 + 1 ≤ _), (by decide : 85 + 2 ≤ _)⟩)
        dsimp only [Pt.U, Pt.locs, Pt.cells, Pt.slots] at X14 l14 y14 z14 st14 hQ14
        subst l14 y14 z14
        obtain ⟨hh14, rfl, N14q, K14, g_hh14, sz_hh14, Ex14, Fx14⟩ := hQ14
        have N14 := Fr.app N13 N14q
        have O_K14 := O_K13.keep K14 all0
        refine own_via (fun t k => st14.trans k) ?_
        show own_Rch p.tables e below (T14.setTop (mkF m 149 #[.val (.int p1), .val (.int p2), .val (.int m2), .val (.ref x3), .val (.ref x4), .val (.ref b1), .val (.ref hh12), .unset] [(.ref hh14)])) _
        refine own_via (fun t k => XS.astore X14.here hx rfl (hb hby at_149) rfl rfl (l' := #[.val (.int p1), .val (.int p2), .val (.int m2), .val (.ref x3), .val (.ref x4), .val (.ref b1), .val (.ref hh12), .val (.ref hh14)]) rfl k) ?_
        show own_Rch p.tables e below (T14.setTop (mkF m 151 #[.val (.int p1), .val (.int p2), .val (.int m2), .val (.ref x3), .val (.ref x4), .val (.ref b1), .val (.ref hh12), .val (.ref hh14)] [])) _
        refine own_via (fun t k => XS.aload X14.here hx rfl (hb hby at_151) rfl rfl k) ?_
        show own_Rch p.tables e below (T14.setTop (mkF m 153 #[.val (.int p1), .val (.int p2), .val (.int m2), .val (.ref x3), .val (.ref x4), .val (.ref b1), .val (.ref hh12), .val (.ref hh14)] [(.ref hh12)])) _
        obtain ⟨cq15, kq15, q15a, q15b, q15c⟩ := isOf hZ rfl ((Ex12.keep K13).keep K14)
        obtain ⟨_, _, ⟨T15, L15, k15, n15⟩, -, X15, ⟨Lc15, hQ15, l15, y15, z15⟩, st15⟩ := X14.virtualBack hx (y := (⟨"org/rolepath/model/Hierarchy", "rootType", "()Lorg/rolepath/model/RootType;"⟩ : MethodName)) (z := (⟨"org/rolepath/model/Hierarchy", "rootType", "()Lorg/rolepath/model/RootType;"⟩ : MethodName)) hown (mvT hZ (hw _ (List.mem_of_getElem? (i := 107) rfl))) (mvT hZ (hw _ (List.mem_of_getElem? (i := 108) rfl))) (notFace_of_selects (args := #[]) (mvT hZ (hw _ (List.mem_of_getElem? (i := 110) rfl)))) (mvT hZ (hw _ (List.mem_of_getElem? (i := 110) rfl))) (mvT hZ (hw _ (List.mem_of_getElem? (i := 109) rfl))) (by decide) (backOf (W := 0) (rmy l Z a0 hw [] hh12 x3 T14.heap n0 ((Fx12.keep K13 (ninS (ne_exa ((Ex12.keep K13).keep K14) (E_b_13.keep K14) (by decide)) nin0)).keep K14 nin0)) hZ (hw _ (List.mem_of_getElem? (i := 111) rfl)) (hw _ (List.mem_of_getElem? (i := 98) rfl)) (by decide) (by decide)) q15a q15c (g := (mkF m 153 #[.val (.int p1), .val (.int p2), .val (.int m2), .val (.ref x3), .val (.ref x4), .val (.ref b1), .val (.ref hh12), .val (.ref hh14)] [(.ref hh12)])) rfl (by rw [hml]; rfl) (Steps.refl _) (argsL := []) (rest := []) (lenOf pd_8 rfl) rfl (by show 2 * 0 + _ ≤ _; exact Nat.le_of_eq rfl) (hb hby at_153) (fun _ _ => ⟨rfl, rfl, (by decide : 14 + 0 ≤ _), (by decide : 87 + 0 ≤ _)⟩)
        dsimp only [Pt.U, Pt.locs, Pt.cells, Pt.slots] at X15 l15 y15 z15 st15 hQ15
        subst l15 y15 z15
        obtain ⟨rfl, N15q, eh15⟩ := hQ15
        have N15 := Fr.app N14 N15q
        refine own_via (fun t k => st15.trans k) ?_
        show own_Rch p.tables e below (T15.setTop (mkF m 156 #[.val (.int p1), .val (.int p2), .val (.int m2), .val (.ref x3), .val (.ref x4), .val (.ref b1), .val (.ref hh12), .val (.ref hh14)] [(.ref x3)])) _
        refine own_via (fun t k => XS.aloadN X15.here hx rfl (hb hby at_156) rfl rfl k) ?_
        show own_Rch p.tables e below (T15.setTop (mkF m 157 #[.val (.int p1), .val (.int p2), .val (.int m2), .val (.ref x3), .val (.ref x4), .val (.ref b1), .val (.ref hh12), .val (.ref hh14)] [(.ref x3), (.ref x3)])) _
        refine own_via (fun t k => Jvm.RoadKit.acmp (g := (mkF m 157 #[.val (.int p1), .val (.int p2), .val (.int m2), .val (.ref x3), .val (.ref x4), .val (.ref b1), .val (.ref hh12), .val (.ref hh14)] [(.ref x3), (.ref x3)])) X15 hx rfl rfl rfl (pc0 := 157) (pc' := 160) (same := true) rfl (hb hby at_157) rfl (decide_eq_true rfl) (by decide) (by decide) k) ?_
        show own_Rch p.tables e below (T15.setTop (mkF m 160 #[.val (.int p1), .val (.int p2), .val (.int m2), .val (.ref x3), .val (.ref x4), .val (.ref b1), .val (.ref hh12), .val (.ref hh14)] [])) _
        refine own_via (fun t k => XS.aload X15.here hx rfl (hb hby at_160) rfl rfl k) ?_
        show own_Rch p.tables e below (T15.setTop (mkF m 162 #[.val (.int p1), .val (.int p2), .val (.int m2), .val (.ref x3), .val (.ref x4), .val (.ref b1), .val (.ref hh12), .val (.ref hh14)] [(.ref hh14)])) _
        obtain ⟨cq16, kq16, q16a, q16b, q16c⟩ := isOf hZ eh15 Ex14
        obtain ⟨_, _, ⟨T16, L16, k16, n16⟩, -, X16, ⟨Lc16, hQ16, l16, y16, z16⟩, st16⟩ := X15.virtualBack hx (y := (⟨"org/rolepath/model/Hierarchy", "rootType", "()Lorg/rolepath/model/RootType;"⟩ : MethodName)) (z := (⟨"org/rolepath/model/Hierarchy", "rootType", "()Lorg/rolepath/model/RootType;"⟩ : MethodName)) hown (mvT hZ (hw _ (List.mem_of_getElem? (i := 107) rfl))) (mvT hZ (hw _ (List.mem_of_getElem? (i := 108) rfl))) (notFace_of_selects (args := #[]) (mvT hZ (hw _ (List.mem_of_getElem? (i := 110) rfl)))) (mvT hZ (hw _ (List.mem_of_getElem? (i := 110) rfl))) (mvT hZ (hw _ (List.mem_of_getElem? (i := 109) rfl))) (by decide) (backOf (W := 0) (rmy l Z a0 hw [] hh14 x4 T14.heap n0 Fx14) hZ (hw _ (List.mem_of_getElem? (i := 111) rfl)) (hw _ (List.mem_of_getElem? (i := 98) rfl)) (by decide) (by decide)) q16a q16c (g := (mkF m 162 #[.val (.int p1), .val (.int p2), .val (.int m2), .val (.ref x3), .val (.ref x4), .val (.ref b1), .val (.ref hh12), .val (.ref hh14)] [(.ref hh14)])) rfl (by rw [hml]; rfl) (Steps.refl _) (argsL := []) (rest := []) (lenOf pd_8 rfl) rfl (by show 2 * 0 + _ ≤ _; exact Nat.le_of_eq rfl) (hb hby at_162) (fun _ _ => ⟨rfl, eh15, (by decide : 14 + 0 ≤ _), (by decide : 87 + 0 ≤ _)⟩)
        dsimp only [Pt.U, Pt.locs, Pt.cells, Pt.slots] at X16 l16 y16 z16 st16 hQ16
        subst l16 y16 z16
        obtain ⟨rfl, N16q, eh16⟩ := hQ16
        have N16 := Fr.app N15 N16q
        refine own_via (fun t k => st16.trans k) ?_
        show own_Rch p.tables e below (T16.setTop (mkF m 165 #[.val (.int p1), .val (.int p2), .val (.int m2), .val (.ref x3), .val (.ref x4), .val (.ref b1), .val (.ref hh12), .val (.ref hh14)] [(.ref x4)])) _
        refine own_via (fun t k => XS.aload X16.here hx rfl (hb hby at_165) rfl rfl k) ?_
        show own_Rch p.tables e below (T16.setTop (mkF m 167 #[.val (.int p1), .val (.int p2), .val (.int m2), .val (.ref x3), .val (.ref x4), .val (.ref b1), .val (.ref hh12), .val (.ref hh14)] [(.ref x4), (.ref x4)])) _
        refine own_via (fun t k => Jvm.RoadKit.acmp (g := (mkF m 167 #[.val (.int p1), .val (.int p2), .val (.int m2), .val (.ref x3), .val (.ref x4), .val (.ref b1), .val (.ref hh12), .val (.ref hh14)] [(.ref x4), (.ref x4)])) X16 hx rfl rfl rfl (pc0 := 167) (pc' := 170) (same := true) rfl (hb hby at_167) rfl (decide_eq_true rfl) (by decide) (by decide) k) ?_
        show own_Rch p.tables e below (T16.setTop (mkF m 170 #[.val (.int p1), .val (.int p2), .val (.int m2), .val (.ref x3), .val (.ref x4), .val (.ref b1), .val (.ref hh12), .val (.ref hh14)] [])) _
        refine own_via (fun t k => XS.iconst X16.here hx rfl (hb hby at_170) k) ?_
        show own_Rch p.tables e below (T16.setTop (mkF m 171 #[.val (.int p1), .val (.int p2), .val (.int m2), .val (.ref x3), .val (.ref x4), .val (.ref b1), .val (.ref hh12), .val (.ref hh14)] [(.int (1 : Int32))])) _
        refine own_via (fun t k => XS.goto X16.here hx rfl (pc0 := 171) (pc' := 175) rfl (hb hby at_171) (by decide) (by decide) k) ?_
        show own_Rch p.tables e below (T16.setTop (mkF m 175 #[.val (.int p1), .val (.int p2), .val (.int m2), .val (.ref x3), .val (.ref x4), .val (.ref b1), .val (.ref hh12), .val (.ref hh14)] [(.int (1 : Int32))])) _
        exact own_finW X16 Sj13 (by rw [eh16]; exact (Nat.le_trans (Nat.le_refl _) K14.1)) hx (t := .boolean) (i := .ireturn) hret hlk rfl (Or.inl ⟨rfl, by simp, _, rfl⟩) (hb hby at_175) (by decide) (by decide) ⟨rfl, N16⟩
theorem ef_0 (m : MethodId) (x0 : Int32) (x1 : Int32) : entryFrame m #[(.int x0), (.int x1)] maxLocals = mkF m 0 #[.val (.int x0), .val (.int x1), .unset, .unset, .unset, .unset, .unset, .unset] [] := by first | (simp [entryFrame, mkF, argsToLocals, Value.category, maxLocals]; done) | rfl
theorem pn_org_rolepath_model_BuilderSetRootTypePinLaw : plainName "org/rolepath/model/BuilderSetRootTypePinLaw" = true := by first | (simp [plainName, overriddenIn]; done) | decide +kernel
set_option maxRecDepth 65536 in
set_option maxHeartbeats 40000000 in
theorem rm0 (l : Launch) (Z : State) (a0 : Array Value) (hw : ∀ d ∈ tables_1, d.before a0 Z = true) (ws : List Jvm.Cond) (p1 p2 : Int32) (aU aS : Addr) (h0 : Heap) (n0 : Nat) (Z0 : n0 ≤ h0.size) (O0 : Old Z n0 h0) (S_U : Sta Z Z.heap "org/rolepath/model/RootType" "USER" "Lorg/rolepath/model/RootType;" (.ref aU)) (S_S : Sta Z Z.heap "org/rolepath/model/RootType" "SYSTEM" "Lorg/rolepath/model/RootType;" (.ref aS)) (E_aU : Exa Z Z.heap aU "org/rolepath/model/RootType") (E_aS : Exa Z Z.heap aS "org/rolepath/model/RootType") :
    MetFree l x (head1 (Jvm.Cond.code x code maxLocals ret :: ws) room_1) (fun a U => a = #[(.int p1), (.int p2)] ∧ Z.Warmed39 U.vm ∧ U.heap = h0) (fun _ _ _ _ _ => True) (fun _ U o U' => ∃ v L, o = .returned v ∧ Q0 n0 v U'.heap L ∧ ReturnedEndW U o U' L room_1.cells room_1.slots) := by
  refine MetFree.of_bodySF (plainFor_of_name pn_org_rolepath_model_BuilderSetRootTypePinLaw) hisR ?_
  intro p e s m args below meth c s₁ Bd hml0 hP hK
  obtain ⟨rfl, hZ, hh⟩ := hP
  have hx := Bd.exec
  have hby := Bd.bytes
  have hml : c.maxLocals = 8 := hml0
  have hown : s.vm.findClass "org/rolepath/model/BuilderSetRootTypePinLaw" = some m.cls := findClass_of_methodNamed Bd.named
  have hnm := (name_of_methodNamed Bd.named Bd.method).1
  have X0 : Stand p l e room_1 s m #[(.int p1), (.int p2)] below meth c s₁ [] 0 0 := Stand.of_body Bd
  have e0 : s₁.heap = h0 := by rw [← hh, Bd.state]; rfl
  have N0 := Fr.nil n0
  show own_Rch p.tables e below (s₁.setTop (entryFrame m #[(.int p1), (.int p2)] maxLocals)) (own_EndW s (Q0 n0) room_1.cells room_1.slots)
  refine own_via (fun t k => castTop (ef_0 m p1 p2) k) ?_
  have X0 : Stand p l e room_1 (s.setVm s.vm) m #[(.int p1), (.int p2)] below meth c s₁ [] 0 0 := X0
  have hZ : Z.Warmed39 (s.setVm s.vm).vm := hZ
  have hown : (s.setVm s.vm).vm.findClass "org/rolepath/model/BuilderSetRootTypePinLaw" = some m.cls := hown
  have Si0 : s.Since s.vm h0.size := own_S0 s _
  show own_Rch p.tables e below (s₁.setTop (mkF m 0 #[.val (.int p1), .val (.int p2), .unset, .unset, .unset, .unset, .unset, .unset] [])) _
  refine own_via (fun t k => XS.iloadN X0.here hx rfl (hb hby at_0) rfl k) ?_
  show own_Rch p.tables e below (s₁.setTop (mkF m 1 #[.val (.int p1), .val (.int p2), .unset, .unset, .unset, .unset, .unset, .unset] [(.int p1)])) _
  refine own_via (fun t k => XS.iconst X0.here hx rfl (hb hby at_1) k) ?_
  show own_Rch p.tables e below (s₁.setTop (mkF m 2 #[.val (.int p1), .val (.int p2), .unset, .unset, .unset, .unset, .unset, .unset] [(.int (3 : Int32)), (.int p1)])) _
  refine own_via (fun t k => XS.iand X0.here hx rfl (hb hby at_2) rfl k) ?_
  show own_Rch p.tables e below (s₁.setTop (mkF m 3 #[.val (.int p1), .val (.int p2), .unset, .unset, .unset, .unset, .unset, .unset] [(.int (p1 &&& (3 : Int32)))])) _
  refine own_via (fun t k => XS.istoreN X0.here hx rfl (hb hby at_3) rfl (l' := #[.val (.int p1), .val (.int p2), .val (.int (p1 &&& (3 : Int32))), .unset, .unset, .unset, .unset, .unset]) rfl k) ?_
  show own_Rch p.tables e below (s₁.setTop (mkF m 4 #[.val (.int p1), .val (.int p2), .val (.int (p1 &&& (3 : Int32))), .unset, .unset, .unset, .unset, .unset] [])) _
  refine own_via (fun t k => XS.iloadN X0.here hx rfl (hb hby at_4) rfl k) ?_
  show own_Rch p.tables e below (s₁.setTop (mkF m 5 #[.val (.int p1), .val (.int p2), .val (.int (p1 &&& (3 : Int32))), .unset, .unset, .unset, .unset, .unset] [(.int p2)])) _
  refine own_via (fun t k => XS.iconst X0.here hx rfl (hb hby at_5) k) ?_
  show own_Rch p.tables e below (s₁.setTop (mkF m 6 #[.val (.int p1), .val (.int p2), .val (.int (p1 &&& (3 : Int32))), .unset, .unset, .unset, .unset, .unset] [(.int (1 : Int32)), (.int p2)])) _
  refine own_via (fun t k => XS.iand X0.here hx rfl (hb hby at_6) rfl k) ?_
  show own_Rch p.tables e below (s₁.setTop (mkF m 7 #[.val (.int p1), .val (.int p2), .val (.int (p1 &&& (3 : Int32))), .unset, .unset, .unset, .unset, .unset] [(.int (p2 &&& (1 : Int32)))])) _
  by_cases c7 : (p2 &&& (1 : Int32)) = (0 : Int32)
  · refine own_via (fun t k => XS.ifYes X0.here hx rfl (pc0 := 7) (pc' := 16) rfl (hb hby at_7) rfl ((if0 _ _).trans (teq c7).1) (by decide) (by decide) k) ?_
    show own_Rch p.tables e below (s₁.setTop (mkF m 16 #[.val (.int p1), .val (.int p2), .val (.int (p1 &&& (3 : Int32))), .unset, .unset, .unset, .unset, .unset] [])) _
    obtain ⟨T1, X1, e1, st1⟩ := getS2 X0 hx hZ hown (host := "") (Or.inl (hw _ (List.mem_of_getElem? (i := 112) rfl))) Via.refl e0 (S_U.ext O0.2) (g := (mkF m 16 #[.val (.int p1), .val (.int p2), .val (.int (p1 &&& (3 : Int32))), .unset, .unset, .unset, .unset, .unset] [])) rfl (hb hby at_16)
    refine own_via st1 ?_
    show own_Rch p.tables e below (T1.setTop (mkF m 19 #[.val (.int p1), .val (.int p2), .val (.int (p1 &&& (3 : Int32))), .unset, .unset, .unset, .unset, .unset] [(.ref aU)])) _
    refine own_via (fun t k => XS.astoreN X1.here hx rfl (hb hby at_19) rfl rfl (l' := #[.val (.int p1), .val (.int p2), .val (.int (p1 &&& (3 : Int32))), .val (.ref aU), .unset, .unset, .unset, .unset]) rfl k) ?_
    show own_Rch p.tables e below (T1.setTop (mkF m 20 #[.val (.int p1), .val (.int p2), .val (.int (p1 &&& (3 : Int32))), .val (.ref aU), .unset, .unset, .unset, .unset] [])) _
    refine own_via (fun t k => XS.iloadN X1.here hx rfl (hb hby at_20) rfl k) ?_
    show own_Rch p.tables e below (T1.setTop (mkF m 21 #[.val (.int p1), .val (.int p2), .val (.int (p1 &&& (3 : Int32))), .val (.ref aU), .unset, .unset, .unset, .unset] [(.int p2)])) _
    refine own_via (fun t k => XS.iconst X1.here hx rfl (hb hby at_21) k) ?_
    show own_Rch p.tables e below (T1.setTop (mkF m 22 #[.val (.int p1), .val (.int p2), .val (.int (p1 &&& (3 : Int32))), .val (.ref aU), .unset, .unset, .unset, .unset] [(.int (2 : Int32)), (.int p2)])) _
    refine own_via (fun t k => XS.iand X1.here hx rfl (hb hby at_22) rfl k) ?_
    show own_Rch p.tables e below (T1.setTop (mkF m 23 #[.val (.int p1), .val (.int p2), .val (.int (p1 &&& (3 : Int32))), .val (.ref aU), .unset, .unset, .unset, .unset] [(.int (p2 &&& (2 : Int32)))])) _
    by_cases c23 : (p2 &&& (2 : Int32)) = (0 : Int32)
    · refine own_via (fun t k => XS.ifYes X1.here hx rfl (pc0 := 23) (pc' := 32) rfl (hb hby at_23) rfl ((if0 _ _).trans (teq c23).1) (by decide) (by decide) k) ?_
      show own_Rch p.tables e below (T1.setTop (mkF m 32 #[.val (.int p1), .val (.int p2), .val (.int (p1 &&& (3 : Int32))), .val (.ref aU), .unset, .unset, .unset, .unset] [])) _
      obtain ⟨T2, X2, e2, st2⟩ := getS2 X1 hx hZ hown (host := "") (Or.inl (hw _ (List.mem_of_getElem? (i := 112) rfl))) Via.refl e1 (S_U.ext O0.2) (g := (mkF m 32 #[.val (.int p1), .val (.int p2), .val (.int (p1 &&& (3 : Int32))), .val (.ref aU), .unset, .unset, .unset, .unset] [])) rfl (hb hby at_32)
      refine own_via st2 ?_
      show own_Rch p.tables e below (T2.setTop (mkF m 35 #[.val (.int p1), .val (.int p2), .val (.int (p1 &&& (3 : Int32))), .val (.ref aU), .unset, .unset, .unset, .unset] [(.ref aU)])) _
      refine own_via (fun t k => XS.astore X2.here hx rfl (hb hby at_35) rfl rfl (l' := #[.val (.int p1), .val (.int p2), .val (.int (p1 &&& (3 : Int32))), .val (.ref aU), .val (.ref aU), .unset, .unset, .unset]) rfl k) ?_
      show own_Rch p.tables e below (T2.setTop (mkF m 37 #[.val (.int p1), .val (.int p2), .val (.int (p1 &&& (3 : Int32))), .val (.ref aU), .val (.ref aU), .unset, .unset, .unset] [])) _
      exact tl p1 p2 _ aU aU aU X2 hx hZ hw hby hml hown Bd.returns Bd.notSynchronized e2 N0 Si0 Z0 O0 S_U E_aU E_aU
    · refine own_via (fun t k => XS.ifNo X1.here hx rfl (hb hby at_23) rfl ((if0 _ _).trans (feq c23).1) k) ?_
      show own_Rch p.tables e below (T1.setTop (mkF m 26 #[.val (.int p1), .val (.int p2), .val (.int (p1 &&& (3 : Int32))), .val (.ref aU), .unset, .unset, .unset, .unset] [])) _
      obtain ⟨T3, X3, e3, st3⟩ := getS2 X1 hx hZ hown (host := "") (Or.inl (hw _ (List.mem_of_getElem? (i := 0) rfl))) Via.refl e1 (S_S.ext O0.2) (g := (mkF m 26 #[.val (.int p1), .val (.int p2), .val (.int (p1 &&& (3 : Int32))), .val (.ref aU), .unset, .unset, .unset, .unset] [])) rfl (hb hby at_26)
      refine own_via st3 ?_
      show own_Rch p.tables e below (T3.setTop (mkF m 29 #[.val (.int p1), .val (.int p2), .val (.int (p1 &&& (3 : Int32))), .val (.ref aU), .unset, .unset, .unset, .unset] [(.ref aS)])) _
      refine own_via (fun t k => XS.goto X3.here hx rfl (pc0 := 29) (pc' := 35) rfl (hb hby at_29) (by decide) (by decide) k) ?_
      show own_Rch p.tables e below (T3.setTop (mkF m 35 #[.val (.int p1), .val (.int p2), .val (.int (p1 &&& (3 : Int32))), .val (.ref aU), .unset, .unset, .unset, .unset] [(.ref aS)])) _
      refine own_via (fun t k => XS.astore X3.here hx rfl (hb hby at_35) rfl rfl (l' := #[.val (.int p1), .val (.int p2), .val (.int (p1 &&& (3 : Int32))), .val (.ref aU), .val (.ref aS), .unset, .unset, .unset]) rfl k) ?_
      show own_Rch p.tables e below (T3.setTop (mkF m 37 #[.val (.int p1), .val (.int p2), .val (.int (p1 &&& (3 : Int32))), .val (.ref aU), .val (.ref aS), .unset, .unset, .unset] [])) _
      exact tl p1 p2 _ aU aS aU X3 hx hZ hw hby hml hown Bd.returns Bd.notSynchronized e3 N0 Si0 Z0 O0 S_U E_aU E_aS
  · refine own_via (fun t k => XS.ifNo X0.here hx rfl (hb hby at_7) rfl ((if0 _ _).trans (feq c7).1) k) ?_
    show own_Rch p.tables e below (s₁.setTop (mkF m 10 #[.val (.int p1), .val (.int p2), .val (.int (p1 &&& (3 : Int32))), .unset, .unset, .unset, .unset, .unset] [])) _
    obtain ⟨T4, X4, e4, st4⟩ := getS2 X0 hx hZ hown (host := "") (Or.inl (hw _ (List.mem_of_getElem? (i := 0) rfl))) Via.refl e0 (S_S.ext O0.2) (g := (mkF m 10 #[.val (.int p1), .val (.int p2), .val (.int (p1 &&& (3 : Int32))), .unset, .unset, .unset, .unset, .unset] [])) rfl (hb hby at_10)
    refine own_via st4 ?_
    show own_Rch p.tables e below (T4.setTop (mkF m 13 #[.val (.int p1), .val (.int p2), .val (.int (p1 &&& (3 : Int32))), .unset, .unset, .unset, .unset, .unset] [(.ref aS)])) _
    refine own_via (fun t k => XS.goto X4.here hx rfl (pc0 := 13) (pc' := 19) rfl (hb hby at_13) (by decide) (by decide) k) ?_
    show own_Rch p.tables e below (T4.setTop (mkF m 19 #[.val (.int p1), .val (.int p2), .val (.int (p1 &&& (3 : Int32))), .unset, .unset, .unset, .unset, .unset] [(.ref aS)])) _
    refine own_via (fun t k => XS.astoreN X4.here hx rfl (hb hby at_19) rfl rfl (l' := #[.val (.int p1), .val (.int p2), .val (.int (p1 &&& (3 : Int32))), .val (.ref aS), .unset, .unset, .unset, .unset]) rfl k) ?_
    show own_Rch p.tables e below (T4.setTop (mkF m 20 #[.val (.int p1), .val (.int p2), .val (.int (p1 &&& (3 : Int32))), .val (.ref aS), .unset, .unset, .unset, .unset] [])) _
    refine own_via (fun t k => XS.iloadN X4.here hx rfl (hb hby at_20) rfl k) ?_
    show own_Rch p.tables e below (T4.setTop (mkF m 21 #[.val (.int p1), .val (.int p2), .val (.int (p1 &&& (3 : Int32))), .val (.ref aS), .unset, .unset, .unset, .unset] [(.int p2)])) _
    refine own_via (fun t k => XS.iconst X4.here hx rfl (hb hby at_21) k) ?_
    show own_Rch p.tables e below (T4.setTop (mkF m 22 #[.val (.int p1), .val (.int p2), .val (.int (p1 &&& (3 : Int32))), .val (.ref aS), .unset, .unset, .unset, .unset] [(.int (2 : Int32)), (.int p2)])) _
    refine own_via (fun t k => XS.iand X4.here hx rfl (hb hby at_22) rfl k) ?_
    show own_Rch p.tables e below (T4.setTop (mkF m 23 #[.val (.int p1), .val (.int p2), .val (.int (p1 &&& (3 : Int32))), .val (.ref aS), .unset, .unset, .unset, .unset] [(.int (p2 &&& (2 : Int32)))])) _
    by_cases c23 : (p2 &&& (2 : Int32)) = (0 : Int32)
    · refine own_via (fun t k => XS.ifYes X4.here hx rfl (pc0 := 23) (pc' := 32) rfl (hb hby at_23) rfl ((if0 _ _).trans (teq c23).1) (by decide) (by decide) k) ?_
      show own_Rch p.tables e below (T4.setTop (mkF m 32 #[.val (.int p1), .val (.int p2), .val (.int (p1 &&& (3 : Int32))), .val (.ref aS), .unset, .unset, .unset, .unset] [])) _
      obtain ⟨T5, X5, e5, st5⟩ := getS2 X4 hx hZ hown (host := "") (Or.inl (hw _ (List.mem_of_getElem? (i := 112) rfl))) Via.refl e4 (S_U.ext O0.2) (g := (mkF m 32 #[.val (.int p1), .val (.int p2), .val (.int (p1 &&& (3 : Int32))), .val (.ref aS), .unset, .unset, .unset, .unset] [])) rfl (hb hby at_32)
      refine own_via st5 ?_
      show own_Rch p.tables e below (T5.setTop (mkF m 35 #[.val (.int p1), .val (.int p2), .val (.int (p1 &&& (3 : Int32))), .val (.ref aS), .unset, .unset, .unset, .unset] [(.ref aU)])) _
      refine own_via (fun t k => XS.astore X5.here hx rfl (hb hby at_35) rfl rfl (l' := #[.val (.int p1), .val (.int p2), .val (.int (p1 &&& (3 : Int32))), .val (.ref aS), .val (.ref aU), .unset, .unset, .unset]) rfl k) ?_
      show own_Rch p.tables e below (T5.setTop (mkF m 37 #[.val (.int p1), .val (.int p2), .val (.int (p1 &&& (3 : Int32))), .val (.ref aS), .val (.ref aU), .unset, .unset, .unset] [])) _
      exact tl p1 p2 _ aS aU aU X5 hx hZ hw hby hml hown Bd.returns Bd.notSynchronized e5 N0 Si0 Z0 O0 S_U E_aS E_aU
    · refine own_via (fun t k => XS.ifNo X4.here hx rfl (hb hby at_23) rfl ((if0 _ _).trans (feq c23).1) k) ?_
      show own_Rch p.tables e below (T4.setTop (mkF m 26 #[.val (.int p1), .val (.int p2), .val (.int (p1 &&& (3 : Int32))), .val (.ref aS), .unset, .unset, .unset, .unset] [])) _
      obtain ⟨T6, X6, e6, st6⟩ := getS2 X4 hx hZ hown (host := "") (Or.inl (hw _ (List.mem_of_getElem? (i := 0) rfl))) Via.refl e4 (S_S.ext O0.2) (g := (mkF m 26 #[.val (.int p1), .val (.int p2), .val (.int (p1 &&& (3 : Int32))), .val (.ref aS), .unset, .unset, .unset, .unset] [])) rfl (hb hby at_26)
      refine own_via st6 ?_
      show own_Rch p.tables e below (T6.setTop (mkF m 29 #[.val (.int p1), .val (.int p2), .val (.int (p1 &&& (3 : Int32))), .val (.ref aS), .unset, .unset, .unset, .unset] [(.ref aS)])) _
      refine own_via (fun t k => XS.goto X6.here hx rfl (pc0 := 29) (pc' := 35) rfl (hb hby at_29) (by decide) (by decide) k) ?_
      show own_Rch p.tables e below (T6.setTop (mkF m 35 #[.val (.int p1), .val (.int p2), .val (.int (p1 &&& (3 : Int32))), .val (.ref aS), .unset, .unset, .unset, .unset] [(.ref aS)])) _
      refine own_via (fun t k => XS.astore X6.here hx rfl (hb hby at_35) rfl rfl (l' := #[.val (.int p1), .val (.int p2), .val (.int (p1 &&& (3 : Int32))), .val (.ref aS), .val (.ref aS), .unset, .unset, .unset]) rfl k) ?_
      show own_Rch p.tables e below (T6.setTop (mkF m 37 #[.val (.int p1), .val (.int p2), .val (.int (p1 &&& (3 : Int32))), .val (.ref aS), .val (.ref aS), .unset, .unset, .unset] [])) _
      exact tl p1 p2 _ aS aS aU X6 hx hZ hw hby hml hown Bd.returns Bd.notSynchronized e6 N0 Si0 Z0 O0 S_U E_aS E_aS
set_option maxRecDepth 65536 in
set_option maxHeartbeats 40000000 in
theorem comes_1 {Post : Tables → Env → Array Value → State → Outcome → State → Prop} (hpost : ∀ tb e args s v u, (limb_1_1.after args s (.returned v) u = true ∧ limb_1_2.after args s (.returned v) u = true ∧ True) → own_FE s (.returned v) u (Jvm.fieldLocs frame_1_writes args s ++ Jvm.arrayLocs frame_1_arrays args s ++ Jvm.staticLocs frame_1_statics s) 32 2240 → Post tb e args s (.returned v) u) :
    ArmFor flags0 classFile x code maxLocals ret World_1 tables_1 room_1 Calls_1 rest_1 Pre_1 Post := by
  intro l hfl _ _ p e ha hc hk s m args below hf hA hF happ hP
  obtain ⟨hcalls, hrest, hpre⟩ := hP
  obtain ⟨-, -, -, hnamed, -, -, -, hat⟩ := (Spec.applies_iff hf).mp happ
  obtain ⟨hg, hn⟩ := and_e (Cond.before_iff.mp (show (Jvm.Cond.and given_1 narrow_1).before args s = true from hpre))
  obtain ⟨hcount, r0⟩ := and_e hg
  obtain ⟨v0, r1⟩ := and_e r0
  obtain ⟨w0, w1, rfl⟩ : ∃ w0 w1 : Value, args = #[w0, w1] := by
    have hs : args.size = 2 := by simpa [Cond.value, given_1] using hcount
    obtain ⟨L⟩ := args
    match L, hs with
    | [w0, w1], _ => exact ⟨w0, w1, rfl⟩
  have hw := fun d (hd : d ∈ tables_1) => atoms_spec (ws := Jvm.Cond.code x code maxLocals ret :: tables_1) hat d (List.mem_cons_of_mem _ hd)
  have hfit : Fit s := fun {y c} hc i hi => by
    obtain ⟨ha, rfl⟩ := Array.getElem?_eq_some_iff.mp hc
    have q := List.all_eq_true.mp ((Array.all_eq_true_iff_forall_mem.mp hF) _ (Array.getElem_mem ha)) i (List.mem_range.mpr hi)
    simpa [Array.getElem?_eq_getElem hi] using q
  obtain ⟨i0, ei0⟩ := is_v v0
  obtain rfl : w0 = (.int i0) := Option.some.inj ei0
  obtain ⟨i1, ei1⟩ := is_v r1
  obtain rfl : w1 = (.int i1) := Option.some.inj ei1
  obtain ⟨n1, n2⟩ := and_e hn
  obtain ⟨aS, evS⟩ := exa_v n1
  obtain ⟨aU, evU⟩ := exa_v n2
  have sS := Sta.start evS (Or.inr ⟨hw _ (List.mem_of_getElem? (i := 1) rfl), hw _ (List.mem_of_getElem? (i := 2) rfl)⟩)
  have sU := Sta.start evU (Or.inr ⟨hw _ (List.mem_of_getElem? (i := 1) rfl), hw _ (List.mem_of_getElem? (i := 43) rfl)⟩)
  obtain ⟨n, o, h1, h2, h3, _, L, rfl, ⟨rfl, N⟩, hq⟩ := rm0 l s _ hw tables_1 i0 i1 aU aS s.heap s.heap.size (Nat.le_refl _) (Old.start s) sU sS (Exa.start evU n2) (Exa.start evS n1) p e ha hc hk s m _ below hf ((Spec.applies_iff_loose hf).mp happ).1 ⟨rfl, State.Warmed39.refl s, rfl⟩ trivial
  refine ⟨n, _, h1, h2, h3, hpost _ _ _ _ _ _ ⟨Cond.after_iff.mpr rfl, Cond.after_iff.mpr (eq_i res_at (Term.int_eval (1)) rfl), trivial⟩ (own_FE_of hq N)⟩
theorem main_1_1 : Claimed_1_1 := comes_1 fun _ _ _ _ _ _ h hF => ⟨h.1, hF⟩
theorem main_1_2 : Claimed_1_2 := comes_1 fun _ _ _ _ _ _ h hF => ⟨h.2.1, hF⟩
end Jvm.Pilot.@@N@@
namespace Jvm.Pilot.@@N@@
open Jvm Jvm.ClassFile Sem Op Lib Jvm.Free Jvm.Stand Jvm.Pilot.@@N@@.Jvm.D
/-! MADE BY PROGRAM (witnessworld.py) out of the Statement's table words and the real class files: 24 classes; the members and pool entries that the words name. The judged class is class 1, her method 1. -/
namespace start1
open Jvm.ClassFile
def u (s : String) : CpInfo := .utf8 (stringToUtf16 s)
/-- a pool by its gaps: so many unusable entries, then the entry; so many at the end -/
def gap : Nat → List CpInfo → List CpInfo
  | 0, r => r
  | n + 1, r => .unusable :: gap n r
def poolList (es : List (Nat × CpInfo)) (last : Nat) : List CpInfo := es.foldr (fun e r => gap e.1 (e.2 :: r)) (gap last [])
def pool (es : List (Nat × CpInfo)) (last : Nat) : Array CpInfo := ⟨poolList es last⟩
def fileOf (pool : Array CpInfo) (this : Nat) (attrs : Array Attribute := #[]) (ms : Array MethodInfo := #[]) (fl : Nat := 33) (sup : Nat := 0) (ifs : Array Nat := #[]) (fds : Array FieldInfo := #[]) : ClassFile where
  minorVersion := 0
  majorVersion := 65
  constantPool := pool
  accessFlags := fl
  thisClass := this
  superClass := sup
  interfaces := ifs
  fields := fds
  methods := ms
  attributes := attrs
def plain (name : String) (sup : Option ClassId) : Class where
  name := name
  kind := .ordinary
  loader := none
  accessFlags := 33
  super := sup
  interfaces := #[]
  cf := none
  fields := #[]
  methods := #[]
  instanceTypes := #[]
  staticTypes := #[]
  resolved := #[]
  callSites := []
  init := .initialized
  statics := none
  mirror := none

def pool0 : Array CpInfo := pool [(5, u "<init>"), (0, u "()V"), (1, .class_ 10), (1, u "java/lang/Object")] 113

def k0c0 : Code := { maxStack := 0, maxLocals := 1, code := object_method_1_code, exceptionTable := #[], attributes := #[] }
def k0m0 : Method := { name := "<init>", desc := "()V", sig := { parameters := [], returnType := none }, accessFlags := 1, code := some k0c0 }
/-- java/lang/Object -/
def k0 : Class := { plain "java/lang/Object" none with
  accessFlags := 33
  interfaces := #[]
  cf := some (fileOf pool0 8 #[] #[{ accessFlags := 1, nameIndex := 5, descriptorIndex := 6, attributes := #[] }] 33 0 #[] #[])
  fields := #[]
  methods := #[k0m0]
  instanceTypes := #[]
  staticTypes := #[]
  resolved := Array.replicate 124 none
  statics := none }

def pool1 : Array CpInfo := pool [(2, .class_ 4), (0, .nameAndType 5 6), (0, u "java/lang/Object"), (0, u "<init>"), (0, u "()V"), (0, .fieldref 8 9), (0, .class_ 10), (0, .nameAndType 11 12), (0, u "org/rolepath/model/RootType"), (0, u "SYSTEM"), (0, u "Lorg/rolepath/model/RootType;"), (0, .fieldref 8 14), (0, .nameAndType 15 12), (0, u "USER"), (0, .class_ 17), (0, u "org/rolepath/model/Hierarchy$Builder"), (0, .methodref 16 3), (0, .methodref 16 20), (0, .nameAndType 21 22), (0, u "build"), (0, u "()Lorg/rolepath/model/Hierarchy;"), (0, .methodref 24 25), (0, .class_ 26), (0, .nameAndType 27 28), (0, u "org/rolepath/model/Hierarchy"), (0, u "rootType"), (0, u "()Lorg/rolepath/model/RootType;"), (0, .methodref 16 30), (0, .nameAndType 31 32), (0, u "setRootType"), (0, u "(Lorg/rolepath/model/RootType;)V"), (0, .class_ 34), (0, u "org/rolepath/model/BuilderSetRootTypePinLaw"), (2, u "law"), (0, u "(II)Z")] 5

def k1m0 : Method := { name := "<init>", desc := "()V", sig := { parameters := [], returnType := none }, accessFlags := 1, code := none }
def k1c1 : Code := { maxStack := 2, maxLocals := 8, code := code, exceptionTable := #[], attributes := #[] }
def k1m1 : Method := { name := "law", desc := "(II)Z", sig := { parameters := [.int, .int], returnType := some .boolean }, accessFlags := 9, code := some k1c1 }
/-- org/rolepath/model/BuilderSetRootTypePinLaw -/
def k1 : Class := { plain "org/rolepath/model/BuilderSetRootTypePinLaw" (some 0) with
  accessFlags := 49
  interfaces := #[]
  cf := some (fileOf pool1 33 #[] #[{ accessFlags := 1, nameIndex := 5, descriptorIndex := 6, attributes := #[] }, { accessFlags := 9, nameIndex := 37, descriptorIndex := 38, attributes := #[] }] 49 2 #[] #[])
  fields := #[]
  methods := #[k1m0, k1m1]
  instanceTypes := #[]
  staticTypes := #[]
  resolved := Array.replicate 44 none
  statics := none }

def pool2 : Array CpInfo := pool [(1, .class_ 2), (0, u "java/lang/constant/Constable"), (0, .class_ 4), (0, u "java/lang/Object")] 6

/-- java/lang/constant/Constable -/
def k2 : Class := { plain "java/lang/constant/Constable" (some 0) with
  accessFlags := 1537
  interfaces := #[]
  cf := some (fileOf pool2 1 #[] #[] 1537 3 #[] #[])
  fields := #[]
  methods := #[]
  instanceTypes := #[]
  staticTypes := #[]
  resolved := Array.replicate 11 none
  statics := none }

def pool3 : Array CpInfo := pool [(1, .class_ 2), (0, u "java/lang/Comparable"), (0, .class_ 4), (0, u "java/lang/Object")] 7

/-- java/lang/Comparable -/
def k3 : Class := { plain "java/lang/Comparable" (some 0) with
  accessFlags := 1537
  interfaces := #[]
  cf := some (fileOf pool3 1 #[] #[] 1537 3 #[] #[])
  fields := #[]
  methods := #[]
  instanceTypes := #[]
  staticTypes := #[]
  resolved := Array.replicate 12 none
  statics := none }

def pool4 : Array CpInfo := pool [(1, .class_ 2), (0, u "java/io/Serializable"), (0, .class_ 4), (0, u "java/lang/Object")] 2

/-- java/io/Serializable -/
def k4 : Class := { plain "java/io/Serializable" (some 0) with
  accessFlags := 1537
  interfaces := #[]
  cf := some (fileOf pool4 1 #[] #[] 1537 3 #[] #[])
  fields := #[]
  methods := #[]
  instanceTypes := #[]
  staticTypes := #[]
  resolved := Array.replicate 7 none
  statics := none }

def pool5 : Array CpInfo := pool [(2, .class_ 4), (1, u "java/lang/Enum"), (0, u "name"), (0, u "Ljava/lang/String;"), (2, u "ordinal"), (0, u "I"), (1, .class_ 14), (1, u "java/lang/Object"), (4, u "hash"), (86, .class_ 108), (1, u "java/lang/Enum$EnumDesc"), (2, .class_ 112), (0, u "java/lang/constant/Constable"), (0, .class_ 114), (0, u "java/lang/Comparable"), (0, .class_ 116), (0, u "java/io/Serializable")] 87

/-- java/lang/Enum -/
def k5 : Class := { plain "java/lang/Enum" (some 0) with
  accessFlags := 1057
  interfaces := #[2, 3, 4]
  cf := some (fileOf pool5 2 #[.nestMembers #[106]] #[] 1057 12 #[111, 113, 115] #[{ accessFlags := 18, nameIndex := 5, descriptorIndex := 6, attributes := #[] }, { accessFlags := 18, nameIndex := 9, descriptorIndex := 10, attributes := #[] }, { accessFlags := 2, nameIndex := 19, descriptorIndex := 10, attributes := #[] }])
  fields := #[{ name := "name", type := (.object "java/lang/String"), accessFlags := 18, slot := 0, constantValue := 0 }, { name := "ordinal", type := .int, accessFlags := 18, slot := 1, constantValue := 0 }, { name := "hash", type := .int, accessFlags := 2, slot := 2, constantValue := 0 }]
  methods := #[]
  instanceTypes := #[(.object "java/lang/String"), .int, .int]
  staticTypes := #[]
  resolved := Array.replicate 204 none
  statics := none }

def pool6 : Array CpInfo := pool [(1, .class_ 2), (0, u "org/rolepath/model/RootType"), (2, u "USER"), (0, u "Lorg/rolepath/model/RootType;"), (2, u "SYSTEM"), (2, u "$VALUES"), (0, u "[Lorg/rolepath/model/RootType;"), (6, .class_ 22), (1, u "java/lang/Enum"), (8, u "typeName"), (0, u "Ljava/lang/String;")] 64

/-- org/rolepath/model/RootType -/
def k6 : Class := { plain "org/rolepath/model/RootType" (some 5) with
  accessFlags := 16433
  interfaces := #[]
  cf := some (fileOf pool6 1 #[] #[] 16433 20 #[] #[{ accessFlags := 16409, nameIndex := 5, descriptorIndex := 6, attributes := #[] }, { accessFlags := 16409, nameIndex := 9, descriptorIndex := 6, attributes := #[] }, { accessFlags := 18, nameIndex := 31, descriptorIndex := 32, attributes := #[] }, { accessFlags := 4122, nameIndex := 12, descriptorIndex := 13, attributes := #[] }])
  fields := #[{ name := "USER", type := (.object "org/rolepath/model/RootType"), accessFlags := 16409, slot := 0, constantValue := 0 }, { name := "SYSTEM", type := (.object "org/rolepath/model/RootType"), accessFlags := 16409, slot := 1, constantValue := 0 }, { name := "typeName", type := (.object "java/lang/String"), accessFlags := 18, slot := 3, constantValue := 0 }, { name := "$VALUES", type := (.array (.object "org/rolepath/model/RootType")), accessFlags := 4122, slot := 2, constantValue := 0 }]
  methods := #[]
  instanceTypes := #[(.object "java/lang/String"), .int, .int, (.object "java/lang/String")]
  staticTypes := #[(.object "org/rolepath/model/RootType"), (.object "org/rolepath/model/RootType"), (.array (.object "org/rolepath/model/RootType"))]
  resolved := Array.replicate 97 none
  statics := some 0 }

def pool7 : Array CpInfo := pool [(1, .methodref 2 3), (0, .class_ 4), (0, .nameAndType 5 6), (0, u "java/lang/Object"), (0, u "<init>"), (0, u "()V"), (0, .methodref 8 9), (0, .class_ 10), (0, .nameAndType 11 12), (0, u "org/rolepath/model/Node"), (0, u "root"), (0, u "()Lorg/rolepath/model/Node;"), (0, .fieldref 14 15), (0, .class_ 16), (0, .nameAndType 11 17), (0, u "org/rolepath/model/Hierarchy$Builder"), (0, u "Lorg/rolepath/model/Node;"), (0, .fieldref 14 19), (0, .nameAndType 20 17), (0, u "current"), (0, .fieldref 22 23), (0, .class_ 24), (0, .nameAndType 25 26), (0, u "org/rolepath/model/RootType"), (0, u "USER"), (0, u "Lorg/rolepath/model/RootType;"), (0, .fieldref 14 28), (0, .nameAndType 29 26), (0, u "rootType"), (0, .class_ 31), (0, u "org/rolepath/model/PropertyMap$Builder"), (0, .methodref 30 3), (0, .fieldref 14 34), (0, .nameAndType 35 36), (0, u "properties"), (0, u "Lorg/rolepath/model/PropertyMap$Builder;"), (0, .class_ 38), (0, u "java/util/HashMap"), (0, .methodref 37 3), (0, .fieldref 14 41), (0, .nameAndType 42 43), (0, u "keys"), (0, u "Ljava/util/Map;"), (0, .string 45), (0, u "type"), (0, .methodref 47 48), (0, .class_ 49), (0, .nameAndType 50 51), (0, u "java/util/Objects"), (0, u "requireNonNull"), (0, u "(Ljava/lang/Object;Ljava/lang/String;)Ljava/lang/Object;"), (41, .methodref 8 94), (0, .nameAndType 95 96), (0, u "takeProperties"), (0, u "(Lorg/rolepath/model/PropertyMap$Builder;)V"), (0, .class_ 98), (0, u "org/rolepath/model/Hierarchy"), (0, .methodref 97 100), (0, .nameAndType 5 101), (0, u "(Lorg/rolepath/model/Node;Lorg/rolepath/model/RootType;)V"), (29, u "setRootType"), (0, u "(Lorg/rolepath/model/RootType;)V"), (4, u "build"), (0, u "()Lorg/rolepath/model/Hierarchy;")] 44

def k7c0 : Code := { maxStack := 3, maxLocals := 1, code := prog_57_method_1_code, exceptionTable := #[], attributes := #[] }
def k7m0 : Method := { name := "<init>", desc := "()V", sig := { parameters := [], returnType := none }, accessFlags := 1, code := some k7c0 }
def k7c1 : Code := { maxStack := 3, maxLocals := 2, code := prog_57_method_2_code, exceptionTable := #[], attributes := #[] }
def k7m1 : Method := { name := "setRootType", desc := "(Lorg/rolepath/model/RootType;)V", sig := { parameters := [(.object "org/rolepath/model/RootType")], returnType := none }, accessFlags := 1, code := some k7c1 }
def k7c2 : Code := { maxStack := 4, maxLocals := 1, code := prog_57_method_9_code, exceptionTable := #[], attributes := #[] }
def k7m2 : Method := { name := "build", desc := "()Lorg/rolepath/model/Hierarchy;", sig := { parameters := [], returnType := some (.object "org/rolepath/model/Hierarchy") }, accessFlags := 1, code := some k7c2 }
/-- org/rolepath/model/Hierarchy$Builder -/
def k7 : Class := { plain "org/rolepath/model/Hierarchy$Builder" (some 0) with
  accessFlags := 49
  interfaces := #[]
  cf := some (fileOf pool7 14 #[.nestHost 97] #[{ accessFlags := 1, nameIndex := 5, descriptorIndex := 6, attributes := #[] }, { accessFlags := 1, nameIndex := 131, descriptorIndex := 132, attributes := #[] }, { accessFlags := 1, nameIndex := 137, descriptorIndex := 138, attributes := #[] }] 49 2 #[] #[{ accessFlags := 18, nameIndex := 11, descriptorIndex := 17, attributes := #[] }, { accessFlags := 2, nameIndex := 20, descriptorIndex := 17, attributes := #[] }, { accessFlags := 2, nameIndex := 29, descriptorIndex := 26, attributes := #[] }, { accessFlags := 18, nameIndex := 35, descriptorIndex := 36, attributes := #[] }, { accessFlags := 18, nameIndex := 42, descriptorIndex := 43, attributes := #[] }])
  fields := #[{ name := "root", type := (.object "org/rolepath/model/Node"), accessFlags := 18, slot := 0, constantValue := 0 }, { name := "current", type := (.object "org/rolepath/model/Node"), accessFlags := 2, slot := 1, constantValue := 0 }, { name := "rootType", type := (.object "org/rolepath/model/RootType"), accessFlags := 2, slot := 2, constantValue := 0 }, { name := "properties", type := (.object "org/rolepath/model/PropertyMap$Builder"), accessFlags := 18, slot := 3, constantValue := 0 }, { name := "keys", type := (.object "java/util/Map"), accessFlags := 18, slot := 4, constantValue := 0 }]
  methods := #[k7m0, k7m1, k7m2]
  instanceTypes := #[(.object "org/rolepath/model/Node"), (.object "org/rolepath/model/Node"), (.object "org/rolepath/model/RootType"), (.object "org/rolepath/model/PropertyMap$Builder"), (.object "java/util/Map")]
  staticTypes := #[]
  resolved := Array.replicate 183 none
  statics := none }

def pool8 : Array CpInfo := pool [(1, .methodref 2 3), (0, .class_ 4), (0, .nameAndType 5 6), (0, u "java/lang/Object"), (0, u "<init>"), (0, u "()V"), (0, .fieldref 8 9), (0, .class_ 10), (0, .nameAndType 11 12), (0, u "org/rolepath/model/Node"), (0, u "name"), (0, u "Ljava/lang/String;"), (0, .fieldref 8 14), (0, .nameAndType 15 16), (0, u "parent"), (0, u "Lorg/rolepath/model/Node;"), (0, .fieldref 8 18), (0, .nameAndType 19 20), (0, u "depth"), (0, u "I"), (0, .fieldref 8 22), (0, .nameAndType 23 24), (0, u "kind"), (0, u "Lorg/rolepath/model/Kind;"), (12, .string 38), (0, u ""), (0, .methodref 8 40), (0, .nameAndType 5 41), (0, u "(Ljava/lang/String;Lorg/rolepath/model/Node;)V"), (2, .nameAndType 46 47), (1, u "isEmpty"), (0, u "()Z"), (63, u "children"), (0, u "Ljava/util/NavigableMap;"), (7, u "Ljava/util/Comparator;"), (17, .fieldref 8 139), (0, .nameAndType 140 141), (0, u "properties"), (0, u "Lorg/rolepath/model/PropertyMap;"), (7, .class_ 151), (1, u "org/rolepath/model/PropertyMap$Builder"), (7, .methodref 149 44), (123, u "PATH_ORDER"), (2, u "MAX_LEVELS"), (6, u "root"), (0, u "()Lorg/rolepath/model/Node;"), (5, u "takeProperties"), (0, u "(Lorg/rolepath/model/PropertyMap$Builder;)V")] 78

def k8c0 : Code := { maxStack := 3, maxLocals := 3, code := prog_60_method_1_code, exceptionTable := #[], attributes := #[] }
def k8m0 : Method := { name := "<init>", desc := "(Ljava/lang/String;Lorg/rolepath/model/Node;)V", sig := { parameters := [(.object "java/lang/String"), (.object "org/rolepath/model/Node")], returnType := none }, accessFlags := 2, code := some k8c0 }
def k8c1 : Code := { maxStack := 4, maxLocals := 0, code := prog_60_method_2_code, exceptionTable := #[], attributes := #[] }
def k8m1 : Method := { name := "root", desc := "()Lorg/rolepath/model/Node;", sig := { parameters := [], returnType := some (.object "org/rolepath/model/Node") }, accessFlags := 8, code := some k8c1 }
def k8c2 : Code := { maxStack := 3, maxLocals := 2, code := prog_60_method_6_code, exceptionTable := #[], attributes := #[] }
def k8m2 : Method := { name := "takeProperties", desc := "(Lorg/rolepath/model/PropertyMap$Builder;)V", sig := { parameters := [(.object "org/rolepath/model/PropertyMap$Builder")], returnType := none }, accessFlags := 0, code := some k8c2 }
/-- org/rolepath/model/Node -/
def k8 : Class := { plain "org/rolepath/model/Node" (some 0) with
  accessFlags := 49
  interfaces := #[]
  cf := some (fileOf pool8 8 #[] #[{ accessFlags := 2, nameIndex := 5, descriptorIndex := 41, attributes := #[] }, { accessFlags := 8, nameIndex := 293, descriptorIndex := 294, attributes := #[] }, { accessFlags := 0, nameIndex := 300, descriptorIndex := 301, attributes := #[] }] 49 2 #[] #[{ accessFlags := 25, nameIndex := 283, descriptorIndex := 120, attributes := #[] }, { accessFlags := 25, nameIndex := 286, descriptorIndex := 20, attributes := #[] }, { accessFlags := 18, nameIndex := 11, descriptorIndex := 12, attributes := #[] }, { accessFlags := 18, nameIndex := 15, descriptorIndex := 16, attributes := #[] }, { accessFlags := 18, nameIndex := 19, descriptorIndex := 20, attributes := #[] }, { accessFlags := 18, nameIndex := 23, descriptorIndex := 24, attributes := #[] }, { accessFlags := 2, nameIndex := 111, descriptorIndex := 112, attributes := #[] }, { accessFlags := 2, nameIndex := 140, descriptorIndex := 141, attributes := #[] }])
  fields := #[{ name := "PATH_ORDER", type := (.object "java/util/Comparator"), accessFlags := 25, slot := 0, constantValue := 0 }, { name := "MAX_LEVELS", type := .int, accessFlags := 25, slot := 1, constantValue := 0 }, { name := "name", type := (.object "java/lang/String"), accessFlags := 18, slot := 0, constantValue := 0 }, { name := "parent", type := (.object "org/rolepath/model/Node"), accessFlags := 18, slot := 1, constantValue := 0 }, { name := "depth", type := .int, accessFlags := 18, slot := 2, constantValue := 0 }, { name := "kind", type := (.object "org/rolepath/model/Kind"), accessFlags := 18, slot := 3, constantValue := 0 }, { name := "children", type := (.object "java/util/NavigableMap"), accessFlags := 2, slot := 4, constantValue := 0 }, { name := "properties", type := (.object "org/rolepath/model/PropertyMap"), accessFlags := 2, slot := 5, constantValue := 0 }]
  methods := #[k8m0, k8m1, k8m2]
  instanceTypes := #[(.object "java/lang/String"), (.object "org/rolepath/model/Node"), .int, (.object "org/rolepath/model/Kind"), (.object "java/util/NavigableMap"), (.object "org/rolepath/model/PropertyMap")]
  staticTypes := #[(.object "java/util/Comparator"), .int]
  resolved := Array.replicate 380 none
  statics := none }

def pool9 : Array CpInfo := pool [(2, .class_ 4), (1, u "java/lang/CharSequence"), (42, .class_ 48), (0, u "java/lang/CharSequence$1CodePointIterator"), (10, .class_ 60), (0, u "java/lang/CharSequence$1CharIterator"), (5, .class_ 67), (0, u "java/lang/Object")] 63

/-- java/lang/CharSequence -/
def k9 : Class := { plain "java/lang/CharSequence" (some 0) with
  accessFlags := 1537
  interfaces := #[]
  cf := some (fileOf pool9 2 #[.nestMembers #[47, 59]] #[] 1537 66 #[] #[])
  fields := #[]
  methods := #[]
  instanceTypes := #[]
  staticTypes := #[]
  resolved := Array.replicate 131 none
  statics := none }

def pool10 : Array CpInfo := pool [(1, .class_ 2), (0, u "java/lang/constant/ConstantDesc"), (0, .class_ 4), (0, u "java/lang/Object")] 32

/-- java/lang/constant/ConstantDesc -/
def k10 : Class := { plain "java/lang/constant/ConstantDesc" (some 0) with
  accessFlags := 1537
  interfaces := #[]
  cf := some (fileOf pool10 1 #[] #[] 1537 3 #[] #[])
  fields := #[]
  methods := #[]
  instanceTypes := #[]
  staticTypes := #[]
  resolved := Array.replicate 37 none
  statics := none }

def pool11 : Array CpInfo := pool [(2, .class_ 4), (1, u "java/lang/Object"), (0, u "<init>"), (0, u "()V"), (3, .class_ 12), (1, u "java/lang/String"), (0, u "value"), (0, u "[B"), (2, u "coder"), (0, u "B"), (2, u "hash"), (0, u "I"), (2, u "hashIsZero"), (0, u "Z"), (13, u "COMPACT_STRINGS"), (534, .class_ 576), (0, u "java/lang/CharSequence"), (22, u "CASE_INSENSITIVE_ORDER"), (0, u "Ljava/util/Comparator;"), (500, u "serialPersistentFields"), (0, u "[Ljava/io/ObjectStreamField;"), (0, .class_ 1104), (0, u "java/lang/String$CaseInsensitiveComparator"), (1, .class_ 1107), (0, u "java/io/Serializable"), (0, .class_ 1109), (0, u "java/lang/Comparable"), (0, .class_ 1111), (0, u "java/lang/constant/Constable"), (0, .class_ 1113), (0, u "java/lang/constant/ConstantDesc"), (2, u "serialVersionUID"), (0, u "J"), (3, u "REPL"), (0, u "C"), (2, u "LATIN1"), (1, u "UTF16")] 323

def k11m0 : Method := { name := "<init>", desc := "()V", sig := { parameters := [], returnType := none }, accessFlags := 1, code := none }
/-- java/lang/String -/
def k11 : Class := { plain "java/lang/String" (some 0) with
  accessFlags := 49
  interfaces := #[4, 3, 9, 2, 10]
  cf := some (fileOf pool11 10 #[.nestMembers #[1103]] #[{ accessFlags := 1, nameIndex := 5, descriptorIndex := 6, attributes := #[] }] 49 2 #[1106, 1108, 575, 1110, 1112] #[{ accessFlags := 18, nameIndex := 13, descriptorIndex := 14, attributes := #[] }, { accessFlags := 18, nameIndex := 17, descriptorIndex := 18, attributes := #[] }, { accessFlags := 2, nameIndex := 21, descriptorIndex := 22, attributes := #[] }, { accessFlags := 2, nameIndex := 25, descriptorIndex := 26, attributes := #[] }, { accessFlags := 26, nameIndex := 1116, descriptorIndex := 1117, attributes := #[] }, { accessFlags := 24, nameIndex := 40, descriptorIndex := 26, attributes := #[] }, { accessFlags := 26, nameIndex := 1101, descriptorIndex := 1102, attributes := #[] }, { accessFlags := 26, nameIndex := 1121, descriptorIndex := 1122, attributes := #[] }, { accessFlags := 25, nameIndex := 599, descriptorIndex := 600, attributes := #[] }, { accessFlags := 24, nameIndex := 1125, descriptorIndex := 18, attributes := #[] }, { accessFlags := 24, nameIndex := 1127, descriptorIndex := 18, attributes := #[] }])
  fields := #[{ name := "value", type := (.array .byte), accessFlags := 18, slot := 0, constantValue := 0 }, { name := "coder", type := .byte, accessFlags := 18, slot := 1, constantValue := 0 }, { name := "hash", type := .int, accessFlags := 2, slot := 2, constantValue := 0 }, { name := "hashIsZero", type := .boolean, accessFlags := 2, slot := 3, constantValue := 0 }, { name := "serialVersionUID", type := .long, accessFlags := 26, slot := 0, constantValue := 0 }, { name := "COMPACT_STRINGS", type := .boolean, accessFlags := 24, slot := 1, constantValue := 0 }, { name := "serialPersistentFields", type := (.array (.object "java/io/ObjectStreamField")), accessFlags := 26, slot := 2, constantValue := 0 }, { name := "REPL", type := .char, accessFlags := 26, slot := 3, constantValue := 0 }, { name := "CASE_INSENSITIVE_ORDER", type := (.object "java/util/Comparator"), accessFlags := 25, slot := 4, constantValue := 0 }, { name := "LATIN1", type := .byte, accessFlags := 24, slot := 5, constantValue := 0 }, { name := "UTF16", type := .byte, accessFlags := 24, slot := 6, constantValue := 0 }]
  methods := #[k11m0]
  instanceTypes := #[(.array .byte), .byte, .int, .boolean]
  staticTypes := #[.long, .boolean, (.array (.object "java/io/ObjectStreamField")), .char, (.object "java/util/Comparator"), .byte, .byte]
  resolved := Array.replicate 1451 none
  statics := none }

def pool12 : Array CpInfo := pool [(1, .methodref 2 3), (0, .class_ 4), (0, .nameAndType 5 6), (0, u "java/lang/Object"), (0, u "<init>"), (0, u "()V"), (0, .class_ 8), (0, u "org/rolepath/model/PropertyMap$Builder"), (0, .class_ 10), (0, u "java/lang/String"), (0, .fieldref 7 12), (0, .nameAndType 13 14), (0, u "keys"), (0, u "[Ljava/lang/String;"), (0, .fieldref 7 16), (0, .nameAndType 17 14), (0, u "values"), (0, .fieldref 7 19), (0, .nameAndType 20 21), (0, u "size"), (0, u "I"), (2, u "keySet"), (0, u "Ljava/util/Set;"), (35, .class_ 62), (0, u "org/rolepath/model/PropertyMap"), (75, u "FEW"), (6, u "isEmpty"), (0, u "()Z")] 62

def k12c0 : Code := { maxStack := 2, maxLocals := 1, code := prog_65_method_1_code, exceptionTable := #[], attributes := #[] }
def k12m0 : Method := { name := "<init>", desc := "()V", sig := { parameters := [], returnType := none }, accessFlags := 0, code := some k12c0 }
def k12c1 : Code := { maxStack := 1, maxLocals := 1, code := prog_65_method_2_code, exceptionTable := #[], attributes := #[] }
def k12m1 : Method := { name := "isEmpty", desc := "()Z", sig := { parameters := [], returnType := some .boolean }, accessFlags := 0, code := some k12c1 }
/-- org/rolepath/model/PropertyMap$Builder -/
def k12 : Class := { plain "org/rolepath/model/PropertyMap$Builder" (some 0) with
  accessFlags := 48
  interfaces := #[]
  cf := some (fileOf pool12 7 #[.nestHost 61] #[{ accessFlags := 0, nameIndex := 5, descriptorIndex := 6, attributes := #[] }, { accessFlags := 0, nameIndex := 145, descriptorIndex := 146, attributes := #[] }] 48 2 #[] #[{ accessFlags := 26, nameIndex := 138, descriptorIndex := 21, attributes := #[] }, { accessFlags := 2, nameIndex := 13, descriptorIndex := 14, attributes := #[] }, { accessFlags := 2, nameIndex := 17, descriptorIndex := 14, attributes := #[] }, { accessFlags := 2, nameIndex := 20, descriptorIndex := 21, attributes := #[] }, { accessFlags := 2, nameIndex := 24, descriptorIndex := 25, attributes := #[] }])
  fields := #[{ name := "FEW", type := .int, accessFlags := 26, slot := 0, constantValue := 0 }, { name := "keys", type := (.array (.object "java/lang/String")), accessFlags := 2, slot := 0, constantValue := 0 }, { name := "values", type := (.array (.object "java/lang/String")), accessFlags := 2, slot := 1, constantValue := 0 }, { name := "size", type := .int, accessFlags := 2, slot := 2, constantValue := 0 }, { name := "keySet", type := (.object "java/util/Set"), accessFlags := 2, slot := 3, constantValue := 0 }]
  methods := #[k12m0, k12m1]
  instanceTypes := #[(.array (.object "java/lang/String")), (.array (.object "java/lang/String")), .int, (.object "java/util/Set")]
  staticTypes := #[.int]
  resolved := Array.replicate 209 none
  statics := none }

def pool13 : Array CpInfo := pool [(2, .class_ 4), (1, u "java/util/Map"), (31, .class_ 37), (0, u "java/util/Map$Entry"), (55, .class_ 94), (0, u "java/lang/Object")] 168

/-- java/util/Map -/
def k13 : Class := { plain "java/util/Map" (some 0) with
  accessFlags := 1537
  interfaces := #[]
  cf := some (fileOf pool13 2 #[.nestMembers #[36]] #[] 1537 93 #[] #[])
  fields := #[]
  methods := #[]
  instanceTypes := #[]
  staticTypes := #[]
  resolved := Array.replicate 263 none
  statics := none }

def pool14 : Array CpInfo := pool [(1, .methodref 2 3), (0, .class_ 4), (0, .nameAndType 5 6), (0, u "java/lang/Object"), (0, u "<init>"), (0, u "()V"), (1, .class_ 10), (1, u "java/util/AbstractMap"), (42, .class_ 54), (0, u "java/util/Map"), (9, u "keySet"), (0, u "Ljava/util/Set;"), (0, .class_ 67), (0, u "java/util/AbstractMap$1"), (5, u "values"), (0, u "Ljava/util/Collection;"), (0, .class_ 76), (0, u "java/util/AbstractMap$2"), (104, .class_ 182), (0, u "java/util/AbstractMap$ViewCollection"), (0, .class_ 184), (0, u "java/util/AbstractMap$SimpleImmutableEntry"), (0, .class_ 186), (0, u "java/util/AbstractMap$SimpleEntry"), (0, .class_ 188), (0, u "java/util/AbstractMap$2$1"), (0, .class_ 190), (0, u "java/util/AbstractMap$1$1")] 5

def k14c0 : Code := { maxStack := 1, maxLocals := 1, code := jdk_71_method_1_code, exceptionTable := #[], attributes := #[] }
def k14m0 : Method := { name := "<init>", desc := "()V", sig := { parameters := [], returnType := none }, accessFlags := 4, code := some k14c0 }
/-- java/util/AbstractMap -/
def k14 : Class := { plain "java/util/AbstractMap" (some 0) with
  accessFlags := 1057
  interfaces := #[13]
  cf := some (fileOf pool14 8 #[.nestMembers #[181, 183, 185, 75, 187, 66, 189]] #[{ accessFlags := 4, nameIndex := 5, descriptorIndex := 6, attributes := #[] }] 1057 2 #[53] #[{ accessFlags := 128, nameIndex := 64, descriptorIndex := 65, attributes := #[] }, { accessFlags := 128, nameIndex := 73, descriptorIndex := 74, attributes := #[] }])
  fields := #[{ name := "keySet", type := (.object "java/util/Set"), accessFlags := 128, slot := 0, constantValue := 0 }, { name := "values", type := (.object "java/util/Collection"), accessFlags := 128, slot := 1, constantValue := 0 }]
  methods := #[k14m0]
  instanceTypes := #[(.object "java/util/Set"), (.object "java/util/Collection")]
  staticTypes := #[]
  resolved := Array.replicate 196 none
  statics := none }

def pool15 : Array CpInfo := pool [(1, .class_ 2), (0, u "java/lang/Cloneable"), (0, .class_ 4), (0, u "java/lang/Object")] 2

/-- java/lang/Cloneable -/
def k15 : Class := { plain "java/lang/Cloneable" (some 0) with
  accessFlags := 1537
  interfaces := #[]
  cf := some (fileOf pool15 1 #[] #[] 1537 3 #[] #[])
  fields := #[]
  methods := #[]
  instanceTypes := #[]
  staticTypes := #[]
  resolved := Array.replicate 7 none
  statics := none }

def pool16 : Array CpInfo := pool [(40, .class_ 41), (0, u "java/util/HashMap"), (1, .methodref 44 45), (0, .class_ 46), (0, .nameAndType 47 48), (0, u "java/util/AbstractMap"), (0, u "<init>"), (0, u "()V"), (32, .fieldref 40 82), (0, .nameAndType 83 84), (0, u "loadFactor"), (0, u "F"), (5, u "threshold"), (0, u "I"), (0, .float 1061158912), (8, .class_ 103), (1, u "java/util/Map"), (0, u "size"), (2, u "table"), (0, u "[Ljava/util/HashMap$Node;"), (14, u "entrySet"), (39, .class_ 165), (1, u "java/util/HashMap$Node"), (14, .class_ 181), (0, u "java/util/HashMap$TreeNode"), (22, u "modCount"), (37, u "Ljava/util/Set;"), (0, .class_ 244), (0, u "java/util/HashMap$KeySet"), (18, .class_ 264), (0, u "java/util/HashMap$Values"), (3, .class_ 269), (0, u "java/util/HashMap$EntrySet"), (76, .class_ 348), (1, u "java/util/HashMap$UnsafeHolder"), (43, .class_ 393), (0, u "java/lang/Cloneable"), (0, .class_ 395), (0, u "java/io/Serializable"), (0, u "serialVersionUID"), (0, u "J"), (3, u "DEFAULT_INITIAL_CAPACITY"), (1, u "MAXIMUM_CAPACITY"), (0, u "DEFAULT_LOAD_FACTOR"), (0, u "TREEIFY_THRESHOLD"), (1, u "UNTREEIFY_THRESHOLD"), (1, u "MIN_TREEIFY_CAPACITY"), (186, .class_ 597), (0, u "java/util/HashMap$EntrySpliterator"), (0, .class_ 599), (0, u "java/util/HashMap$ValueSpliterator"), (0, .class_ 601), (0, u "java/util/HashMap$KeySpliterator"), (0, .class_ 603), (0, u "java/util/HashMap$HashMapSpliterator"), (0, .class_ 605), (0, u "java/util/HashMap$EntryIterator"), (0, .class_ 607), (0, u "java/util/HashMap$ValueIterator"), (0, .class_ 609), (0, u "java/util/HashMap$KeyIterator"), (0, .class_ 611), (0, u "java/util/HashMap$HashIterator")] 17

def k16c0 : Code := { maxStack := 2, maxLocals := 1, code := jdk_69_method_7_code, exceptionTable := #[], attributes := #[] }
def k16m0 : Method := { name := "<init>", desc := "()V", sig := { parameters := [], returnType := none }, accessFlags := 1, code := some k16c0 }
/-- java/util/HashMap -/
def k16 : Class := { plain "java/util/HashMap" (some 14) with
  accessFlags := 33
  interfaces := #[13, 15, 4]
  cf := some (fileOf pool16 40 #[.nestMembers #[180, 596, 598, 600, 602, 604, 606, 608, 610, 346, 268, 263, 243, 163]] #[{ accessFlags := 1, nameIndex := 47, descriptorIndex := 48, attributes := #[] }] 33 44 #[101, 392, 394] #[{ accessFlags := 26, nameIndex := 396, descriptorIndex := 397, attributes := #[] }, { accessFlags := 24, nameIndex := 401, descriptorIndex := 91, attributes := #[] }, { accessFlags := 24, nameIndex := 403, descriptorIndex := 91, attributes := #[] }, { accessFlags := 24, nameIndex := 404, descriptorIndex := 84, attributes := #[] }, { accessFlags := 24, nameIndex := 405, descriptorIndex := 91, attributes := #[] }, { accessFlags := 24, nameIndex := 407, descriptorIndex := 91, attributes := #[] }, { accessFlags := 24, nameIndex := 409, descriptorIndex := 91, attributes := #[] }, { accessFlags := 128, nameIndex := 107, descriptorIndex := 108, attributes := #[] }, { accessFlags := 128, nameIndex := 123, descriptorIndex := 242, attributes := #[] }, { accessFlags := 128, nameIndex := 104, descriptorIndex := 91, attributes := #[] }, { accessFlags := 128, nameIndex := 204, descriptorIndex := 91, attributes := #[] }, { accessFlags := 0, nameIndex := 90, descriptorIndex := 91, attributes := #[] }, { accessFlags := 16, nameIndex := 83, descriptorIndex := 84, attributes := #[] }])
  fields := #[{ name := "serialVersionUID", type := .long, accessFlags := 26, slot := 0, constantValue := 0 }, { name := "DEFAULT_INITIAL_CAPACITY", type := .int, accessFlags := 24, slot := 1, constantValue := 0 }, { name := "MAXIMUM_CAPACITY", type := .int, accessFlags := 24, slot := 2, constantValue := 0 }, { name := "DEFAULT_LOAD_FACTOR", type := .float, accessFlags := 24, slot := 3, constantValue := 0 }, { name := "TREEIFY_THRESHOLD", type := .int, accessFlags := 24, slot := 4, constantValue := 0 }, { name := "UNTREEIFY_THRESHOLD", type := .int, accessFlags := 24, slot := 5, constantValue := 0 }, { name := "MIN_TREEIFY_CAPACITY", type := .int, accessFlags := 24, slot := 6, constantValue := 0 }, { name := "table", type := (.array (.object "java/util/HashMap$Node")), accessFlags := 128, slot := 2, constantValue := 0 }, { name := "entrySet", type := (.object "java/util/Set"), accessFlags := 128, slot := 3, constantValue := 0 }, { name := "size", type := .int, accessFlags := 128, slot := 4, constantValue := 0 }, { name := "modCount", type := .int, accessFlags := 128, slot := 5, constantValue := 0 }, { name := "threshold", type := .int, accessFlags := 0, slot := 6, constantValue := 0 }, { name := "loadFactor", type := .float, accessFlags := 16, slot := 7, constantValue := 0 }]
  methods := #[k16m0]
  instanceTypes := #[(.object "java/util/Set"), (.object "java/util/Collection"), (.array (.object "java/util/HashMap$Node")), (.object "java/util/Set"), .int, .int, .int, .float]
  staticTypes := #[.long, .int, .int, .float, .int, .int, .int]
  resolved := Array.replicate 629 none
  statics := none }

def pool17 : Array CpInfo := pool [(1, .methodref 2 3), (0, .class_ 4), (0, .nameAndType 5 6), (0, u "java/lang/Object"), (0, u "<init>"), (0, u "()V"), (0, .fieldref 8 9), (0, .class_ 10), (0, .nameAndType 11 12), (0, u "org/rolepath/model/Hierarchy"), (0, u "root"), (0, u "Lorg/rolepath/model/Node;"), (0, .fieldref 8 14), (0, .nameAndType 15 16), (0, u "rootType"), (0, u "Lorg/rolepath/model/RootType;"), (155, u "(Lorg/rolepath/model/Node;Lorg/rolepath/model/RootType;)V"), (19, u "()Lorg/rolepath/model/RootType;"), (17, .class_ 211), (0, u "org/rolepath/model/Hierarchy$Builder")] 46

def k17c0 : Code := { maxStack := 2, maxLocals := 3, code := prog_56_method_1_code, exceptionTable := #[], attributes := #[] }
def k17m0 : Method := { name := "<init>", desc := "(Lorg/rolepath/model/Node;Lorg/rolepath/model/RootType;)V", sig := { parameters := [(.object "org/rolepath/model/Node"), (.object "org/rolepath/model/RootType")], returnType := none }, accessFlags := 2, code := some k17c0 }
def k17c1 : Code := { maxStack := 1, maxLocals := 1, code := prog_56_method_3_code, exceptionTable := #[], attributes := #[] }
def k17m1 : Method := { name := "rootType", desc := "()Lorg/rolepath/model/RootType;", sig := { parameters := [], returnType := some (.object "org/rolepath/model/RootType") }, accessFlags := 1, code := some k17c1 }
/-- org/rolepath/model/Hierarchy -/
def k17 : Class := { plain "org/rolepath/model/Hierarchy" (some 0) with
  accessFlags := 49
  interfaces := #[]
  cf := some (fileOf pool17 8 #[.nestMembers #[210]] #[{ accessFlags := 2, nameIndex := 5, descriptorIndex := 172, attributes := #[] }, { accessFlags := 1, nameIndex := 15, descriptorIndex := 192, attributes := #[] }] 49 2 #[] #[{ accessFlags := 18, nameIndex := 11, descriptorIndex := 12, attributes := #[] }, { accessFlags := 18, nameIndex := 15, descriptorIndex := 16, attributes := #[] }])
  fields := #[{ name := "root", type := (.object "org/rolepath/model/Node"), accessFlags := 18, slot := 0, constantValue := 0 }, { name := "rootType", type := (.object "org/rolepath/model/RootType"), accessFlags := 18, slot := 1, constantValue := 0 }]
  methods := #[k17m0, k17m1]
  instanceTypes := #[(.object "org/rolepath/model/Node"), (.object "org/rolepath/model/RootType")]
  staticTypes := #[]
  resolved := Array.replicate 258 none
  statics := none }

def pool18 : Array CpInfo := pool [(2, .class_ 4), (1, u "java/lang/Object"), (0, u "<init>"), (0, u "()V"), (35, .class_ 44), (1, u "java/util/Objects"), (0, u "requireNonNull"), (48, u "(Ljava/lang/Object;Ljava/lang/String;)Ljava/lang/Object;")] 89

def k18m0 : Method := { name := "<init>", desc := "()V", sig := { parameters := [], returnType := none }, accessFlags := 2, code := none }
def k18c1 : Code := { maxStack := 3, maxLocals := 2, code := jdk_31_method_11_code, exceptionTable := #[], attributes := #[] }
def k18m1 : Method := { name := "requireNonNull", desc := "(Ljava/lang/Object;Ljava/lang/String;)Ljava/lang/Object;", sig := { parameters := [(.object "java/lang/Object"), (.object "java/lang/String")], returnType := some (.object "java/lang/Object") }, accessFlags := 9, code := some k18c1 }
/-- java/util/Objects -/
def k18 : Class := { plain "java/util/Objects" (some 0) with
  accessFlags := 49
  interfaces := #[]
  cf := some (fileOf pool18 42 #[] #[{ accessFlags := 2, nameIndex := 5, descriptorIndex := 6, attributes := #[] }, { accessFlags := 9, nameIndex := 45, descriptorIndex := 94, attributes := #[] }] 49 2 #[] #[])
  fields := #[]
  methods := #[k18m0, k18m1]
  instanceTypes := #[]
  staticTypes := #[]
  resolved := Array.replicate 184 none
  statics := none }

/-- the primitive byte -/
def k19 : Class := { plain "byte" none with kind := .primitive 'B', accessFlags := 0x411 }
/-- [B -/
def k20 : Class := { plain "[B" (some 0) with kind := .array 19 .byte, interfaces := #[15, 4], accessFlags := 1041 }

/-- the primitive int -/
def k21 : Class := { plain "int" none with kind := .primitive 'I', accessFlags := 0x411 }
/-- [I -/
def k22 : Class := { plain "[I" (some 0) with kind := .array 21 .int, interfaces := #[15, 4], accessFlags := 1041 }

/-- [Ljava/lang/String; -/
def k23 : Class := { plain "[Ljava/lang/String;" (some 0) with kind := .array 11 (.object "java/lang/String"), interfaces := #[15, 4], accessFlags := 1041 }

def heap : Heap := #[{ cls := 6, slots := #[.ref 2, .ref 1, .null], vm := .statics 6 },
  { cls := 6, slots := #[.null, .int 0, .int 0, .null], vm := .none },
  { cls := 6, slots := #[.null, .int 1, .int 0, .null], vm := .none }]
def classes : Array Class := #[k0, k1, k2, k3, k4, k5, k6, k7, k8, k9, k10, k11, k12, k13, k14, k15, k16, k17, k18, k19, k20, k21, k22, k23]
def interned : List (Array UInt16 × Addr) := []
def slotsUsed : Nat := 11
def theMethod : MethodId := ⟨1, 1⟩
def args0 : Array Value := #[.int 5, .int 5]
def aboutOver (below : List Frame) : State where
  vm := { classes := classes, interned := interned.toArray }
  heap := heap
  slotsUsed := slotsUsed
  threads := #[{ frames := .invoking theMethod args0 :: below }]
def below0 : List Frame := [.native { method := ⟨0, 0⟩, args := #[] }]
def about1 : State := aboutOver below0
def p0 : Program := .bare "" "" ""
def e0 : Env := launch0.env 0 0 0
theorem w_frames : about1.frames = Frame.invoking theMethod args0 :: below0 := rfl
set_option maxRecDepth 65536 in
theorem w_args : argsFit about1.vm theMethod args0 = true := by decide +kernel
set_option maxRecDepth 65536 in
theorem w_heap : heapFits about1 = true := by decide +kernel
set_option maxRecDepth 65536 in
theorem w_runnable : about1.curStatus? = some .runnable := by decide +kernel
set_option maxRecDepth 65536 in
theorem w_alone : about1.alone = true := by decide +kernel
set_option maxRecDepth 65536 in
theorem w_named : about1.methodNamed? x = some theMethod := by decide +kernel
set_option maxRecDepth 65536 in
theorem w_hears : about1.hears theMethod below0 = true := by decide +kernel
set_option maxRecDepth 65536 in
theorem w_ripe : about1.ripe theMethod args0 below0 = true := by decide +kernel
theorem w_running : about1.status = .running := rfl
set_option maxRecDepth 65536 in
theorem w_room : about1.hasRoom e0.platform room_1 = true :=
  launch0.hasRoom_least _ room_1 (by decide +kernel) (by decide +kernel) (by decide +kernel) (by decide +kernel) (by decide +kernel) (by decide +kernel)
theorem allAtoms_all (ts : List Jvm.Cond) (a : Array Jvm.Value) (st : Jvm.State) : (allAtoms ts).before a st = ts.all (fun c => c.before a st) := by
  induction ts with
  | nil => rfl
  | cons c t ih =>
    show (Jvm.Cond.and c (allAtoms t)).before a st = _
    rw [Jvm.Cond.before_and, ih, List.all_cons]
def words1 : List Jvm.Cond := Jvm.Cond.code x code maxLocals ret :: tables_1
/-- a 'code' word, met by the world's own term for the bytes: nothing is compared byte by byte -/
theorem code_word {y : MethodName} {bytes : ByteArray} {mx : Nat} {rt : Option FieldType} {a : Array Value} {s : State} {m : MethodId} {meth : Method} {c : Code} (h1 : s.methodNamed? y = some m) (h2 : s.vm.method? m = some meth) (h3 : meth.code = some c) (h4 : c.code = bytes)
    (h5 : (c.maxLocals == mx && c.exceptionTable.isEmpty && decide (c.maxStack ≤ mostOperands) && decide (meth.sig.returnType = rt) && !meth.locks && decide (parseMethodDescriptor y.desc = some meth.sig)) = true) : (Jvm.Cond.code y bytes mx rt).before a s = true := by
  simp only [Bool.and_eq_true, beq_iff_eq, Bool.not_eq_true', decide_eq_true_eq] at h5
  obtain ⟨⟨⟨⟨⟨g1, g2⟩, g3⟩, g4⟩, g5⟩, g6⟩ := h5
  simp [Cond.before, Cond.holds, Cond.value, h1, h2, h3, h4, g1, g2, g3, g4, g5, g6]
def isCode : Jvm.Cond → Bool
  | .code _ _ _ _ => true
  | _ => false
theorem all_split {L : List Jvm.Cond} {P : Jvm.Cond → Bool} (h1 : L.all (fun c => isCode c || P c) = true) (h2 : ∀ c ∈ L.filter isCode, P c = true) : L.all P = true := by
  refine List.all_eq_true.mpr fun c hc => ?_
  have h := List.all_eq_true.mp h1 c hc
  rcases Bool.eq_false_or_eq_true (isCode c) with hi | hi
  · exact h2 c (List.mem_filter.mpr ⟨hc, hi⟩)
  · simpa [hi] using h
set_option maxRecDepth 65536 in
theorem w_c0 : (Jvm.Cond.code x code maxLocals ret).before args0 about1 = true := code_word (m := ⟨1, 1⟩) (meth := k1m1) (c := k1c1) (by decide +kernel) rfl rfl rfl (by decide +kernel)
set_option maxRecDepth 65536 in
theorem w_c1 : (Jvm.Cond.code ({ cls := "org/rolepath/model/Hierarchy$Builder", name := "<init>", desc := "()V" } : Jvm.MethodName) prog_57_method_1_code (1 : Nat) (Option.none : Option Jvm.ClassFile.FieldType)).before args0 about1 = true := code_word (m := ⟨7, 0⟩) (meth := k7m0) (c := k7c0) (by decide +kernel) rfl rfl rfl (by decide +kernel)
set_option maxRecDepth 65536 in
theorem w_c2 : (Jvm.Cond.code ({ cls := "java/lang/Object", name := "<init>", desc := "()V" } : Jvm.MethodName) object_method_1_code (1 : Nat) (Option.none : Option Jvm.ClassFile.FieldType)).before args0 about1 = true := code_word (m := ⟨0, 0⟩) (meth := k0m0) (c := k0c0) (by decide +kernel) rfl rfl rfl (by decide +kernel)
set_option maxRecDepth 65536 in
theorem w_c3 : (Jvm.Cond.code ({ cls := "org/rolepath/model/Node", name := "root", desc := "()Lorg/rolepath/model/Node;" } : Jvm.MethodName) prog_60_method_2_code (0 : Nat) (Option.some (Jvm.ClassFile.FieldType.object "org/rolepath/model/Node"))).before args0 about1 = true := code_word (m := ⟨8, 1⟩) (meth := k8m1) (c := k8c1) (by decide +kernel) rfl rfl rfl (by decide +kernel)
set_option maxRecDepth 65536 in
theorem w_c4 : (Jvm.Cond.code ({ cls := "org/rolepath/model/Node", name := "<init>", desc := "(Ljava/lang/String;Lorg/rolepath/model/Node;)V" } : Jvm.MethodName) prog_60_method_1_code (3 : Nat) (Option.none : Option Jvm.ClassFile.FieldType)).before args0 about1 = true := code_word (m := ⟨8, 0⟩) (meth := k8m0) (c := k8c0) (by decide +kernel) rfl rfl rfl (by decide +kernel)
set_option maxRecDepth 65536 in
theorem w_c5 : (Jvm.Cond.code ({ cls := "org/rolepath/model/PropertyMap$Builder", name := "<init>", desc := "()V" } : Jvm.MethodName) prog_65_method_1_code (1 : Nat) (Option.none : Option Jvm.ClassFile.FieldType)).before args0 about1 = true := code_word (m := ⟨12, 0⟩) (meth := k12m0) (c := k12c0) (by decide +kernel) rfl rfl rfl (by decide +kernel)
set_option maxRecDepth 65536 in
theorem w_c6 : (Jvm.Cond.code ({ cls := "java/util/HashMap", name := "<init>", desc := "()V" } : Jvm.MethodName) jdk_69_method_7_code (1 : Nat) (Option.none : Option Jvm.ClassFile.FieldType)).before args0 about1 = true := code_word (m := ⟨16, 0⟩) (meth := k16m0) (c := k16c0) (by decide +kernel) rfl rfl rfl (by decide +kernel)
set_option maxRecDepth 65536 in
theorem w_c7 : (Jvm.Cond.code ({ cls := "java/util/AbstractMap", name := "<init>", desc := "()V" } : Jvm.MethodName) jdk_71_method_1_code (1 : Nat) (Option.none : Option Jvm.ClassFile.FieldType)).before args0 about1 = true := code_word (m := ⟨14, 0⟩) (meth := k14m0) (c := k14c0) (by decide +kernel) rfl rfl rfl (by decide +kernel)
set_option maxRecDepth 65536 in
theorem w_c8 : (Jvm.Cond.code ({ cls := "org/rolepath/model/Hierarchy$Builder", name := "build", desc := "()Lorg/rolepath/model/Hierarchy;" } : Jvm.MethodName) prog_57_method_9_code (1 : Nat) (Option.some (Jvm.ClassFile.FieldType.object "org/rolepath/model/Hierarchy"))).before args0 about1 = true := code_word (m := ⟨7, 2⟩) (meth := k7m2) (c := k7c2) (by decide +kernel) rfl rfl rfl (by decide +kernel)
set_option maxRecDepth 65536 in
theorem w_c9 : (Jvm.Cond.code ({ cls := "org/rolepath/model/Node", name := "takeProperties", desc := "(Lorg/rolepath/model/PropertyMap$Builder;)V" } : Jvm.MethodName) prog_60_method_6_code (2 : Nat) (Option.none : Option Jvm.ClassFile.FieldType)).before args0 about1 = true := code_word (m := ⟨8, 2⟩) (meth := k8m2) (c := k8c2) (by decide +kernel) rfl rfl rfl (by decide +kernel)
set_option maxRecDepth 65536 in
theorem w_c10 : (Jvm.Cond.code ({ cls := "org/rolepath/model/PropertyMap$Builder", name := "isEmpty", desc := "()Z" } : Jvm.MethodName) prog_65_method_2_code (1 : Nat) (Option.some Jvm.ClassFile.FieldType.boolean)).before args0 about1 = true := code_word (m := ⟨12, 1⟩) (meth := k12m1) (c := k12c1) (by decide +kernel) rfl rfl rfl (by decide +kernel)
set_option maxRecDepth 65536 in
theorem w_c11 : (Jvm.Cond.code ({ cls := "org/rolepath/model/Hierarchy", name := "<init>", desc := "(Lorg/rolepath/model/Node;Lorg/rolepath/model/RootType;)V" } : Jvm.MethodName) prog_56_method_1_code (3 : Nat) (Option.none : Option Jvm.ClassFile.FieldType)).before args0 about1 = true := code_word (m := ⟨17, 0⟩) (meth := k17m0) (c := k17c0) (by decide +kernel) rfl rfl rfl (by decide +kernel)
set_option maxRecDepth 65536 in
theorem w_c12 : (Jvm.Cond.code ({ cls := "org/rolepath/model/Hierarchy", name := "rootType", desc := "()Lorg/rolepath/model/RootType;" } : Jvm.MethodName) prog_56_method_3_code (1 : Nat) (Option.some (Jvm.ClassFile.FieldType.object "org/rolepath/model/RootType"))).before args0 about1 = true := code_word (m := ⟨17, 1⟩) (meth := k17m1) (c := k17c1) (by decide +kernel) rfl rfl rfl (by decide +kernel)
set_option maxRecDepth 65536 in
theorem w_c13 : (Jvm.Cond.code ({ cls := "org/rolepath/model/Hierarchy$Builder", name := "setRootType", desc := "(Lorg/rolepath/model/RootType;)V" } : Jvm.MethodName) prog_57_method_2_code (2 : Nat) (Option.none : Option Jvm.ClassFile.FieldType)).before args0 about1 = true := code_word (m := ⟨7, 1⟩) (meth := k7m1) (c := k7c1) (by decide +kernel) rfl rfl rfl (by decide +kernel)
set_option maxRecDepth 65536 in
theorem w_c14 : (Jvm.Cond.code ({ cls := "java/util/Objects", name := "requireNonNull", desc := "(Ljava/lang/Object;Ljava/lang/String;)Ljava/lang/Object;" } : Jvm.MethodName) jdk_31_method_11_code (2 : Nat) (Option.some (Jvm.ClassFile.FieldType.object "java/lang/Object"))).before args0 about1 = true := code_word (m := ⟨18, 1⟩) (meth := k18m1) (c := k18c1) (by decide +kernel) rfl rfl rfl (by decide +kernel)
def codes1 : List Jvm.Cond := [Jvm.Cond.code x code maxLocals ret, Jvm.Cond.code ({ cls := "org/rolepath/model/Hierarchy$Builder", name := "<init>", desc := "()V" } : Jvm.MethodName) prog_57_method_1_code (1 : Nat) (Option.none : Option Jvm.ClassFile.FieldType), Jvm.Cond.code ({ cls := "java/lang/Object", name := "<init>", desc := "()V" } : Jvm.MethodName) object_method_1_code (1 : Nat) (Option.none : Option Jvm.ClassFile.FieldType), Jvm.Cond.code ({ cls := "org/rolepath/model/Node", name := "root", desc := "()Lorg/rolepath/model/Node;" } : Jvm.MethodName) prog_60_method_2_code (0 : Nat) (Option.some (Jvm.ClassFile.FieldType.object "org/rolepath/model/Node")), Jvm.Cond.code ({ cls := "org/rolepath/model/Node", name := "<init>", desc := "(Ljava/lang/String;Lorg/rolepath/model/Node;)V" } : Jvm.MethodName) prog_60_method_1_code (3 : Nat) (Option.none : Option Jvm.ClassFile.FieldType), Jvm.Cond.code ({ cls := "org/rolepath/model/PropertyMap$Builder", name := "<init>", desc := "()V" } : Jvm.MethodName) prog_65_method_1_code (1 : Nat) (Option.none : Option Jvm.ClassFile.FieldType), Jvm.Cond.code ({ cls := "java/util/HashMap", name := "<init>", desc := "()V" } : Jvm.MethodName) jdk_69_method_7_code (1 : Nat) (Option.none : Option Jvm.ClassFile.FieldType), Jvm.Cond.code ({ cls := "java/util/AbstractMap", name := "<init>", desc := "()V" } : Jvm.MethodName) jdk_71_method_1_code (1 : Nat) (Option.none : Option Jvm.ClassFile.FieldType), Jvm.Cond.code ({ cls := "org/rolepath/model/Hierarchy$Builder", name := "build", desc := "()Lorg/rolepath/model/Hierarchy;" } : Jvm.MethodName) prog_57_method_9_code (1 : Nat) (Option.some (Jvm.ClassFile.FieldType.object "org/rolepath/model/Hierarchy")), Jvm.Cond.code ({ cls := "org/rolepath/model/Node", name := "takeProperties", desc := "(Lorg/rolepath/model/PropertyMap$Builder;)V" } : Jvm.MethodName) prog_60_method_6_code (2 : Nat) (Option.none : Option Jvm.ClassFile.FieldType), Jvm.Cond.code ({ cls := "org/rolepath/model/PropertyMap$Builder", name := "isEmpty", desc := "()Z" } : Jvm.MethodName) prog_65_method_2_code (1 : Nat) (Option.some Jvm.ClassFile.FieldType.boolean), Jvm.Cond.code ({ cls := "org/rolepath/model/Hierarchy", name := "<init>", desc := "(Lorg/rolepath/model/Node;Lorg/rolepath/model/RootType;)V" } : Jvm.MethodName) prog_56_method_1_code (3 : Nat) (Option.none : Option Jvm.ClassFile.FieldType), Jvm.Cond.code ({ cls := "org/rolepath/model/Hierarchy", name := "rootType", desc := "()Lorg/rolepath/model/RootType;" } : Jvm.MethodName) prog_56_method_3_code (1 : Nat) (Option.some (Jvm.ClassFile.FieldType.object "org/rolepath/model/RootType")), Jvm.Cond.code ({ cls := "org/rolepath/model/Hierarchy$Builder", name := "setRootType", desc := "(Lorg/rolepath/model/RootType;)V" } : Jvm.MethodName) prog_57_method_2_code (2 : Nat) (Option.none : Option Jvm.ClassFile.FieldType), Jvm.Cond.code ({ cls := "java/util/Objects", name := "requireNonNull", desc := "(Ljava/lang/Object;Ljava/lang/String;)Ljava/lang/Object;" } : Jvm.MethodName) jdk_31_method_11_code (2 : Nat) (Option.some (Jvm.ClassFile.FieldType.object "java/lang/Object"))]
set_option maxRecDepth 65536 in
theorem codes_eq : words1.filter isCode = codes1 := rfl
theorem w_codes : ∀ c ∈ words1.filter isCode, c.before args0 about1 = true := by
  rw [codes_eq]
  intro c hc
  simp only [codes1, List.mem_cons, List.not_mem_nil, or_false] at hc
  rcases hc with rfl | rfl | rfl | rfl | rfl | rfl | rfl | rfl | rfl | rfl | rfl | rfl | rfl | rfl | rfl
  · exact w_c0
  · exact w_c1
  · exact w_c2
  · exact w_c3
  · exact w_c4
  · exact w_c5
  · exact w_c6
  · exact w_c7
  · exact w_c8
  · exact w_c9
  · exact w_c10
  · exact w_c11
  · exact w_c12
  · exact w_c13
  · exact w_c14
set_option maxRecDepth 65536 in
theorem w_t1 : (words1.take 24).all (fun c => isCode c || c.before args0 about1) = true := by decide +kernel
set_option maxRecDepth 65536 in
theorem w_t2 : ((words1.drop 24).take 24).all (fun c => isCode c || c.before args0 about1) = true := by decide +kernel
set_option maxRecDepth 65536 in
theorem w_t3 : (((words1.drop 24).drop 24).take 24).all (fun c => isCode c || c.before args0 about1) = true := by decide +kernel
set_option maxRecDepth 65536 in
theorem w_t4 : ((((words1.drop 24).drop 24).drop 24).take 24).all (fun c => isCode c || c.before args0 about1) = true := by decide +kernel
set_option maxRecDepth 65536 in
theorem w_t5 : (((((words1.drop 24).drop 24).drop 24).drop 24).take 24).all (fun c => isCode c || c.before args0 about1) = true := by decide +kernel
set_option maxRecDepth 65536 in
theorem w_t6 : (((((words1.drop 24).drop 24).drop 24).drop 24).drop 24).all (fun c => isCode c || c.before args0 about1) = true := by decide +kernel
theorem w_tables : (allAtoms (Jvm.Cond.code x code maxLocals ret :: tables_1)).before args0 about1 = true := by
  rw [allAtoms_all]
  show words1.all (fun c => c.before args0 about1) = true
  refine all_split ?_ w_codes
  rw [← List.take_append_drop 24 words1, List.all_append, w_t1, ← List.take_append_drop 24 (words1.drop 24), List.all_append, w_t2, ← List.take_append_drop 24 ((words1.drop 24).drop 24), List.all_append, w_t3, ← List.take_append_drop 24 (((words1.drop 24).drop 24).drop 24), List.all_append, w_t4, ← List.take_append_drop 24 ((((words1.drop 24).drop 24).drop 24).drop 24), List.all_append, w_t5, w_t6]
  rfl
set_option maxRecDepth 65536 in
theorem w_case : (Jvm.Cond.and given_1 narrow_1).before args0 about1 = true := by decide +kernel
theorem w_applies : (headSpec (Jvm.Cond.code x code maxLocals ret :: tables_1) room_1).applies x e0.platform about1 = true :=
  (Spec.applies_iff w_frames).mpr ⟨w_running, w_runnable, w_alone, w_named, w_hears, w_ripe, w_room, w_tables⟩
theorem atStart : AtStart classFile x code maxLocals ret World_1 tables_1 room_1 Calls_1 rest_1 Pre_1 launch0 p0 e0 about1 theMethod args0 below0 :=
  ⟨lists_1, trivial, launch0.admits_env _ _ _, launch0.least_env, fairChoices_fair.cas, fairChoices_fair.clock, w_frames, w_args, w_heap, w_applies, trivial, trivial, w_case⟩
end start1
theorem witness_1 : WitnessClaimed_1 := ⟨start1.p0, start1.e0, start1.about1, start1.theMethod, start1.args0, start1.below0, start1.atStart⟩
end Jvm.Pilot.@@N@@
