import JvmDerived
import JvmDerived.Pilot.@@N@@Statement
import JvmDerived.Pilot.@@N@@Code
set_option linter.unusedVariables false
set_option linter.unusedSimpArgs false
namespace Jvm.RoadKit
open Sem ClassFile Op Lib Jvm.Stand Jvm.Free Jvm.LawKit
section New
variable {p : Program} {l : Launch} {e : Env} {R : Room} {s : State} {m : MethodId} {args : Array Value} {below : List Frame} {meth : Method} {c : Code} {T : State} {locs : List Loc} {cells slots : Nat}
theorem retI (X : Stand p l e R s m args below meth c T locs cells slots) (hx : p.tables.exec = Jvm.exec) {pc : Nat} {Ls : Array Slot} {z : Int32} {rest : List Value} (hret : meth.sig.returnType = some .int) (hd : decode c.code pc = .ok (.ireturn, 1)) {fs : List Frame}
    (hl : ∀ (f : JFrame) (acts : List Action), f.method = m → f.locked = none → f.entered = [] → (doReturn e (T.setTop f) acts (some (.int z))).1 = T.setFrames fs) : Steps p.tables e below (T.setTop (mkF m pc Ls (.int z :: rest))) (T.setFrames fs) := by
  have hm' : T.vm.method? m = some meth := X.method'
  have hn : narrow .int (.int z) = .int z := rfl
  show Steps p.tables e below (T.setTop { method := m, pc := pc, locals := Ls, stack := _ :: rest, locked := none }) _
  jvm_step X.here [X.here.top, hx, hd, hm', hret, hn]
  first | (intro acts; rw [hl _ acts rfl rfl rfl]) | rw [hl _ _ rfl rfl rfl]
  exact Steps.refl _
end New
end Jvm.RoadKit
namespace Jvm.Pilot.@@N@@
open Jvm Jvm.ClassFile Sem Op Lib Jvm.Free Jvm.Stand Jvm.LawKit Jvm.RoadKit Bundle Jvm.Pilot.@@N@@.Jvm.D
section OwnKit
variable {p : Program} {l : Launch} {e : Env} {R : Room} {s : State} {m : MethodId} {args : Array Value} {below : List Frame} {meth : Method} {c : Code} {T : State} {locs : List Loc} {cells slots : Nat}
def own_Rch (tb : Tables) (e : Env) (below : List Frame) (S : State) (Φ : Outcome → State → Prop) : Prop := ∃ s₂ o, Steps tb e below S s₂ ∧ s₂.status = .running ∧ Ended s₂ below o ∧ Φ o s₂
theorem own_via {tb : Tables} {S S' : State} {Φ : Outcome → State → Prop} (h : ∀ t, Steps tb e below S' t → Steps tb e below S t) (k : own_Rch tb e below S' Φ) : own_Rch tb e below S Φ := by
  obtain ⟨s₂, o, k1, k2⟩ := k
  exact ⟨s₂, o, h _ k1, k2⟩
abbrev own_End (s : State) (Q : Option Value → Heap → List Loc → Prop) (k n : Nat) : Outcome → State → Prop := fun o U' => ∃ v L, o = .returned v ∧ Q v U'.heap L ∧ FrameEnd s o U' L k n
theorem own_fin (X : Stand p l e R s m args below meth c T locs cells slots) (hx : p.tables.exec = Jvm.exec) {pc : Nat} {Ls : Array Slot} {w : Value} {t : FieldType} {i : Instr} {rest : List Value} (hret : meth.sig.returnType = some t) (hlk : meth.locks = false) (hnw : narrow t w = w)
    (hi : (i = .ireturn ∧ (t = .int ∨ t = .boolean ∨ t = .byte ∨ t = .char ∨ t = .short) ∧ ∃ z, w = .int z) ∨ (i = .lreturn ∧ t = .long ∧ ∃ z, w = .long z) ∨ (i = .dreturn ∧ t = .double ∧ ∃ z, w = .double z) ∨ (i = .freturn ∧ t = .float ∧ ∃ z, w = .float z) ∨ (i = .areturn ∧ t.isReference = true ∧ w.isRef = true))
    (hd : decode c.code pc = .ok (i, 1)) {Q : Option Value → Heap → List Loc → Prop} {k n : Nat} (hk : cells ≤ k) (hn : slots ≤ n) (hQ : Q (some w) T.heap locs) : own_Rch p.tables e below (T.setTop (mkF m pc Ls (w :: rest))) (own_End s Q k n) := by
  obtain ⟨fs, hr, hrun, hended, hW, hsame⟩ := X.leave (v := some w) (fun h => by rw [hret] at h; cases h) hlk
  exact ⟨_, _, retOut X hx hret hnw hi hd hr, hrun, hended, _, _, rfl, hQ, ⟨_, rfl⟩, hW, hsame.mono hk hn⟩
theorem own_fin0 (X : Stand p l e R s m args below meth c T locs cells slots) (hx : p.tables.exec = Jvm.exec) {pc : Nat} {Ls : Array Slot} (hret : meth.sig.returnType = none) (hlk : meth.locks = false)
    (hd : decode c.code pc = .ok (.return_, 1)) {Q : Option Value → Heap → List Loc → Prop} {k n : Nat} (hk : cells ≤ k) (hn : slots ≤ n) (hQ : Q none T.heap locs) : own_Rch p.tables e below (T.setTop (mkF m pc Ls [])) (own_End s Q k n) := by
  obtain ⟨fs, hr, hrun, hended, hW, hsame⟩ := X.leave (v := none) (fun _ => rfl) hlk
  exact ⟨_, _, X.returnOut hx hret hd hr, hrun, hended, _, _, rfl, hQ, ⟨_, rfl⟩, hW, hsame.mono hk hn⟩
theorem own_lrem {g : JFrame} {target : State} (X : Stand p l e R s m args below meth c T locs cells slots) (hx : p.tables.exec = Jvm.exec) (hg : g.method = m) {x y : Int64} {rest : List Value} (hd : decode c.code g.pc = .ok (.lrem, 1)) (hs : g.stack = .long y :: .long x :: rest) (hy : y ≠ 0)
    (hr : Steps p.tables e below (T.setTop { g with pc := g.pc + 1, stack := .long (x % y) :: rest }) target) : Steps p.tables e below (T.setTop g) target := by
  have q : x - x / y * y = x % y := lrem_mod x y
  exact XS.lrem X.here hx hg hd hs hy (by rw [q]; exact hr)
end OwnKit
section OwnKitW
variable {p : Program} {l : Launch} {e : Env} {R : Room} {s : State} {m : MethodId} {args : Array Value} {below : List Frame} {meth : Method} {c : Code} {T : State} {locs : List Loc} {cells slots : Nat}
abbrev own_EndW (s : State) (Q : Option Value → Heap → List Loc → Prop) (k n : Nat) : Outcome → State → Prop := fun o U' => ∃ v L, o = .returned v ∧ Q v U'.heap L ∧ ReturnedEndW s o U' L k n
theorem own_S0 (s : State) (n : Nat) : s.Since s.vm n := State.WarmedH.since (State.WarmedH.refl s) n
theorem own_finW {vm₁ : Vm} (X : Stand p l e R (s.setVm vm₁) m args below meth c T locs cells slots) {k0 : Nat} (hS : s.Since vm₁ k0) (hk0 : k0 ≤ T.heap.size) (hx : p.tables.exec = Jvm.exec) {pc : Nat} {Ls : Array Slot} {w : Value} {t : FieldType} {i : Instr} {rest : List Value} (hret : meth.sig.returnType = some t) (hlk : meth.locks = false) (hnw : narrow t w = w)
    (hi : (i = .ireturn ∧ (t = .int ∨ t = .boolean ∨ t = .byte ∨ t = .char ∨ t = .short) ∧ ∃ z, w = .int z) ∨ (i = .lreturn ∧ t = .long ∧ ∃ z, w = .long z) ∨ (i = .dreturn ∧ t = .double ∧ ∃ z, w = .double z) ∨ (i = .freturn ∧ t = .float ∧ ∃ z, w = .float z) ∨ (i = .areturn ∧ t.isReference = true ∧ w.isRef = true))
    (hd : decode c.code pc = .ok (i, 1)) {Q : Option Value → Heap → List Loc → Prop} {k n : Nat} (hk : cells ≤ k) (hn : slots ≤ n) (hQ : Q (some w) T.heap locs) : own_Rch p.tables e below (T.setTop (mkF m pc Ls (w :: rest))) (own_EndW s Q k n) := by
  obtain ⟨fs, hr, hrun, hended, hW⟩ := X.leaveW hS hk0 (v := some w) (fun h => by rw [hret] at h; cases h) hlk
  exact ⟨_, _, retOut X hx hret hnw hi hd hr, hrun, hended, _, _, rfl, hQ, hW.1, hW.2.1, hW.2.2.1, hW.2.2.2.mono hk hn⟩
theorem own_fin0W {vm₁ : Vm} (X : Stand p l e R (s.setVm vm₁) m args below meth c T locs cells slots) {k0 : Nat} (hS : s.Since vm₁ k0) (hk0 : k0 ≤ T.heap.size) (hx : p.tables.exec = Jvm.exec) {pc : Nat} {Ls : Array Slot} (hret : meth.sig.returnType = none) (hlk : meth.locks = false)
    (hd : decode c.code pc = .ok (.return_, 1)) {Q : Option Value → Heap → List Loc → Prop} {k n : Nat} (hk : cells ≤ k) (hn : slots ≤ n) (hQ : Q none T.heap locs) : own_Rch p.tables e below (T.setTop (mkF m pc Ls [])) (own_EndW s Q k n) := by
  obtain ⟨fs, hr, hrun, hended, hW⟩ := X.leaveW hS hk0 (v := none) (fun _ => rfl) hlk
  exact ⟨_, _, X.returnOut hx hret hd hr, hrun, hended, _, _, rfl, hQ, hW.1, hW.2.1, hW.2.2.1, hW.2.2.2.mono hk hn⟩
abbrev own_FE (s : State) (o : Outcome) (t : State) (L : List Loc) (k n : Nat) : Prop := ReturnedEndW s o t L k n
theorem own_FE_of {o : Outcome} {t : State} {L L' : List Loc} {k n : Nat} (h : ReturnedEndW s o t L k n) (N : Fr s.heap.size L) : own_FE s o t L' k n := ⟨h.1, h.2.1, h.2.2.1, h.2.2.2.sift fun y hy => Or.inr (N y hy)⟩
end OwnKitW
def own_Pure (r : Value) (h0 : Heap) (n0 : Nat) (v : Option Value) (h : Heap) (L : List Loc) : Prop := v = some r ∧ Fr n0 L ∧ h = h0
theorem own_wS {Z : State} {a0 : Array Value} (hw : ∀ d ∈ tables_1, d.before a0 Z = true) : ∀ a ∈ Bundle.stringAtoms, a.before a0 Z = true := by
  intro a ha
  simp only [Bundle.stringAtoms, List.mem_cons, List.not_mem_nil, or_false] at ha
  rcases ha with rfl | rfl | rfl | rfl | rfl | rfl | rfl
  · exact hw _ (List.mem_of_getElem? (i := 42) rfl)
  · exact hw _ (List.mem_of_getElem? (i := 43) rfl)
  · exact hw _ (List.mem_of_getElem? (i := 44) rfl)
  · exact hw _ (List.mem_of_getElem? (i := 45) rfl)
  · exact hw _ (List.mem_of_getElem? (i := 46) rfl)
  · exact hw _ (List.mem_of_getElem? (i := 47) rfl)
  · exact hw _ (List.mem_of_getElem? (i := 48) rfl)
def own_None (h0 : Heap) (n0 : Nat) (v : Option Value) (h : Heap) (L : List Loc) : Prop := v = none ∧ Fr n0 L ∧ h = h0
def own_b (i j : Int32) : Int32 := if j < i then 1 else 0
def own_Ag (Z : State) (h : Heap) (a : Addr) (n : Int32) : Prop := Exa Z h a "com/example/tierline/tierline/model/RatingAgency" ∧ ∃ lb el cl, Fld Z h a "com/example/tierline/tierline/model/RatingAgency" "labels" "Ljava/util/List;" (.ref lb) ∧ Exa Z h lb "java/util/ImmutableCollections$ListN" ∧ Fld Z h lb "java/util/ImmutableCollections$ListN" "elements" "[Ljava/lang/Object;" (.ref el) ∧ Arr Z h el cl (.object "java/lang/Object") ∧ cl.slots.size = n.toNatClampNeg ∧ ¬ n < 0
theorem own_eqI {t : Term} {k : Int32} {args : Array Value} {first s : State} {o : Option Outcome} {idx : List Nat} (h : (Jvm.Cond.eq t (Term.int k)).value args first o s idx = some true) : t.eval args first o idx s = some (.int k) := by
  have e : (Term.int k).eval args first o idx s = some (.int k) := rfl
  rw [Jvm.Cond.value] at h
  rw [e] at h
  cases ht : t.eval args first o idx s with
  | none => simp [ht] at h
  | some v => cases v <;> simp_all
theorem own_eqT {t u : Term} {x : Addr} {args : Array Value} {first s : State} {o : Option Outcome} {idx : List Nat} (h : (Jvm.Cond.eq t u).value args first o s idx = some true) (hu : u.eval args first o idx s = some (.ref x)) : t.eval args first o idx s = some (.ref x) := by
  rw [Jvm.Cond.value] at h
  rw [hu] at h
  cases ht : t.eval args first o idx s with
  | none => simp [ht] at h
  | some v => cases v <;> simp_all
theorem own_len {t : Term} {k : Int32} {x : Addr} {cl : Cell} {args : Array Value} {first s : State} {o : Option Outcome} {idx : List Nat} (h : (Term.length t).eval args first o idx s = some (.int k)) (ht : t.eval args first o idx s = some (.ref x)) (ha : s.arrayAt? x = some cl) : cl.slots.size = k.toNatClampNeg := by
  by_cases q : cl.slots.size < 2 ^ 31
  · rw [len_f ht ha q] at h
    have e : cl.slots.size.toInt32 = k := by simpa using h
    rw [← e]; simp only [Int32.toNatClampNeg, len_toInt q]; rfl
  · exfalso; simp [Term.eval, ht, ha, q] at h
theorem own_md (x n : Int32) (h : 0 < n.toInt) : ¬ ((x &&& (2147483647 : Int32)) % n) < (0 : Int32) ∧ ((x &&& (2147483647 : Int32)) % n) < n := by
  have h1 := c_and x 2147483647 (by decide)
  have q := (c_iremV (x &&& (2147483647 : Int32)) n).1 h1.1 h
  have a : (0 : Int32).toInt = 0 := rfl
  simp only [Int32.lt_iff_toInt_lt, a]
  omega
theorem own_nz (n : Int32) (h : 0 < n.toInt) : n ≠ 0 := fun e => by
  rw [e] at h; revert h; decide
theorem ef_s (m : MethodId) (x0 : Addr) : entryFrame m #[(.ref x0)] 1 = mkF m 0 #[.val (.ref x0)] [] := by first | (simp [entryFrame, mkF, argsToLocals, Value.category]; done) | rfl
theorem pn_java_util_ImmutableCollections_ListN : plainName "java/util/ImmutableCollections$ListN" = true := by first | (simp [plainName, overriddenIn]; done) | decide +kernel
theorem d3_0 : decode jdk_45_method_3_code 0 = .ok (.aload_n 0, 1) := by decide +kernel
theorem d3_1 : decode jdk_45_method_3_code 1 = .ok (.getfield 7, 3) := by decide +kernel
theorem d3_4 : decode jdk_45_method_3_code 4 = .ok (.arraylength, 1) := by decide +kernel
theorem d3_5 : decode jdk_45_method_3_code 5 = .ok (.ireturn, 1) := by decide +kernel
set_option maxRecDepth 65536 in
set_option maxHeartbeats 40000000 in
theorem rms (l : Launch) (Z : State) (a0 : Array Value) (hw : ∀ d ∈ tables_1, d.before a0 Z = true) (ws : List Jvm.Cond) (a1 el : Addr) (cl : Cell) (n : Int32) (h0 : Heap) (n0 : Nat) (F_e : Fld Z h0 a1 "java/util/ImmutableCollections$ListN" "elements" "[Ljava/lang/Object;" (.ref el)) (A_el : Arr Z h0 el cl (.object "java/lang/Object")) (Sz : cl.slots.size = n.toNatClampNeg) (Mz : ¬ n < 0) :
    MetFree l (⟨"java/util/ImmutableCollections$ListN", "size", "()I"⟩ : MethodName) (head1 (Jvm.Cond.code (⟨"java/util/ImmutableCollections$ListN", "size", "()I"⟩ : MethodName) jdk_45_method_3_code 1 (some .int) :: ws) ({ frames := 0, cells := 0, slots := 0, locals := 0 } : Room)) (fun a U => a = #[(.ref a1)] ∧ Z.Warmed39 U.vm ∧ U.heap = h0) (fun _ _ _ _ _ => True) (fun _ U o U' => ∃ v L, o = .returned v ∧ own_Pure (.int n) h0 n0 v U'.heap L ∧ FrameEnd U o U' L ({ frames := 0, cells := 0, slots := 0, locals := 0 } : Room).cells ({ frames := 0, cells := 0, slots := 0, locals := 0 } : Room).slots) := by
  refine MetFree.of_bodySF (plainFor_of_name pn_java_util_ImmutableCollections_ListN) hisR ?_
  intro p e s m args below meth c s₁ Bd hml0 hP hK
  obtain ⟨rfl, hZ, hh⟩ := hP
  have hx := Bd.exec
  have hby := Bd.bytes
  have hml : c.maxLocals = 1 := hml0
  have hown : s.vm.findClass "java/util/ImmutableCollections$ListN" = some m.cls := findClass_of_methodNamed Bd.named
  have hnm := (name_of_methodNamed Bd.named Bd.method).1
  have X0 : Stand p l e ({ frames := 0, cells := 0, slots := 0, locals := 0 } : Room) s m #[(.ref a1)] below meth c s₁ [] 0 0 := Stand.of_body Bd
  have e0 : s₁.heap = h0 := by rw [← hh, Bd.state]; rfl
  have N0 := Fr.nil n0
  show own_Rch p.tables e below (s₁.setTop (entryFrame m #[(.ref a1)] 1)) (own_End s (own_Pure (.int n) h0 n0) ({ frames := 0, cells := 0, slots := 0, locals := 0 } : Room).cells ({ frames := 0, cells := 0, slots := 0, locals := 0 } : Room).slots)
  refine own_via (fun t k => castTop (ef_s m a1) k) ?_
  show own_Rch p.tables e below (s₁.setTop (mkF m 0 #[.val (.ref a1)] [])) _
  refine own_via (fun t k => XS.aloadN X0.here hx rfl (hb hby d3_0) rfl rfl k) ?_
  show own_Rch p.tables e below (s₁.setTop (mkF m 1 #[.val (.ref a1)] [(.ref a1)])) _
  obtain ⟨T1, X1, e1, st1⟩ := getF X0 hx hZ hown (host := "") (Or.inl (hw _ (List.mem_of_getElem? (i := 25) rfl))) Via.refl e0 F_e (g := (mkF m 1 #[.val (.ref a1)] [(.ref a1)])) rfl rfl (hb hby d3_1)
  refine own_via st1 ?_
  show own_Rch p.tables e below (T1.setTop (mkF m 4 #[.val (.ref a1)] [(.ref el)])) _
  refine own_via (X1.arraylength hx (by rw [e1]; exact A_el.1) (State.isArrayOf_alike hZ.alike A_el.2.1) (g := (mkF m 4 #[.val (.ref a1)] [(.ref el)])) rfl rfl (hb hby d3_4)) ?_
  rw [len_of Sz Mz]
  show own_Rch p.tables e below (T1.setTop (mkF m 5 #[.val (.ref a1)] [(.int n)])) _
  exact own_fin X1 hx (t := .int) (i := .ireturn) Bd.returns Bd.notSynchronized rfl (Or.inl ⟨rfl, by simp, _, rfl⟩) (hb hby d3_5) (by decide) (by decide) ⟨rfl, N0, e1⟩
theorem ef_n (m : MethodId) (x0 : Addr) : entryFrame m #[(.ref x0)] 1 = mkF m 0 #[.val (.ref x0)] [] := by first | (simp [entryFrame, mkF, argsToLocals, Value.category]; done) | rfl
theorem pn_com_example_tierline_tierline_model_RatingAgency : plainName "com/example/tierline/tierline/model/RatingAgency" = true := by first | (simp [plainName, overriddenIn]; done) | decide +kernel
theorem d2_0 : decode prog_86_method_7_code 0 = .ok (.aload_n 0, 1) := by decide +kernel
theorem d2_1 : decode prog_86_method_7_code 1 = .ok (.getfield 36, 3) := by decide +kernel
theorem d2_4 : decode prog_86_method_7_code 4 = .ok (.invokeinterface 40 1, 5) := by decide +kernel
theorem pd_0 : parseMethodDescriptor "()I" = some ⟨[], some .int⟩ := by decide +kernel
theorem d2_9 : decode prog_86_method_7_code 9 = .ok (.ireturn, 1) := by decide +kernel
set_option maxRecDepth 65536 in
set_option maxHeartbeats 40000000 in
theorem rmn (l : Launch) (Z : State) (a0 : Array Value) (hw : ∀ d ∈ tables_1, d.before a0 Z = true) (ws : List Jvm.Cond) (a1 lb el : Addr) (cl : Cell) (n : Int32) (h0 : Heap) (n0 : Nat) (F_l : Fld Z h0 a1 "com/example/tierline/tierline/model/RatingAgency" "labels" "Ljava/util/List;" (.ref lb)) (E_lb : Exa Z h0 lb "java/util/ImmutableCollections$ListN") (F_e : Fld Z h0 lb "java/util/ImmutableCollections$ListN" "elements" "[Ljava/lang/Object;" (.ref el)) (A_el : Arr Z h0 el cl (.object "java/lang/Object")) (Sz : cl.slots.size = n.toNatClampNeg) (Mz : ¬ n < 0) :
    MetFree l (⟨"com/example/tierline/tierline/model/RatingAgency", "notches", "()I"⟩ : MethodName) (head1 (Jvm.Cond.code (⟨"com/example/tierline/tierline/model/RatingAgency", "notches", "()I"⟩ : MethodName) prog_86_method_7_code 1 (some .int) :: ws) ({ frames := 1, cells := 0, slots := 0, locals := 12 } : Room)) (fun a U => a = #[(.ref a1)] ∧ Z.Warmed39 U.vm ∧ U.heap = h0) (fun _ _ _ _ _ => True) (fun _ U o U' => ∃ v L, o = .returned v ∧ own_Pure (.int n) h0 n0 v U'.heap L ∧ FrameEnd U o U' L ({ frames := 1, cells := 0, slots := 0, locals := 12 } : Room).cells ({ frames := 1, cells := 0, slots := 0, locals := 12 } : Room).slots) := by
  refine MetFree.of_bodySF (plainFor_of_name pn_com_example_tierline_tierline_model_RatingAgency) hisR ?_
  intro p e s m args below meth c s₁ Bd hml0 hP hK
  obtain ⟨rfl, hZ, hh⟩ := hP
  have hx := Bd.exec
  have hby := Bd.bytes
  have hml : c.maxLocals = 1 := hml0
  have hown : s.vm.findClass "com/example/tierline/tierline/model/RatingAgency" = some m.cls := findClass_of_methodNamed Bd.named
  have hnm := (name_of_methodNamed Bd.named Bd.method).1
  have X0 : Stand p l e ({ frames := 1, cells := 0, slots := 0, locals := 12 } : Room) s m #[(.ref a1)] below meth c s₁ [] 0 0 := Stand.of_body Bd
  have e0 : s₁.heap = h0 := by rw [← hh, Bd.state]; rfl
  have N0 := Fr.nil n0
  show own_Rch p.tables e below (s₁.setTop (entryFrame m #[(.ref a1)] 1)) (own_End s (own_Pure (.int n) h0 n0) ({ frames := 1, cells := 0, slots := 0, locals := 12 } : Room).cells ({ frames := 1, cells := 0, slots := 0, locals := 12 } : Room).slots)
  refine own_via (fun t k => castTop (ef_n m a1) k) ?_
  show own_Rch p.tables e below (s₁.setTop (mkF m 0 #[.val (.ref a1)] [])) _
  refine own_via (fun t k => XS.aloadN X0.here hx rfl (hb hby d2_0) rfl rfl k) ?_
  show own_Rch p.tables e below (s₁.setTop (mkF m 1 #[.val (.ref a1)] [(.ref a1)])) _
  obtain ⟨T1, X1, e1, st1⟩ := getF X0 hx hZ hown (host := "") (Or.inl (hw _ (List.mem_of_getElem? (i := 13) rfl))) Via.refl e0 F_l (g := (mkF m 1 #[.val (.ref a1)] [(.ref a1)])) rfl rfl (hb hby d2_1)
  refine own_via st1 ?_
  show own_Rch p.tables e below (T1.setTop (mkF m 4 #[.val (.ref a1)] [(.ref lb)])) _
  obtain ⟨cq2, kq2, q2a, q2b, q2c⟩ := isOf hZ e1 E_lb
  obtain ⟨_, _, ⟨T2, L2, k2, n2⟩, -, X2, ⟨Lc2, hQ2, l2, y2, z2⟩, st2⟩ := X1.interfaceBack hx (xi := (⟨"java/util/List", "size", "()I"⟩ : MethodName)) (y := (⟨"java/util/ImmutableCollections$ListN", "size", "()I"⟩ : MethodName)) hown (mvT hZ (hw _ (List.mem_of_getElem? (i := 15) rfl))) (mvT hZ (hw _ (List.mem_of_getElem? (i := 16) rfl))) (mvT hZ (hw _ (List.mem_of_getElem? (i := 17) rfl))) (mvT hZ (hw _ (List.mem_of_getElem? (i := 18) rfl))) (mvT hZ (hw _ (List.mem_of_getElem? (i := 19) rfl))) (mvT hZ (hw _ (List.mem_of_getElem? (i := 20) rfl))) (mvT hZ (hw _ (List.mem_of_getElem? (i := 21) rfl))) (mvT hZ (hw _ (List.mem_of_getElem? (i := 22) rfl))) (by decide) (backOf (W := 0) (rms l Z a0 hw [] lb el cl n h0 n0 F_e A_el Sz Mz) hZ (hw _ (List.mem_of_getElem? (i := 24) rfl)) (hw _ (List.mem_of_getElem? (i := 23) rfl)) (by decide) (by decide)) q2a q2b q2c (g := (mkF m 4 #[.val (.ref a1)] [(.ref lb)])) rfl (by rw [hml]; rfl) (Steps.refl _) (argsL := []) (rest := []) (lenOf pd_0 rfl) rfl (by show 2 * 0 + _ ≤ _; exact Nat.le_of_eq rfl) (hb hby d2_4) (fun _ _ => ⟨rfl, e1, (by decide : 0 + 0 ≤ _), (by decide : 0 + 0 ≤ _)⟩)
  dsimp only [Pt.U, Pt.locs, Pt.cells, Pt.slots] at X2 l2 y2 z2 st2 hQ2
  subst l2 y2 z2
  obtain ⟨rfl, N2q, eh2⟩ := hQ2
  have N2 := Fr.app N0 N2q
  refine own_via (fun t k => st2.trans k) ?_
  show own_Rch p.tables e below (T2.setTop (mkF m 9 #[.val (.ref a1)] [(.int n)])) _
  exact own_fin X2 hx (t := .int) (i := .ireturn) Bd.returns Bd.notSynchronized rfl (Or.inl ⟨rfl, by simp, _, rfl⟩) (hb hby d2_9) (by decide) (by decide) ⟨rfl, N2, eh2⟩
def QP (Z : State) (h0 : Heap) (n0 : Nat) (v : Option Value) (h : Heap) (L : List Loc) : Prop := ∃ (a : Addr) (n : Int32), v = some (.ref a) ∧ Fr n0 L ∧ h = h0 ∧ own_Ag Z Z.heap a n ∧ 0 < n.toInt
theorem ef_p (m : MethodId) (x0 : Int32) : entryFrame m #[(.int x0)] 2 = mkF m 0 #[.val (.int x0), .unset] [] := by first | (simp [entryFrame, mkF, argsToLocals, Value.category]; done) | rfl
theorem pn_com_example_tierline_tierline_model_RatingIsBelowPinLaw : plainName "com/example/tierline/tierline/model/RatingIsBelowPinLaw" = true := by first | (simp [plainName, overriddenIn]; done) | decide +kernel
theorem d1_0 : decode method_2_code 0 = .ok (.iload_n 0, 1) := by decide +kernel
theorem d1_1 : decode method_2_code 1 = .ok (.ldc 7, 2) := by decide +kernel
theorem d1_3 : decode method_2_code 3 = .ok (.iand, 1) := by decide +kernel
theorem d1_4 : decode method_2_code 4 = .ok (.iconst 3, 1) := by decide +kernel
theorem d1_5 : decode method_2_code 5 = .ok (.irem, 1) := by decide +kernel
theorem d1_6 : decode method_2_code 6 = .ok (.istore_n 1, 1) := by decide +kernel
theorem d1_7 : decode method_2_code 7 = .ok (.iload_n 1, 1) := by decide +kernel
theorem d1_8 : decode method_2_code 8 = .ok (.ifCond .ne 7, 3) := by decide +kernel
theorem d1_11 : decode method_2_code 11 = .ok (.getstatic 8, 3) := by decide +kernel
theorem d1_14 : decode method_2_code 14 = .ok (.areturn, 1) := by decide +kernel
theorem d1_15 : decode method_2_code 15 = .ok (.iload_n 1, 1) := by decide +kernel
theorem d1_16 : decode method_2_code 16 = .ok (.iconst 1, 1) := by decide +kernel
theorem d1_17 : decode method_2_code 17 = .ok (.if_icmp .ne 7, 3) := by decide +kernel
theorem d1_20 : decode method_2_code 20 = .ok (.getstatic 14, 3) := by decide +kernel
theorem d1_23 : decode method_2_code 23 = .ok (.areturn, 1) := by decide +kernel
theorem d1_24 : decode method_2_code 24 = .ok (.getstatic 17, 3) := by decide +kernel
theorem d1_27 : decode method_2_code 27 = .ok (.areturn, 1) := by decide +kernel
set_option maxRecDepth 65536 in
set_option maxHeartbeats 40000000 in
theorem rmp (l : Launch) (Z : State) (a0 : Array Value) (hw : ∀ d ∈ tables_1, d.before a0 Z = true) (ws : List Jvm.Cond) (p1 : Int32) (aS aM aF : Addr) (h0 : Heap) (n0 : Nat) (O0 : Old Z n0 h0) (S_aS : Sta Z Z.heap "com/example/tierline/tierline/model/RatingAgency" "SP" "Lcom/example/tierline/tierline/model/RatingAgency;" (.ref aS)) (A_aS : own_Ag Z Z.heap aS (22 : Int32)) (S_aM : Sta Z Z.heap "com/example/tierline/tierline/model/RatingAgency" "MOODYS" "Lcom/example/tierline/tierline/model/RatingAgency;" (.ref aM)) (A_aM : own_Ag Z Z.heap aM (21 : Int32)) (S_aF : Sta Z Z.heap "com/example/tierline/tierline/model/RatingAgency" "FITCH" "Lcom/example/tierline/tierline/model/RatingAgency;" (.ref aF)) (A_aF : own_Ag Z Z.heap aF (22 : Int32)) :
    MetFree l (⟨"com/example/tierline/tierline/model/RatingIsBelowPinLaw", "pick", "(I)Lcom/example/tierline/tierline/model/RatingAgency;"⟩ : MethodName) (head1 (Jvm.Cond.code (⟨"com/example/tierline/tierline/model/RatingIsBelowPinLaw", "pick", "(I)Lcom/example/tierline/tierline/model/RatingAgency;"⟩ : MethodName) method_2_code 2 (some (.object "com/example/tierline/tierline/model/RatingAgency")) :: ws) ({ frames := 0, cells := 0, slots := 0, locals := 0 } : Room)) (fun a U => a = #[(.int p1)] ∧ Z.Warmed39 U.vm ∧ U.heap = h0) (fun _ _ _ _ _ => True) (fun _ U o U' => ∃ v L, o = .returned v ∧ QP Z h0 n0 v U'.heap L ∧ FrameEnd U o U' L ({ frames := 0, cells := 0, slots := 0, locals := 0 } : Room).cells ({ frames := 0, cells := 0, slots := 0, locals := 0 } : Room).slots) := by
  refine MetFree.of_bodySF (plainFor_of_name pn_com_example_tierline_tierline_model_RatingIsBelowPinLaw) hisR ?_
  intro p e s m args below meth c s₁ Bd hml0 hP hK
  obtain ⟨rfl, hZ, hh⟩ := hP
  have hx := Bd.exec
  have hby := Bd.bytes
  have hml : c.maxLocals = 2 := hml0
  have hown : s.vm.findClass "com/example/tierline/tierline/model/RatingIsBelowPinLaw" = some m.cls := findClass_of_methodNamed Bd.named
  have hnm := (name_of_methodNamed Bd.named Bd.method).1
  have X0 : Stand p l e ({ frames := 0, cells := 0, slots := 0, locals := 0 } : Room) s m #[(.int p1)] below meth c s₁ [] 0 0 := Stand.of_body Bd
  have e0 : s₁.heap = h0 := by rw [← hh, Bd.state]; rfl
  have N0 := Fr.nil n0
  show own_Rch p.tables e below (s₁.setTop (entryFrame m #[(.int p1)] 2)) (own_End s (QP Z h0 n0) ({ frames := 0, cells := 0, slots := 0, locals := 0 } : Room).cells ({ frames := 0, cells := 0, slots := 0, locals := 0 } : Room).slots)
  refine own_via (fun t k => castTop (ef_p m p1) k) ?_
  show own_Rch p.tables e below (s₁.setTop (mkF m 0 #[.val (.int p1), .unset] [])) _
  refine own_via (fun t k => XS.iloadN X0.here hx rfl (hb hby d1_0) rfl k) ?_
  show own_Rch p.tables e below (s₁.setTop (mkF m 1 #[.val (.int p1), .unset] [(.int p1)])) _
  refine own_via (X0.ldcInt hx hown (mvT hZ (hw _ (List.mem_of_getElem? (i := 4) rfl))) (g := (mkF m 1 #[.val (.int p1), .unset] [(.int p1)])) rfl (hb hby d1_1)) ?_
  show own_Rch p.tables e below (s₁.setTop (mkF m 3 #[.val (.int p1), .unset] [(.int (2147483647 : Int32)), (.int p1)])) _
  refine own_via (fun t k => XS.iand X0.here hx rfl (hb hby d1_3) rfl k) ?_
  show own_Rch p.tables e below (s₁.setTop (mkF m 4 #[.val (.int p1), .unset] [(.int (p1 &&& (2147483647 : Int32)))])) _
  refine own_via (fun t k => XS.iconst X0.here hx rfl (hb hby d1_4) k) ?_
  show own_Rch p.tables e below (s₁.setTop (mkF m 5 #[.val (.int p1), .unset] [(.int (3 : Int32)), (.int (p1 &&& (2147483647 : Int32)))])) _
  refine own_via (fun t k => iremM X0 hx rfl (hb hby d1_5) rfl (by decide) k) ?_
  show own_Rch p.tables e below (s₁.setTop (mkF m 6 #[.val (.int p1), .unset] [(.int ((p1 &&& (2147483647 : Int32)) % (3 : Int32)))])) _
  refine own_via (fun t k => XS.istoreN X0.here hx rfl (hb hby d1_6) rfl (l' := #[.val (.int p1), .val (.int ((p1 &&& (2147483647 : Int32)) % (3 : Int32)))]) rfl k) ?_
  show own_Rch p.tables e below (s₁.setTop (mkF m 7 #[.val (.int p1), .val (.int ((p1 &&& (2147483647 : Int32)) % (3 : Int32)))] [])) _
  refine own_via (fun t k => XS.iloadN X0.here hx rfl (hb hby d1_7) rfl k) ?_
  show own_Rch p.tables e below (s₁.setTop (mkF m 8 #[.val (.int p1), .val (.int ((p1 &&& (2147483647 : Int32)) % (3 : Int32)))] [(.int ((p1 &&& (2147483647 : Int32)) % (3 : Int32)))])) _
  by_cases c8 : ((p1 &&& (2147483647 : Int32)) % (3 : Int32)) = (0 : Int32)
  · refine own_via (fun t k => XS.ifNo X0.here hx rfl (hb hby d1_8) rfl ((if0 _ _).trans (teq c8).2) k) ?_
    show own_Rch p.tables e below (s₁.setTop (mkF m 11 #[.val (.int p1), .val (.int ((p1 &&& (2147483647 : Int32)) % (3 : Int32)))] [])) _
    obtain ⟨T1, X1, e1, st1⟩ := getS2 X0 hx hZ hown (host := "") (Or.inl (hw _ (List.mem_of_getElem? (i := 5) rfl))) Via.refl e0 (S_aS.ext O0.2) (g := (mkF m 11 #[.val (.int p1), .val (.int ((p1 &&& (2147483647 : Int32)) % (3 : Int32)))] [])) rfl (hb hby d1_11)
    refine own_via st1 ?_
    show own_Rch p.tables e below (T1.setTop (mkF m 14 #[.val (.int p1), .val (.int ((p1 &&& (2147483647 : Int32)) % (3 : Int32)))] [(.ref aS)])) _
    exact own_fin X1 hx (t := (.object "com/example/tierline/tierline/model/RatingAgency")) (i := .areturn) Bd.returns Bd.notSynchronized rfl (Or.inr (Or.inr (Or.inr (Or.inr ⟨rfl, rfl, rfl⟩)))) (hb hby d1_14) (by decide) (by decide) ⟨_, _, rfl, N0, e1, A_aS, by decide⟩
  · refine own_via (fun t k => XS.ifYes X0.here hx rfl (pc0 := 8) (pc' := 15) rfl (hb hby d1_8) rfl ((if0 _ _).trans (feq c8).2) (by decide) (by decide) k) ?_
    show own_Rch p.tables e below (s₁.setTop (mkF m 15 #[.val (.int p1), .val (.int ((p1 &&& (2147483647 : Int32)) % (3 : Int32)))] [])) _
    refine own_via (fun t k => XS.iloadN X0.here hx rfl (hb hby d1_15) rfl k) ?_
    show own_Rch p.tables e below (s₁.setTop (mkF m 16 #[.val (.int p1), .val (.int ((p1 &&& (2147483647 : Int32)) % (3 : Int32)))] [(.int ((p1 &&& (2147483647 : Int32)) % (3 : Int32)))])) _
    refine own_via (fun t k => XS.iconst X0.here hx rfl (hb hby d1_16) k) ?_
    show own_Rch p.tables e below (s₁.setTop (mkF m 17 #[.val (.int p1), .val (.int ((p1 &&& (2147483647 : Int32)) % (3 : Int32)))] [(.int (1 : Int32)), (.int ((p1 &&& (2147483647 : Int32)) % (3 : Int32)))])) _
    by_cases c17 : ((p1 &&& (2147483647 : Int32)) % (3 : Int32)) = (1 : Int32)
    · refine own_via (fun t k => XS.icmpNo X0.here hx rfl (hb hby d1_17) rfl (teq c17).2 k) ?_
      show own_Rch p.tables e below (s₁.setTop (mkF m 20 #[.val (.int p1), .val (.int ((p1 &&& (2147483647 : Int32)) % (3 : Int32)))] [])) _
      obtain ⟨T2, X2, e2, st2⟩ := getS2 X0 hx hZ hown (host := "") (Or.inl (hw _ (List.mem_of_getElem? (i := 63) rfl))) Via.refl e0 (S_aM.ext O0.2) (g := (mkF m 20 #[.val (.int p1), .val (.int ((p1 &&& (2147483647 : Int32)) % (3 : Int32)))] [])) rfl (hb hby d1_20)
      refine own_via st2 ?_
      show own_Rch p.tables e below (T2.setTop (mkF m 23 #[.val (.int p1), .val (.int ((p1 &&& (2147483647 : Int32)) % (3 : Int32)))] [(.ref aM)])) _
      exact own_fin X2 hx (t := (.object "com/example/tierline/tierline/model/RatingAgency")) (i := .areturn) Bd.returns Bd.notSynchronized rfl (Or.inr (Or.inr (Or.inr (Or.inr ⟨rfl, rfl, rfl⟩)))) (hb hby d1_23) (by decide) (by decide) ⟨_, _, rfl, N0, e2, A_aM, by decide⟩
    · refine own_via (fun t k => XS.icmpYes X0.here hx rfl (pc0 := 17) (pc' := 24) rfl (hb hby d1_17) rfl (feq c17).2 (by decide) (by decide) k) ?_
      show own_Rch p.tables e below (s₁.setTop (mkF m 24 #[.val (.int p1), .val (.int ((p1 &&& (2147483647 : Int32)) % (3 : Int32)))] [])) _
      obtain ⟨T3, X3, e3, st3⟩ := getS2 X0 hx hZ hown (host := "") (Or.inl (hw _ (List.mem_of_getElem? (i := 65) rfl))) Via.refl e0 (S_aF.ext O0.2) (g := (mkF m 24 #[.val (.int p1), .val (.int ((p1 &&& (2147483647 : Int32)) % (3 : Int32)))] [])) rfl (hb hby d1_24)
      refine own_via st3 ?_
      show own_Rch p.tables e below (T3.setTop (mkF m 27 #[.val (.int p1), .val (.int ((p1 &&& (2147483647 : Int32)) % (3 : Int32)))] [(.ref aF)])) _
      exact own_fin X3 hx (t := (.object "com/example/tierline/tierline/model/RatingAgency")) (i := .areturn) Bd.returns Bd.notSynchronized rfl (Or.inr (Or.inr (Or.inr (Or.inr ⟨rfl, rfl, rfl⟩)))) (hb hby d1_27) (by decide) (by decide) ⟨_, _, rfl, N0, e3, A_aF, by decide⟩
theorem ef_R (m : MethodId) (x0 : Addr) : entryFrame m #[(.ref x0)] 1 = mkF m 0 #[.val (.ref x0)] [] := by first | (simp [entryFrame, mkF, argsToLocals, Value.category]; done) | rfl
theorem pn_java_lang_Record : plainName "java/lang/Record" = true := by first | (simp [plainName, overriddenIn]; done) | decide +kernel
theorem d5_0 : decode jdk_30_method_1_code 0 = .ok (.aload_n 0, 1) := by decide +kernel
theorem d5_1 : decode jdk_30_method_1_code 1 = .ok (.invokespecial 1, 3) := by decide +kernel
theorem d5_4 : decode jdk_30_method_1_code 4 = .ok (.return_, 1) := by decide +kernel
set_option maxRecDepth 65536 in
set_option maxHeartbeats 40000000 in
theorem rmR (l : Launch) (Z : State) (a0 : Array Value) (hw : ∀ d ∈ tables_1, d.before a0 Z = true) (ws : List Jvm.Cond) (a1 : Addr) (h0 : Heap) (n0 : Nat) :
    MetFree l (⟨"java/lang/Record", "<init>", "()V"⟩ : MethodName) (head1 (Jvm.Cond.code (⟨"java/lang/Record", "<init>", "()V"⟩ : MethodName) jdk_30_method_1_code 1 none :: ws) ({ frames := 1, cells := 0, slots := 0, locals := 12 } : Room)) (fun a U => a = #[(.ref a1)] ∧ Z.Warmed39 U.vm ∧ U.heap = h0) (fun _ _ _ _ _ => True) (fun _ U o U' => ∃ v L, o = .returned v ∧ own_None h0 n0 v U'.heap L ∧ FrameEnd U o U' L ({ frames := 1, cells := 0, slots := 0, locals := 12 } : Room).cells ({ frames := 1, cells := 0, slots := 0, locals := 12 } : Room).slots) := by
  refine MetFree.of_bodySF (plainFor_of_name pn_java_lang_Record) hisR ?_
  intro p e s m args below meth c s₁ Bd hml0 hP hK
  obtain ⟨rfl, hZ, hh⟩ := hP
  have hx := Bd.exec
  have hby := Bd.bytes
  have hml : c.maxLocals = 1 := hml0
  have hown : s.vm.findClass "java/lang/Record" = some m.cls := findClass_of_methodNamed Bd.named
  have hnm := (name_of_methodNamed Bd.named Bd.method).1
  have X0 : Stand p l e ({ frames := 1, cells := 0, slots := 0, locals := 12 } : Room) s m #[(.ref a1)] below meth c s₁ [] 0 0 := Stand.of_body Bd
  have e0 : s₁.heap = h0 := by rw [← hh, Bd.state]; rfl
  have N0 := Fr.nil n0
  show own_Rch p.tables e below (s₁.setTop (entryFrame m #[(.ref a1)] 1)) (own_End s (own_None h0 n0) ({ frames := 1, cells := 0, slots := 0, locals := 12 } : Room).cells ({ frames := 1, cells := 0, slots := 0, locals := 12 } : Room).slots)
  refine own_via (fun t k => castTop (ef_R m a1) k) ?_
  show own_Rch p.tables e below (s₁.setTop (mkF m 0 #[.val (.ref a1)] [])) _
  refine own_via (fun t k => XS.aloadN X0.here hx rfl (hb hby d5_0) rfl rfl k) ?_
  show own_Rch p.tables e below (s₁.setTop (mkF m 1 #[.val (.ref a1)] [(.ref a1)])) _
  obtain ⟨T1, X1, e1, st1⟩ := initO X0 hx hZ hown (hw _ (List.mem_of_getElem? (i := 38) rfl)) (hw _ (List.mem_of_getElem? (i := 39) rfl)) (hw _ (List.mem_of_getElem? (i := 40) rfl)) e0 (g := (mkF m 1 #[.val (.ref a1)] [(.ref a1)])) rfl (by rw [hml]; rfl) rfl (hb hby d5_1) (by decide) (W := 0) (by show 2 * 0 + _ ≤ _; exact Nat.le_of_eq rfl) (by decide)
  refine own_via st1 ?_
  show own_Rch p.tables e below (T1.setTop (mkF m 4 #[.val (.ref a1)] [])) _
  exact own_fin0 X1 hx Bd.returns Bd.notSynchronized (hb hby d5_4) (by decide) (by decide) ⟨rfl, N0, e1⟩
theorem ef_q (m : MethodId) (x0 : Addr) (x1 : Addr) : entryFrame m #[(.ref x0), (.ref x1)] 2 = mkF m 0 #[.val (.ref x0), .val (.ref x1)] [] := by first | (simp [entryFrame, mkF, argsToLocals, Value.category]; done) | rfl
theorem pn_java_util_Objects : plainName "java/util/Objects" = true := by first | (simp [plainName, overriddenIn]; done) | decide +kernel
theorem d7_0 : decode jdk_31_method_11_code 0 = .ok (.aload_n 0, 1) := by decide +kernel
theorem d7_1 : decode jdk_31_method_11_code 1 = .ok (.ifnonnull 12, 3) := by decide +kernel
theorem d7_13 : decode jdk_31_method_11_code 13 = .ok (.aload_n 0, 1) := by decide +kernel
theorem d7_14 : decode jdk_31_method_11_code 14 = .ok (.areturn, 1) := by decide +kernel
set_option maxRecDepth 65536 in
set_option maxHeartbeats 40000000 in
theorem rmq (l : Launch) (Z : State) (a0 : Array Value) (hw : ∀ d ∈ tables_1, d.before a0 Z = true) (ws : List Jvm.Cond) (a1 a2 : Addr) (h0 : Heap) (n0 : Nat) :
    MetFree l (⟨"java/util/Objects", "requireNonNull", "(Ljava/lang/Object;Ljava/lang/String;)Ljava/lang/Object;"⟩ : MethodName) (head1 (Jvm.Cond.code (⟨"java/util/Objects", "requireNonNull", "(Ljava/lang/Object;Ljava/lang/String;)Ljava/lang/Object;"⟩ : MethodName) jdk_31_method_11_code 2 (some (.object "java/lang/Object")) :: ws) ({ frames := 0, cells := 0, slots := 0, locals := 0 } : Room)) (fun a U => a = #[(.ref a1), (.ref a2)] ∧ Z.Warmed39 U.vm ∧ U.heap = h0) (fun _ _ _ _ _ => True) (fun _ U o U' => ∃ v L, o = .returned v ∧ own_Pure (.ref a1) h0 n0 v U'.heap L ∧ FrameEnd U o U' L ({ frames := 0, cells := 0, slots := 0, locals := 0 } : Room).cells ({ frames := 0, cells := 0, slots := 0, locals := 0 } : Room).slots) := by
  refine MetFree.of_bodySF (plainFor_of_name pn_java_util_Objects) hisR ?_
  intro p e s m args below meth c s₁ Bd hml0 hP hK
  obtain ⟨rfl, hZ, hh⟩ := hP
  have hx := Bd.exec
  have hby := Bd.bytes
  have hml : c.maxLocals = 2 := hml0
  have hown : s.vm.findClass "java/util/Objects" = some m.cls := findClass_of_methodNamed Bd.named
  have hnm := (name_of_methodNamed Bd.named Bd.method).1
  have X0 : Stand p l e ({ frames := 0, cells := 0, slots := 0, locals := 0 } : Room) s m #[(.ref a1), (.ref a2)] below meth c s₁ [] 0 0 := Stand.of_body Bd
  have e0 : s₁.heap = h0 := by rw [← hh, Bd.state]; rfl
  have N0 := Fr.nil n0
  show own_Rch p.tables e below (s₁.setTop (entryFrame m #[(.ref a1), (.ref a2)] 2)) (own_End s (own_Pure (.ref a1) h0 n0) ({ frames := 0, cells := 0, slots := 0, locals := 0 } : Room).cells ({ frames := 0, cells := 0, slots := 0, locals := 0 } : Room).slots)
  refine own_via (fun t k => castTop (ef_q m a1 a2) k) ?_
  show own_Rch p.tables e below (s₁.setTop (mkF m 0 #[.val (.ref a1), .val (.ref a2)] [])) _
  refine own_via (fun t k => XS.aloadN X0.here hx rfl (hb hby d7_0) rfl rfl k) ?_
  show own_Rch p.tables e below (s₁.setTop (mkF m 1 #[.val (.ref a1), .val (.ref a2)] [(.ref a1)])) _
  refine own_via (fun t k => XS.ifnonnullYes X0.here hx rfl (pc0 := 1) (pc' := 13) rfl (hb hby d7_1) rfl (by decide) (by decide) k) ?_
  show own_Rch p.tables e below (s₁.setTop (mkF m 13 #[.val (.ref a1), .val (.ref a2)] [])) _
  refine own_via (fun t k => XS.aloadN X0.here hx rfl (hb hby d7_13) rfl rfl k) ?_
  show own_Rch p.tables e below (s₁.setTop (mkF m 14 #[.val (.ref a1), .val (.ref a2)] [(.ref a1)])) _
  exact own_fin X0 hx (t := (.object "java/lang/Object")) (i := .areturn) Bd.returns Bd.notSynchronized rfl (Or.inr (Or.inr (Or.inr (Or.inr ⟨rfl, rfl, rfl⟩)))) (hb hby d7_14) (by decide) (by decide) ⟨rfl, N0, e0⟩
def Q1 (Z : State) (a1 ag : Addr) (i : Int32) (h0 : Heap) (n0 : Nat) (v : Option Value) (h : Heap) (L : List Loc) : Prop := v = none ∧ Fr n0 L ∧ Keep h0 h [a1] ∧ Exa Z h a1 "com/example/tierline/tierline/model/Rating" ∧ Fld Z h a1 "com/example/tierline/tierline/model/Rating" "agency" "Lcom/example/tierline/tierline/model/RatingAgency;" (.ref ag) ∧ Fld Z h a1 "com/example/tierline/tierline/model/Rating" "notch" "I" (.int i)
theorem ef_1 (m : MethodId) (x0 : Addr) (x1 : Addr) (x2 : Int32) : entryFrame m #[(.ref x0), (.ref x1), (.int x2)] 3 = mkF m 0 #[.val (.ref x0), .val (.ref x1), .val (.int x2)] [] := by first | (simp [entryFrame, mkF, argsToLocals, Value.category]; done) | rfl
theorem pn_com_example_tierline_tierline_model_Rating : plainName "com/example/tierline/tierline/model/Rating" = true := by first | (simp [plainName, overriddenIn]; done) | decide +kernel
theorem d4_0 : decode prog_85_method_1_code 0 = .ok (.aload_n 0, 1) := by decide +kernel
theorem d4_1 : decode prog_85_method_1_code 1 = .ok (.invokespecial 1, 3) := by decide +kernel
theorem pd_1 : parseMethodDescriptor "()V" = some ⟨[], none⟩ := by decide +kernel
theorem d4_4 : decode prog_85_method_1_code 4 = .ok (.aload_n 1, 1) := by decide +kernel
theorem d4_5 : decode prog_85_method_1_code 5 = .ok (.ldc 7, 2) := by decide +kernel
theorem d4_7 : decode prog_85_method_1_code 7 = .ok (.invokestatic 9, 3) := by decide +kernel
theorem pd_2 : parseMethodDescriptor "(Ljava/lang/Object;Ljava/lang/String;)Ljava/lang/Object;" = some ⟨[(.object "java/lang/Object"), (.object "java/lang/String")], some (.object "java/lang/Object")⟩ := by decide +kernel
theorem d4_10 : decode prog_85_method_1_code 10 = .ok (.pop, 1) := by decide +kernel
theorem d4_11 : decode prog_85_method_1_code 11 = .ok (.iload_n 2, 1) := by decide +kernel
theorem d4_12 : decode prog_85_method_1_code 12 = .ok (.ifCond .lt 11, 3) := by decide +kernel
theorem d4_15 : decode prog_85_method_1_code 15 = .ok (.iload_n 2, 1) := by decide +kernel
theorem d4_16 : decode prog_85_method_1_code 16 = .ok (.aload_n 1, 1) := by decide +kernel
theorem d4_17 : decode prog_85_method_1_code 17 = .ok (.invokevirtual 15, 3) := by decide +kernel
theorem d4_20 : decode prog_85_method_1_code 20 = .ok (.if_icmp .lt 21, 3) := by decide +kernel
theorem d4_41 : decode prog_85_method_1_code 41 = .ok (.aload_n 0, 1) := by decide +kernel
theorem d4_42 : decode prog_85_method_1_code 42 = .ok (.aload_n 1, 1) := by decide +kernel
theorem d4_43 : decode prog_85_method_1_code 43 = .ok (.putfield 34, 3) := by decide +kernel
theorem d4_46 : decode prog_85_method_1_code 46 = .ok (.aload_n 0, 1) := by decide +kernel
theorem d4_47 : decode prog_85_method_1_code 47 = .ok (.iload_n 2, 1) := by decide +kernel
theorem d4_48 : decode prog_85_method_1_code 48 = .ok (.putfield 39, 3) := by decide +kernel
theorem d4_51 : decode prog_85_method_1_code 51 = .ok (.return_, 1) := by decide +kernel
set_option maxRecDepth 65536 in
set_option maxHeartbeats 40000000 in
theorem rm1 (l : Launch) (Z : State) (a0 : Array Value) (hw : ∀ d ∈ tables_1, d.before a0 Z = true) (ws : List Jvm.Cond) (a1 ag : Addr) (p3 : Int32) (lb el : Addr) (cl : Cell) (nn : Int32) (h0 : Heap) (n0 : Nat) (O0 : Old Z n0 h0) (g_a1 : n0 ≤ a1) (E_a1 : Exa Z h0 a1 "com/example/tierline/tierline/model/Rating") (F_agency : Fld Z h0 a1 "com/example/tierline/tierline/model/Rating" "agency" "Lcom/example/tierline/tierline/model/RatingAgency;" .null) (F_notch : Fld Z h0 a1 "com/example/tierline/tierline/model/Rating" "notch" "I" (.int 0)) (E_ag : Exa Z Z.heap ag "com/example/tierline/tierline/model/RatingAgency") (F_l : Fld Z Z.heap ag "com/example/tierline/tierline/model/RatingAgency" "labels" "Ljava/util/List;" (.ref lb)) (E_lb : Exa Z Z.heap lb "java/util/ImmutableCollections$ListN") (F_e : Fld Z Z.heap lb "java/util/ImmutableCollections$ListN" "elements" "[Ljava/lang/Object;" (.ref el)) (A_el : Arr Z Z.heap el cl (.object "java/lang/Object")) (Sz : cl.slots.size = nn.toNatClampNeg) (Mz : ¬ nn < 0) (hi0 : ¬ p3 < (0 : Int32)) (hi1 : p3 < nn) :
    MetFree l (⟨"com/example/tierline/tierline/model/Rating", "<init>", "(Lcom/example/tierline/tierline/model/RatingAgency;I)V"⟩ : MethodName) (head1 (Jvm.Cond.code (⟨"com/example/tierline/tierline/model/Rating", "<init>", "(Lcom/example/tierline/tierline/model/RatingAgency;I)V"⟩ : MethodName) prog_85_method_1_code 3 none :: ws) ({ frames := 2, cells := 2, slots := 28, locals := 25 } : Room)) (fun a U => a = #[(.ref a1), (.ref ag), (.int p3)] ∧ Z.Warmed39 U.vm ∧ U.heap = h0) (fun _ _ _ _ _ => True) (fun _ U o U' => ∃ v L, o = .returned v ∧ Q1 Z a1 ag p3 h0 n0 v U'.heap L ∧ ReturnedEndW U o U' L ({ frames := 2, cells := 2, slots := 28, locals := 25 } : Room).cells ({ frames := 2, cells := 2, slots := 28, locals := 25 } : Room).slots) := by
  refine MetFree.of_bodySF (plainFor_of_name pn_com_example_tierline_tierline_model_Rating) hisR ?_
  intro p e s m args below meth c s₁ Bd hml0 hP hK
  obtain ⟨rfl, hZ, hh⟩ := hP
  have hx := Bd.exec
  have hby := Bd.bytes
  have hml : c.maxLocals = 3 := hml0
  have hown : s.vm.findClass "com/example/tierline/tierline/model/Rating" = some m.cls := findClass_of_methodNamed Bd.named
  have hnm := (name_of_methodNamed Bd.named Bd.method).1
  have X0 : Stand p l e ({ frames := 2, cells := 2, slots := 28, locals := 25 } : Room) s m #[(.ref a1), (.ref ag), (.int p3)] below meth c s₁ [] 0 0 := Stand.of_body Bd
  have e0 : s₁.heap = h0 := by rw [← hh, Bd.state]; rfl
  have N0 := Fr.nil n0
  show own_Rch p.tables e below (s₁.setTop (entryFrame m #[(.ref a1), (.ref ag), (.int p3)] 3)) (own_EndW s (Q1 Z a1 ag p3 h0 n0) ({ frames := 2, cells := 2, slots := 28, locals := 25 } : Room).cells ({ frames := 2, cells := 2, slots := 28, locals := 25 } : Room).slots)
  refine own_via (fun t k => castTop (ef_1 m a1 ag p3) k) ?_
  have Kc := Keep.refl h0 [a1]
  have X0 : Stand p l e ({ frames := 2, cells := 2, slots := 28, locals := 25 } : Room) (s.setVm s.vm) m #[(.ref a1), (.ref ag), (.int p3)] below meth c s₁ [] 0 0 := X0
  have hZ : Z.Warmed39 (s.setVm s.vm).vm := hZ
  have hown : (s.setVm s.vm).vm.findClass "com/example/tierline/tierline/model/Rating" = some m.cls := hown
  have Si0 : s.Since s.vm h0.size := own_S0 s _
  show own_Rch p.tables e below (s₁.setTop (mkF m 0 #[.val (.ref a1), .val (.ref ag), .val (.int p3)] [])) _
  refine own_via (fun t k => XS.aloadN X0.here hx rfl (hb hby d4_0) rfl rfl k) ?_
  show own_Rch p.tables e below (s₁.setTop (mkF m 1 #[.val (.ref a1), .val (.ref ag), .val (.int p3)] [(.ref a1)])) _
  obtain ⟨_, _, ⟨T1, L1, k1, n1⟩, -, X1, ⟨Lc1, hQ1, l1, y1, z1⟩, st1⟩ := X0.specialBack hx (y := (⟨"java/lang/Record", "<init>", "()V"⟩ : MethodName)) rfl hown (mvT hZ (hw _ (List.mem_of_getElem? (i := 33) rfl))) (mvT hZ (hw _ (List.mem_of_getElem? (i := 34) rfl))) (mvT hZ (hw _ (List.mem_of_getElem? (i := 37) rfl))) (by decide) (backOf (W := 0) (rmR l Z a0 hw [] a1 h0 n0) hZ (hw _ (List.mem_of_getElem? (i := 37) rfl)) (hw _ (List.mem_of_getElem? (i := 36) rfl)) (by decide) (by decide)) (g := (mkF m 1 #[.val (.ref a1), .val (.ref ag), .val (.int p3)] [(.ref a1)])) rfl (by rw [hml]; rfl) (Steps.refl _) (a := a1) (argsL := []) (rest := []) (lenOf pd_1 rfl) rfl (by show 2 * 0 + _ ≤ _; exact Nat.le_of_eq rfl) (hb hby d4_1) (fun _ _ => ⟨rfl, e0, (by decide : 0 + 0 ≤ _), (by decide : 0 + 0 ≤ _)⟩)
  dsimp only [Pt.U, Pt.locs, Pt.cells, Pt.slots] at X1 l1 y1 z1 st1 hQ1
  subst l1 y1 z1
  obtain ⟨rfl, N1q, eh1⟩ := hQ1
  have N1 := Fr.app N0 N1q
  refine own_via (fun t k => st1.trans k) ?_
  show own_Rch p.tables e below (T1.setTop (mkF m 4 #[.val (.ref a1), .val (.ref ag), .val (.int p3)] [])) _
  refine own_via (fun t k => XS.aloadN X1.here hx rfl (hb hby d4_4) rfl rfl k) ?_
  show own_Rch p.tables e below (T1.setTop (mkF m 5 #[.val (.ref a1), .val (.ref ag), .val (.int p3)] [(.ref ag)])) _
  obtain ⟨b2, T2, h2, k2, X2, e2, E2, Si2, gk2, hZ, hown, st2⟩ := ldcS X1 hx hZ hown (hw _ (List.mem_of_getElem? (i := 41) rfl)) (own_wS hw) eh1 Si0 (Nat.le_refl _) (g := (mkF m 5 #[.val (.ref a1), .val (.ref ag), .val (.int p3)] [(.ref ag)])) rfl (hb hby d4_5) (n := 24) (by decide) (by decide) (by decide) (by decide)
  have Kc2 := Kc.ext E2
  have O2 := O0.ext E2
  refine own_via st2 ?_
  show own_Rch p.tables e below (T2.setTop (mkF m 7 #[.val (.ref a1), .val (.ref ag), .val (.int p3)] [(.ref b2), (.ref ag)])) _
  obtain ⟨_, _, ⟨T3, L3, k3, n3⟩, -, X3, ⟨Lc3, hQ3, l3, y3, z3⟩, st3⟩ := Jvm.LawKit.callS X2 hx (y := (⟨"java/util/Objects", "requireNonNull", "(Ljava/lang/Object;Ljava/lang/String;)Ljava/lang/Object;"⟩ : MethodName)) hown (mvT hZ (hw _ (List.mem_of_getElem? (i := 49) rfl))) (mvT hZ (hw _ (List.mem_of_getElem? (i := 50) rfl))) (mvT hZ (hw _ (List.mem_of_getElem? (i := 51) rfl))) (mvT hZ (hw _ (List.mem_of_getElem? (i := 52) rfl))) (by decide) (backOf (W := 0) (rmq l Z a0 hw [] ag b2 h2 n0) hZ (hw _ (List.mem_of_getElem? (i := 52) rfl)) (hw _ (List.mem_of_getElem? (i := 51) rfl)) (by decide) (by decide)) (g := (mkF m 7 #[.val (.ref a1), .val (.ref ag), .val (.int p3)] [(.ref b2), (.ref ag)])) rfl (by rw [hml]; rfl) (argsL := [(.ref ag), (.ref b2)]) (rest := []) (lenOf pd_2 rfl) rfl (by show 2 * 0 + _ ≤ _; exact Nat.le_of_eq rfl) (hb hby d4_7) (fun _ _ => ⟨rfl, e2, (by decide : 2 + 0 ≤ _), (by decide : 28 + 0 ≤ _)⟩)
  dsimp only [Pt.U, Pt.locs, Pt.cells, Pt.slots] at X3 l3 y3 z3 st3 hQ3
  subst l3 y3 z3
  obtain ⟨rfl, N3q, eh3⟩ := hQ3
  have N3 := Fr.app N1 N3q
  refine own_via st3 ?_
  show own_Rch p.tables e below (T3.setTop (mkF m 10 #[.val (.ref a1), .val (.ref ag), .val (.int p3)] [(.ref ag)])) _
  refine own_via (fun t k => XS.pop X3.here hx rfl (hb hby d4_10) rfl rfl k) ?_
  show own_Rch p.tables e below (T3.setTop (mkF m 11 #[.val (.ref a1), .val (.ref ag), .val (.int p3)] [])) _
  refine own_via (fun t k => XS.iloadN X3.here hx rfl (hb hby d4_11) rfl k) ?_
  show own_Rch p.tables e below (T3.setTop (mkF m 12 #[.val (.ref a1), .val (.ref ag), .val (.int p3)] [(.int p3)])) _
  refine own_via (fun t k => XS.ifNo X3.here hx rfl (hb hby d4_12) rfl ((if0 _ _).trans (flt hi0).1) k) ?_
  show own_Rch p.tables e below (T3.setTop (mkF m 15 #[.val (.ref a1), .val (.ref ag), .val (.int p3)] [])) _
  refine own_via (fun t k => XS.iloadN X3.here hx rfl (hb hby d4_15) rfl k) ?_
  show own_Rch p.tables e below (T3.setTop (mkF m 16 #[.val (.ref a1), .val (.ref ag), .val (.int p3)] [(.int p3)])) _
  refine own_via (fun t k => XS.aloadN X3.here hx rfl (hb hby d4_16) rfl rfl k) ?_
  show own_Rch p.tables e below (T3.setTop (mkF m 17 #[.val (.ref a1), .val (.ref ag), .val (.int p3)] [(.ref ag), (.int p3)])) _
  obtain ⟨cq4, kq4, q4a, q4b, q4c⟩ := isOf hZ eh3 (E_ag.ext O2.2)
  obtain ⟨_, _, ⟨T4, L4, k4, n4⟩, -, X4, ⟨Lc4, hQ4, l4, y4, z4⟩, st4⟩ := X3.virtualBack hx (y := (⟨"com/example/tierline/tierline/model/RatingAgency", "notches", "()I"⟩ : MethodName)) (z := (⟨"com/example/tierline/tierline/model/RatingAgency", "notches", "()I"⟩ : MethodName)) hown (mvT hZ (hw _ (List.mem_of_getElem? (i := 53) rfl))) (mvT hZ (hw _ (List.mem_of_getElem? (i := 9) rfl))) (notFace_of_selects (args := #[]) (mvT hZ (hw _ (List.mem_of_getElem? (i := 11) rfl)))) (mvT hZ (hw _ (List.mem_of_getElem? (i := 11) rfl))) (mvT hZ (hw _ (List.mem_of_getElem? (i := 10) rfl))) (by decide) (backOf (W := 1) (rmn l Z a0 hw [] ag lb el cl nn h2 n0 (F_l.ext O2.2) (E_lb.ext O2.2) (F_e.ext O2.2) (A_el.ext O2.2) Sz Mz) hZ (hw _ (List.mem_of_getElem? (i := 12) rfl)) (hw _ (List.mem_of_getElem? (i := 6) rfl)) (by decide) (by decide)) q4a q4c (g := (mkF m 17 #[.val (.ref a1), .val (.ref ag), .val (.int p3)] [(.ref ag), (.int p3)])) rfl (by rw [hml]; rfl) (Steps.refl _) (argsL := []) (rest := [(.int p3)]) (lenOf pd_0 rfl) rfl (by show 2 * 0 + _ ≤ _; exact Nat.le_of_eq rfl) (hb hby d4_17) (fun _ _ => ⟨rfl, eh3, (by decide : 2 + 0 ≤ _), (by decide : 28 + 0 ≤ _)⟩)
  dsimp only [Pt.U, Pt.locs, Pt.cells, Pt.slots] at X4 l4 y4 z4 st4 hQ4
  subst l4 y4 z4
  obtain ⟨rfl, N4q, eh4⟩ := hQ4
  have N4 := Fr.app N3 N4q
  refine own_via (fun t k => st4.trans k) ?_
  show own_Rch p.tables e below (T4.setTop (mkF m 20 #[.val (.ref a1), .val (.ref ag), .val (.int p3)] [(.int nn), (.int p3)])) _
  refine own_via (fun t k => XS.icmpYes X4.here hx rfl (pc0 := 20) (pc' := 41) rfl (hb hby d4_20) rfl (tlt hi1).1 (by decide) (by decide) k) ?_
  show own_Rch p.tables e below (T4.setTop (mkF m 41 #[.val (.ref a1), .val (.ref ag), .val (.int p3)] [])) _
  refine own_via (fun t k => XS.aloadN X4.here hx rfl (hb hby d4_41) rfl rfl k) ?_
  show own_Rch p.tables e below (T4.setTop (mkF m 42 #[.val (.ref a1), .val (.ref ag), .val (.int p3)] [(.ref a1)])) _
  refine own_via (fun t k => XS.aloadN X4.here hx rfl (hb hby d4_42) rfl rfl k) ?_
  show own_Rch p.tables e below (T4.setTop (mkF m 43 #[.val (.ref a1), .val (.ref ag), .val (.int p3)] [(.ref ag), (.ref a1)])) _
  obtain ⟨T5, h5, X5, e5, W5, st5⟩ := putF X4 hx hZ hown (host := "") (Or.inl (hw _ (List.mem_of_getElem? (i := 54) rfl))) Via.refl eh4 (F_agency.ext E2) (E_a1.ext E2) (Or.inr ⟨(hw _ (List.mem_of_getElem? (i := 55) rfl)), rfl, hnm⟩) (hw _ (List.mem_of_getElem? (i := 28) rfl)) (ty := (.object "com/example/tierline/tierline/model/RatingAgency")) (by decide) rfl rfl (g := (mkF m 43 #[.val (.ref a1), .val (.ref ag), .val (.int p3)] [(.ref ag), (.ref a1)])) rfl rfl (hb hby d4_43)
  have Fw5 := (F_agency.ext E2).same W5
  have N5 := Fr.snoc X5 N4 g_a1
  have Kc5 := Kc2.wr W5 (Or.inl (by simp))
  have O5 := O2.wr W5 g_a1
  refine own_via st5 ?_
  show own_Rch p.tables e below (T5.setTop (mkF m 46 #[.val (.ref a1), .val (.ref ag), .val (.int p3)] [])) _
  refine own_via (fun t k => XS.aloadN X5.here hx rfl (hb hby d4_46) rfl rfl k) ?_
  show own_Rch p.tables e below (T5.setTop (mkF m 47 #[.val (.ref a1), .val (.ref ag), .val (.int p3)] [(.ref a1)])) _
  refine own_via (fun t k => XS.iloadN X5.here hx rfl (hb hby d4_47) rfl k) ?_
  show own_Rch p.tables e below (T5.setTop (mkF m 48 #[.val (.ref a1), .val (.ref ag), .val (.int p3)] [(.int p3), (.ref a1)])) _
  obtain ⟨T6, h6, X6, e6, W6, st6⟩ := putF X5 hx hZ hown (host := "") (Or.inl (hw _ (List.mem_of_getElem? (i := 56) rfl))) Via.refl e5 ((F_notch.ext E2).other W5 (Or.inr (slot_ne (Or.inr (hw _ (List.mem_of_getElem? (i := 57) rfl))) (Or.inr (hw _ (List.mem_of_getElem? (i := 55) rfl))) (by decide) (t := .int) (t' := (.object "com/example/tierline/tierline/model/RatingAgency")) (by decide) (by decide)))) ((E_a1.ext E2).wr W5) (Or.inr ⟨(hw _ (List.mem_of_getElem? (i := 57) rfl)), rfl, hnm⟩) (hw _ (List.mem_of_getElem? (i := 28) rfl)) (ty := .int) (by decide) rfl rfl (g := (mkF m 48 #[.val (.ref a1), .val (.ref ag), .val (.int p3)] [(.int p3), (.ref a1)])) rfl rfl (hb hby d4_48)
  have Fw6 := ((F_notch.ext E2).other W5 (Or.inr (slot_ne (Or.inr (hw _ (List.mem_of_getElem? (i := 57) rfl))) (Or.inr (hw _ (List.mem_of_getElem? (i := 55) rfl))) (by decide) (t := .int) (t' := (.object "com/example/tierline/tierline/model/RatingAgency")) (by decide) (by decide)))).same W6
  have N6 := Fr.snoc X6 N5 g_a1
  have Kc6 := Kc5.wr W6 (Or.inl (by simp))
  have O6 := O5.wr W6 g_a1
  refine own_via st6 ?_
  show own_Rch p.tables e below (T6.setTop (mkF m 51 #[.val (.ref a1), .val (.ref ag), .val (.int p3)] [])) _
  exact own_fin0W X6 Si2 (by rw [e6]; exact (Nat.le_trans (Nat.le_trans gk2 (Keep.of_wr W5).1) (Keep.of_wr W6).1)) hx Bd.returns Bd.notSynchronized (hb hby d4_51) (by decide) (by decide) (by rw [e6]; exact ⟨rfl, N6, Kc6, (((E_a1.ext E2).wr W5).wr W6), (Fw5.other W6 (Or.inr (slot_ne (Or.inr (hw _ (List.mem_of_getElem? (i := 55) rfl))) (Or.inr (hw _ (List.mem_of_getElem? (i := 57) rfl))) (by decide) (t := (.object "com/example/tierline/tierline/model/RatingAgency")) (t' := .int) (by decide) (by decide)))), Fw6⟩)
theorem ef_b (m : MethodId) (x0 : Addr) (x1 : Addr) : entryFrame m #[(.ref x0), (.ref x1)] 2 = mkF m 0 #[.val (.ref x0), .val (.ref x1)] [] := by first | (simp [entryFrame, mkF, argsToLocals, Value.category]; done) | rfl
theorem d8_0 : decode prog_85_method_4_code 0 = .ok (.aload_n 0, 1) := by decide +kernel
theorem d8_1 : decode prog_85_method_4_code 1 = .ok (.getfield 34, 3) := by decide +kernel
theorem d8_4 : decode prog_85_method_4_code 4 = .ok (.aload_n 1, 1) := by decide +kernel
theorem d8_5 : decode prog_85_method_4_code 5 = .ok (.getfield 34, 3) := by decide +kernel
theorem d8_8 : decode prog_85_method_4_code 8 = .ok (.if_acmp .eq 30, 3) := by decide +kernel
theorem d8_38 : decode prog_85_method_4_code 38 = .ok (.aload_n 0, 1) := by decide +kernel
theorem d8_39 : decode prog_85_method_4_code 39 = .ok (.getfield 39, 3) := by decide +kernel
theorem d8_42 : decode prog_85_method_4_code 42 = .ok (.aload_n 1, 1) := by decide +kernel
theorem d8_43 : decode prog_85_method_4_code 43 = .ok (.getfield 39, 3) := by decide +kernel
theorem d8_46 : decode prog_85_method_4_code 46 = .ok (.if_icmp .le 7, 3) := by decide +kernel
theorem d8_49 : decode prog_85_method_4_code 49 = .ok (.iconst 1, 1) := by decide +kernel
theorem d8_50 : decode prog_85_method_4_code 50 = .ok (.goto 4, 3) := by decide +kernel
theorem d8_54 : decode prog_85_method_4_code 54 = .ok (.ireturn, 1) := by decide +kernel
theorem d8_53 : decode prog_85_method_4_code 53 = .ok (.iconst 0, 1) := by decide +kernel
set_option maxRecDepth 65536 in
set_option maxHeartbeats 40000000 in
theorem rmb (l : Launch) (Z : State) (a0 : Array Value) (hw : ∀ d ∈ tables_1, d.before a0 Z = true) (ws : List Jvm.Cond) (a1 a2 ag : Addr) (i j : Int32) (h0 : Heap) (n0 : Nat) (Fg_a1 : Fld Z h0 a1 "com/example/tierline/tierline/model/Rating" "agency" "Lcom/example/tierline/tierline/model/RatingAgency;" (.ref ag)) (Fn_a1 : Fld Z h0 a1 "com/example/tierline/tierline/model/Rating" "notch" "I" (.int i)) (Fg_a2 : Fld Z h0 a2 "com/example/tierline/tierline/model/Rating" "agency" "Lcom/example/tierline/tierline/model/RatingAgency;" (.ref ag)) (Fn_a2 : Fld Z h0 a2 "com/example/tierline/tierline/model/Rating" "notch" "I" (.int j)) :
    MetFree l (⟨"com/example/tierline/tierline/model/Rating", "isBelow", "(Lcom/example/tierline/tierline/model/Rating;)Z"⟩ : MethodName) (head1 (Jvm.Cond.code (⟨"com/example/tierline/tierline/model/Rating", "isBelow", "(Lcom/example/tierline/tierline/model/Rating;)Z"⟩ : MethodName) prog_85_method_4_code 2 (some .boolean) :: ws) ({ frames := 0, cells := 0, slots := 0, locals := 0 } : Room)) (fun a U => a = #[(.ref a1), (.ref a2)] ∧ Z.Warmed39 U.vm ∧ U.heap = h0) (fun _ _ _ _ _ => True) (fun _ U o U' => ∃ v L, o = .returned v ∧ own_Pure (.int (own_b i j)) h0 n0 v U'.heap L ∧ FrameEnd U o U' L ({ frames := 0, cells := 0, slots := 0, locals := 0 } : Room).cells ({ frames := 0, cells := 0, slots := 0, locals := 0 } : Room).slots) := by
  refine MetFree.of_bodySF (plainFor_of_name pn_com_example_tierline_tierline_model_Rating) hisR ?_
  intro p e s m args below meth c s₁ Bd hml0 hP hK
  obtain ⟨rfl, hZ, hh⟩ := hP
  have hx := Bd.exec
  have hby := Bd.bytes
  have hml : c.maxLocals = 2 := hml0
  have hown : s.vm.findClass "com/example/tierline/tierline/model/Rating" = some m.cls := findClass_of_methodNamed Bd.named
  have hnm := (name_of_methodNamed Bd.named Bd.method).1
  have X0 : Stand p l e ({ frames := 0, cells := 0, slots := 0, locals := 0 } : Room) s m #[(.ref a1), (.ref a2)] below meth c s₁ [] 0 0 := Stand.of_body Bd
  have e0 : s₁.heap = h0 := by rw [← hh, Bd.state]; rfl
  have N0 := Fr.nil n0
  show own_Rch p.tables e below (s₁.setTop (entryFrame m #[(.ref a1), (.ref a2)] 2)) (own_End s (own_Pure (.int (own_b i j)) h0 n0) ({ frames := 0, cells := 0, slots := 0, locals := 0 } : Room).cells ({ frames := 0, cells := 0, slots := 0, locals := 0 } : Room).slots)
  refine own_via (fun t k => castTop (ef_b m a1 a2) k) ?_
  show own_Rch p.tables e below (s₁.setTop (mkF m 0 #[.val (.ref a1), .val (.ref a2)] [])) _
  refine own_via (fun t k => XS.aloadN X0.here hx rfl (hb hby d8_0) rfl rfl k) ?_
  show own_Rch p.tables e below (s₁.setTop (mkF m 1 #[.val (.ref a1), .val (.ref a2)] [(.ref a1)])) _
  obtain ⟨T1, X1, e1, st1⟩ := getF X0 hx hZ hown (host := "") (Or.inl (hw _ (List.mem_of_getElem? (i := 54) rfl))) Via.refl e0 Fg_a1 (g := (mkF m 1 #[.val (.ref a1), .val (.ref a2)] [(.ref a1)])) rfl rfl (hb hby d8_1)
  refine own_via st1 ?_
  show own_Rch p.tables e below (T1.setTop (mkF m 4 #[.val (.ref a1), .val (.ref a2)] [(.ref ag)])) _
  refine own_via (fun t k => XS.aloadN X1.here hx rfl (hb hby d8_4) rfl rfl k) ?_
  show own_Rch p.tables e below (T1.setTop (mkF m 5 #[.val (.ref a1), .val (.ref a2)] [(.ref a2), (.ref ag)])) _
  obtain ⟨T2, X2, e2, st2⟩ := getF X1 hx hZ hown (host := "") (Or.inl (hw _ (List.mem_of_getElem? (i := 54) rfl))) Via.refl e1 Fg_a2 (g := (mkF m 5 #[.val (.ref a1), .val (.ref a2)] [(.ref a2), (.ref ag)])) rfl rfl (hb hby d8_5)
  refine own_via st2 ?_
  show own_Rch p.tables e below (T2.setTop (mkF m 8 #[.val (.ref a1), .val (.ref a2)] [(.ref ag), (.ref ag)])) _
  refine own_via (fun t k => Jvm.RoadKit.acmp (g := (mkF m 8 #[.val (.ref a1), .val (.ref a2)] [(.ref ag), (.ref ag)])) X2 hx rfl rfl rfl (pc0 := 8) (pc' := 38) (same := true) rfl (hb hby d8_8) rfl (decide_eq_true rfl) (by decide) (by decide) k) ?_
  show own_Rch p.tables e below (T2.setTop (mkF m 38 #[.val (.ref a1), .val (.ref a2)] [])) _
  refine own_via (fun t k => XS.aloadN X2.here hx rfl (hb hby d8_38) rfl rfl k) ?_
  show own_Rch p.tables e below (T2.setTop (mkF m 39 #[.val (.ref a1), .val (.ref a2)] [(.ref a1)])) _
  obtain ⟨T3, X3, e3, st3⟩ := getF X2 hx hZ hown (host := "") (Or.inl (hw _ (List.mem_of_getElem? (i := 56) rfl))) Via.refl e2 Fn_a1 (g := (mkF m 39 #[.val (.ref a1), .val (.ref a2)] [(.ref a1)])) rfl rfl (hb hby d8_39)
  refine own_via st3 ?_
  show own_Rch p.tables e below (T3.setTop (mkF m 42 #[.val (.ref a1), .val (.ref a2)] [(.int i)])) _
  refine own_via (fun t k => XS.aloadN X3.here hx rfl (hb hby d8_42) rfl rfl k) ?_
  show own_Rch p.tables e below (T3.setTop (mkF m 43 #[.val (.ref a1), .val (.ref a2)] [(.ref a2), (.int i)])) _
  obtain ⟨T4, X4, e4, st4⟩ := getF X3 hx hZ hown (host := "") (Or.inl (hw _ (List.mem_of_getElem? (i := 56) rfl))) Via.refl e3 Fn_a2 (g := (mkF m 43 #[.val (.ref a1), .val (.ref a2)] [(.ref a2), (.int i)])) rfl rfl (hb hby d8_43)
  refine own_via st4 ?_
  show own_Rch p.tables e below (T4.setTop (mkF m 46 #[.val (.ref a1), .val (.ref a2)] [(.int j), (.int i)])) _
  by_cases c46 : j < i
  · refine own_via (fun t k => XS.icmpNo X4.here hx rfl (hb hby d8_46) rfl (tlt c46).2.2.2 k) ?_
    show own_Rch p.tables e below (T4.setTop (mkF m 49 #[.val (.ref a1), .val (.ref a2)] [])) _
    refine own_via (fun t k => XS.iconst X4.here hx rfl (hb hby d8_49) k) ?_
    show own_Rch p.tables e below (T4.setTop (mkF m 50 #[.val (.ref a1), .val (.ref a2)] [(.int (1 : Int32))])) _
    refine own_via (fun t k => XS.goto X4.here hx rfl (pc0 := 50) (pc' := 54) rfl (hb hby d8_50) (by decide) (by decide) k) ?_
    show own_Rch p.tables e below (T4.setTop (mkF m 54 #[.val (.ref a1), .val (.ref a2)] [(.int (1 : Int32))])) _
    exact own_fin X4 hx (t := .boolean) (i := .ireturn) Bd.returns Bd.notSynchronized rfl (Or.inl ⟨rfl, by simp, _, rfl⟩) (hb hby d8_54) (by decide) (by decide) ⟨by simp only [own_b, if_pos c46], N0, e4⟩
  · refine own_via (fun t k => XS.icmpYes X4.here hx rfl (pc0 := 46) (pc' := 53) rfl (hb hby d8_46) rfl (flt c46).2.2.2 (by decide) (by decide) k) ?_
    show own_Rch p.tables e below (T4.setTop (mkF m 53 #[.val (.ref a1), .val (.ref a2)] [])) _
    refine own_via (fun t k => XS.iconst X4.here hx rfl (hb hby d8_53) k) ?_
    show own_Rch p.tables e below (T4.setTop (mkF m 54 #[.val (.ref a1), .val (.ref a2)] [(.int (0 : Int32))])) _
    exact own_fin X4 hx (t := .boolean) (i := .ireturn) Bd.returns Bd.notSynchronized rfl (Or.inl ⟨rfl, by simp, _, rfl⟩) (hb hby d8_54) (by decide) (by decide) ⟨by simp only [own_b, if_neg c46], N0, e4⟩
def Q0 (n0 : Nat) (v : Option Value) (h : Heap) (L : List Loc) : Prop := v = some (.int (1 : Int32)) ∧ Fr n0 L
theorem ef_0 (m : MethodId) (x0 : Int32) (x1 : Int32) (x2 : Int32) : entryFrame m #[(.int x0), (.int x1), (.int x2)] maxLocals = mkF m 0 #[.val (.int x0), .val (.int x1), .val (.int x2), .unset, .unset, .unset, .unset, .unset, .unset] [] := by first | (simp [entryFrame, mkF, argsToLocals, Value.category, maxLocals]; done) | rfl
theorem pd_3 : parseMethodDescriptor "(I)Lcom/example/tierline/tierline/model/RatingAgency;" = some ⟨[.int], some (.object "com/example/tierline/tierline/model/RatingAgency")⟩ := by decide +kernel
theorem pd_4 : parseMethodDescriptor "(Lcom/example/tierline/tierline/model/RatingAgency;I)V" = some ⟨[(.object "com/example/tierline/tierline/model/RatingAgency"), .int], none⟩ := by decide +kernel
theorem pd_5 : parseMethodDescriptor "(Lcom/example/tierline/tierline/model/Rating;)Z" = some ⟨[(.object "com/example/tierline/tierline/model/Rating")], some .boolean⟩ := by decide +kernel
set_option maxRecDepth 65536 in
set_option maxHeartbeats 40000000 in
theorem rm0 (l : Launch) (Z : State) (a0 : Array Value) (hw : ∀ d ∈ tables_1, d.before a0 Z = true) (ws : List Jvm.Cond) (p1 p2 p3 : Int32) (aS aM aF : Addr) (h0 : Heap) (n0 : Nat) (Z0 : n0 ≤ h0.size) (O0 : Old Z n0 h0) (S_aS : Sta Z Z.heap "com/example/tierline/tierline/model/RatingAgency" "SP" "Lcom/example/tierline/tierline/model/RatingAgency;" (.ref aS)) (A_aS : own_Ag Z Z.heap aS (22 : Int32)) (S_aM : Sta Z Z.heap "com/example/tierline/tierline/model/RatingAgency" "MOODYS" "Lcom/example/tierline/tierline/model/RatingAgency;" (.ref aM)) (A_aM : own_Ag Z Z.heap aM (21 : Int32)) (S_aF : Sta Z Z.heap "com/example/tierline/tierline/model/RatingAgency" "FITCH" "Lcom/example/tierline/tierline/model/RatingAgency;" (.ref aF)) (A_aF : own_Ag Z Z.heap aF (22 : Int32)) :
    MetFree l x (head1 (Jvm.Cond.code x code maxLocals ret :: ws) room_1) (fun a U => a = #[(.int p1), (.int p2), (.int p3)] ∧ Z.Warmed39 U.vm ∧ U.heap = h0) (fun _ _ _ _ _ => True) (fun _ U o U' => ∃ v L, o = .returned v ∧ Q0 n0 v U'.heap L ∧ ReturnedEndW U o U' L room_1.cells room_1.slots) := by
  refine MetFree.of_bodySF (plainFor_of_name pn_com_example_tierline_tierline_model_RatingIsBelowPinLaw) hisR ?_
  intro p e s m args below meth c s₁ Bd hml0 hP hK
  obtain ⟨rfl, hZ, hh⟩ := hP
  have hx := Bd.exec
  have hby := Bd.bytes
  have hml : c.maxLocals = 9 := hml0
  have hown : s.vm.findClass "com/example/tierline/tierline/model/RatingIsBelowPinLaw" = some m.cls := findClass_of_methodNamed Bd.named
  have hnm := (name_of_methodNamed Bd.named Bd.method).1
  have X0 : Stand p l e room_1 s m #[(.int p1), (.int p2), (.int p3)] below meth c s₁ [] 0 0 := Stand.of_body Bd
  have e0 : s₁.heap = h0 := by rw [← hh, Bd.state]; rfl
  have N0 := Fr.nil n0
  show own_Rch p.tables e below (s₁.setTop (entryFrame m #[(.int p1), (.int p2), (.int p3)] maxLocals)) (own_EndW s (Q0 n0) room_1.cells room_1.slots)
  refine own_via (fun t k => castTop (ef_0 m p1 p2 p3) k) ?_
  have X0 : Stand p l e room_1 (s.setVm s.vm) m #[(.int p1), (.int p2), (.int p3)] below meth c s₁ [] 0 0 := X0
  have hZ : Z.Warmed39 (s.setVm s.vm).vm := hZ
  have hown : (s.setVm s.vm).vm.findClass "com/example/tierline/tierline/model/RatingIsBelowPinLaw" = some m.cls := hown
  have Si0 : s.Since s.vm h0.size := own_S0 s _
  show own_Rch p.tables e below (s₁.setTop (mkF m 0 #[.val (.int p1), .val (.int p2), .val (.int p3), .unset, .unset, .unset, .unset, .unset, .unset] [])) _
  refine own_via (fun t k => XS.iloadN X0.here hx rfl (hb hby at_0) rfl k) ?_
  show own_Rch p.tables e below (s₁.setTop (mkF m 1 #[.val (.int p1), .val (.int p2), .val (.int p3), .unset, .unset, .unset, .unset, .unset, .unset] [(.int p1)])) _
  obtain ⟨_, _, ⟨T1, L1, k1, n1⟩, -, X1, ⟨Lc1, hQ1, l1, y1, z1⟩, st1⟩ := Jvm.LawKit.callS X0 hx (y := (⟨"com/example/tierline/tierline/model/RatingIsBelowPinLaw", "pick", "(I)Lcom/example/tierline/tierline/model/RatingAgency;"⟩ : MethodName)) hown (mvT hZ (hw _ (List.mem_of_getElem? (i := 0) rfl))) (mvT hZ (hw _ (List.mem_of_getElem? (i := 1) rfl))) (mvT hZ (hw _ (List.mem_of_getElem? (i := 2) rfl))) (mvT hZ (hw _ (List.mem_of_getElem? (i := 3) rfl))) (by decide) (backOf (W := 0) (rmp l Z a0 hw [] p1 aS aM aF h0 n0 O0 S_aS A_aS S_aM A_aM S_aF A_aF) hZ (hw _ (List.mem_of_getElem? (i := 3) rfl)) (hw _ (List.mem_of_getElem? (i := 2) rfl)) (by decide) (by decide)) (g := (mkF m 1 #[.val (.int p1), .val (.int p2), .val (.int p3), .unset, .unset, .unset, .unset, .unset, .unset] [(.int p1)])) rfl (by rw [hml]; rfl) (argsL := [(.int p1)]) (rest := []) (lenOf pd_3 rfl) rfl (by show 2 * 0 + _ ≤ _; exact Nat.le_of_eq rfl) (hb hby at_1) (fun _ _ => ⟨rfl, e0, (by decide : 0 + 0 ≤ _), (by decide : 0 + 0 ≤ _)⟩)
  dsimp only [Pt.U, Pt.locs, Pt.cells, Pt.slots] at X1 l1 y1 z1 st1 hQ1
  subst l1 y1 z1
  obtain ⟨ag, nn, rfl, N1q, eh1, ⟨E_ag, lb, el, cl, F_l, E_lb, F_e, A_el, Sz, Mz⟩, hnn⟩ := hQ1
  have N1 := Fr.app N0 N1q
  refine own_via st1 ?_
  show own_Rch p.tables e below (T1.setTop (mkF m 4 #[.val (.int p1), .val (.int p2), .val (.int p3), .unset, .unset, .unset, .unset, .unset, .unset] [(.ref ag)])) _
  refine own_via (fun t k => XS.astoreN X1.here hx rfl (hb hby at_4) rfl rfl (l' := #[.val (.int p1), .val (.int p2), .val (.int p3), .val (.ref ag), .unset, .unset, .unset, .unset, .unset]) rfl k) ?_
  show own_Rch p.tables e below (T1.setTop (mkF m 5 #[.val (.int p1), .val (.int p2), .val (.int p3), .val (.ref ag), .unset, .unset, .unset, .unset, .unset] [])) _
  refine own_via (fun t k => XS.aloadN X1.here hx rfl (hb hby at_5) rfl rfl k) ?_
  show own_Rch p.tables e below (T1.setTop (mkF m 6 #[.val (.int p1), .val (.int p2), .val (.int p3), .val (.ref ag), .unset, .unset, .unset, .unset, .unset] [(.ref ag)])) _
  obtain ⟨cq2, kq2, q2a, q2b, q2c⟩ := isOf hZ eh1 (E_ag.ext O0.2)
  obtain ⟨_, _, ⟨T2, L2, k2, n2⟩, -, X2, ⟨Lc2, hQ2, l2, y2, z2⟩, st2⟩ := X1.virtualBack hx (y := (⟨"com/example/tierline/tierline/model/RatingAgency", "notches", "()I"⟩ : MethodName)) (z := (⟨"com/example/tierline/tierline/model/RatingAgency", "notches", "()I"⟩ : MethodName)) hown (mvT hZ (hw _ (List.mem_of_getElem? (i := 8) rfl))) (mvT hZ (hw _ (List.mem_of_getElem? (i := 9) rfl))) (notFace_of_selects (args := #[]) (mvT hZ (hw _ (List.mem_of_getElem? (i := 11) rfl)))) (mvT hZ (hw _ (List.mem_of_getElem? (i := 11) rfl))) (mvT hZ (hw _ (List.mem_of_getElem? (i := 10) rfl))) (by decide) (backOf (W := 0) (rmn l Z a0 hw [] ag lb el cl nn h0 n0 (F_l.ext O0.2) (E_lb.ext O0.2) (F_e.ext O0.2) (A_el.ext O0.2) Sz Mz) hZ (hw _ (List.mem_of_getElem? (i := 12) rfl)) (hw _ (List.mem_of_getElem? (i := 6) rfl)) (by decide) (by decide)) q2a q2c (g := (mkF m 6 #[.val (.int p1), .val (.int p2), .val (.int p3), .val (.ref ag), .unset, .unset, .unset, .unset, .unset] [(.ref ag)])) rfl (by rw [hml]; rfl) (Steps.refl _) (argsL := []) (rest := []) (lenOf pd_0 rfl) rfl (by show 2 * 0 + _ ≤ _; exact Nat.le_of_eq rfl) (hb hby at_6) (fun _ _ => ⟨rfl, eh1, (by decide : 0 + 0 ≤ _), (by decide : 0 + 0 ≤ _)⟩)
  dsimp only [Pt.U, Pt.locs, Pt.cells, Pt.slots] at X2 l2 y2 z2 st2 hQ2
  subst l2 y2 z2
  obtain ⟨rfl, N2q, eh2⟩ := hQ2
  have N2 := Fr.app N1 N2q
  refine own_via (fun t k => st2.trans k) ?_
  show own_Rch p.tables e below (T2.setTop (mkF m 9 #[.val (.int p1), .val (.int p2), .val (.int p3), .val (.ref ag), .unset, .unset, .unset, .unset, .unset] [(.int nn)])) _
  refine own_via (fun t k => XS.istore X2.here hx rfl (hb hby at_9) rfl (l' := #[.val (.int p1), .val (.int p2), .val (.int p3), .val (.ref ag), .val (.int nn), .unset, .unset, .unset, .unset]) rfl k) ?_
  show own_Rch p.tables e below (T2.setTop (mkF m 11 #[.val (.int p1), .val (.int p2), .val (.int p3), .val (.ref ag), .val (.int nn), .unset, .unset, .unset, .unset] [])) _
  refine own_via (fun t k => XS.iloadN X2.here hx rfl (hb hby at_11) rfl k) ?_
  show own_Rch p.tables e below (T2.setTop (mkF m 12 #[.val (.int p1), .val (.int p2), .val (.int p3), .val (.ref ag), .val (.int nn), .unset, .unset, .unset, .unset] [(.int p2)])) _
  refine own_via (X2.ldcInt hx hown (mvT hZ (hw _ (List.mem_of_getElem? (i := 4) rfl))) (g := (mkF m 12 #[.val (.int p1), .val (.int p2), .val (.int p3), .val (.ref ag), .val (.int nn), .unset, .unset, .unset, .unset] [(.int p2)])) rfl (hb hby at_12)) ?_
  show own_Rch p.tables e below (T2.setTop (mkF m 14 #[.val (.int p1), .val (.int p2), .val (.int p3), .val (.ref ag), .val (.int nn), .unset, .unset, .unset, .unset] [(.int (2147483647 : Int32)), (.int p2)])) _
  refine own_via (fun t k => XS.iand X2.here hx rfl (hb hby at_14) rfl k) ?_
  show own_Rch p.tables e below (T2.setTop (mkF m 15 #[.val (.int p1), .val (.int p2), .val (.int p3), .val (.ref ag), .val (.int nn), .unset, .unset, .unset, .unset] [(.int (p2 &&& (2147483647 : Int32)))])) _
  refine own_via (fun t k => XS.iload X2.here hx rfl (hb hby at_15) rfl k) ?_
  show own_Rch p.tables e below (T2.setTop (mkF m 17 #[.val (.int p1), .val (.int p2), .val (.int p3), .val (.ref ag), .val (.int nn), .unset, .unset, .unset, .unset] [(.int nn), (.int (p2 &&& (2147483647 : Int32)))])) _
  refine own_via (fun t k => iremM X2 hx rfl (hb hby at_17) rfl (own_nz nn hnn) k) ?_
  show own_Rch p.tables e below (T2.setTop (mkF m 18 #[.val (.int p1), .val (.int p2), .val (.int p3), .val (.ref ag), .val (.int nn), .unset, .unset, .unset, .unset] [(.int ((p2 &&& (2147483647 : Int32)) % nn))])) _
  obtain ⟨i5, hi5⟩ : ∃ z : Int32, z = ((p2 &&& (2147483647 : Int32)) % nn) := ⟨_, rfl⟩
  rw [← hi5]
  show own_Rch p.tables e below (T2.setTop (mkF m 18 #[.val (.int p1), .val (.int p2), .val (.int p3), .val (.ref ag), .val (.int nn), .unset, .unset, .unset, .unset] [(.int i5)])) _
  have hi5_ := hi5 ▸ own_md p2 nn hnn
  refine own_via (fun t k => XS.istore X2.here hx rfl (hb hby at_18) rfl (l' := #[.val (.int p1), .val (.int p2), .val (.int p3), .val (.ref ag), .val (.int nn), .val (.int i5), .unset, .unset, .unset]) rfl k) ?_
  show own_Rch p.tables e below (T2.setTop (mkF m 20 #[.val (.int p1), .val (.int p2), .val (.int p3), .val (.ref ag), .val (.int nn), .val (.int i5), .unset, .unset, .unset] [])) _
  refine own_via (fun t k => XS.iloadN X2.here hx rfl (hb hby at_20) rfl k) ?_
  show own_Rch p.tables e below (T2.setTop (mkF m 21 #[.val (.int p1), .val (.int p2), .val (.int p3), .val (.ref ag), .val (.int nn), .val (.int i5), .unset, .unset, .unset] [(.int p3)])) _
  refine own_via (X2.ldcInt hx hown (mvT hZ (hw _ (List.mem_of_getElem? (i := 4) rfl))) (g := (mkF m 21 #[.val (.int p1), .val (.int p2), .val (.int p3), .val (.ref ag), .val (.int nn), .val (.int i5), .unset, .unset, .unset] [(.int p3)])) rfl (hb hby at_21)) ?_
  show own_Rch p.tables e below (T2.setTop (mkF m 23 #[.val (.int p1), .val (.int p2), .val (.int p3), .val (.ref ag), .val (.int nn), .val (.int i5), .unset, .unset, .unset] [(.int (2147483647 : Int32)), (.int p3)])) _
  refine own_via (fun t k => XS.iand X2.here hx rfl (hb hby at_23) rfl k) ?_
  show own_Rch p.tables e below (T2.setTop (mkF m 24 #[.val (.int p1), .val (.int p2), .val (.int p3), .val (.ref ag), .val (.int nn), .val (.int i5), .unset, .unset, .unset] [(.int (p3 &&& (2147483647 : Int32)))])) _
  refine own_via (fun t k => XS.iload X2.here hx rfl (hb hby at_24) rfl k) ?_
  show own_Rch p.tables e below (T2.setTop (mkF m 26 #[.val (.int p1), .val (.int p2), .val (.int p3), .val (.ref ag), .val (.int nn), .val (.int i5), .unset, .unset, .unset] [(.int nn), (.int (p3 &&& (2147483647 : Int32)))])) _
  refine own_via (fun t k => iremM X2 hx rfl (hb hby at_26) rfl (own_nz nn hnn) k) ?_
  show own_Rch p.tables e below (T2.setTop (mkF m 27 #[.val (.int p1), .val (.int p2), .val (.int p3), .val (.ref ag), .val (.int nn), .val (.int i5), .unset, .unset, .unset] [(.int ((p3 &&& (2147483647 : Int32)) % nn))])) _
  obtain ⟨j6, hj6⟩ : ∃ z : Int32, z = ((p3 &&& (2147483647 : Int32)) % nn) := ⟨_, rfl⟩
  rw [← hj6]
  show own_Rch p.tables e below (T2.setTop (mkF m 27 #[.val (.int p1), .val (.int p2), .val (.int p3), .val (.ref ag), .val (.int nn), .val (.int i5), .unset, .unset, .unset] [(.int j6)])) _
  have hj6_ := hj6 ▸ own_md p3 nn hnn
  refine own_via (fun t k => XS.istore X2.here hx rfl (hb hby at_27) rfl (l' := #[.val (.int p1), .val (.int p2), .val (.int p3), .val (.ref ag), .val (.int nn), .val (.int i5), .val (.int j6), .unset, .unset]) rfl k) ?_
  show own_Rch p.tables e below (T2.setTop (mkF m 29 #[.val (.int p1), .val (.int p2), .val (.int p3), .val (.ref ag), .val (.int nn), .val (.int i5), .val (.int j6), .unset, .unset] [])) _
  obtain ⟨T3, h3, X3, e3, E3, A3, D3, -, st3⟩ := newO X2 hx hZ hown (hw _ (List.mem_of_getElem? (i := 27) rfl)) (hw _ (List.mem_of_getElem? (i := 28) rfl)) (hw _ (List.mem_of_getElem? (i := 29) rfl)) eh2 (g := (mkF m 29 #[.val (.int p1), .val (.int p2), .val (.int p3), .val (.ref ag), .val (.int nn), .val (.int i5), .val (.int j6), .unset, .unset] [])) rfl (hb hby at_29) (by decide) (by decide)
  obtain ⟨b3, g3⟩ : ∃ z, z = h0.size := ⟨_, rfl⟩
  rw [← g3] at A3 D3 st3
  have g_b3 : n0 ≤ b3 := Nat.le_trans Z0 (Nat.le_of_eq g3.symm)
  have F3_agency : Fld Z h3 b3 "com/example/tierline/tierline/model/Rating" "agency" "Lcom/example/tierline/tierline/model/RatingAgency;" .null := D3 (Or.inr (hw _ (List.mem_of_getElem? (i := 55) rfl))) (ty := (.object "com/example/tierline/tierline/model/RatingAgency")) (by decide)
  have F3_notch : Fld Z h3 b3 "com/example/tierline/tierline/model/Rating" "notch" "I" (.int (0 : Int32)) := D3 (Or.inr (hw _ (List.mem_of_getElem? (i := 57) rfl))) (ty := .int) (by decide)
  have O3 := O0.ext E3
  refine own_via st3 ?_
  show own_Rch p.tables e below (T3.setTop (mkF m 32 #[.val (.int p1), .val (.int p2), .val (.int p3), .val (.ref ag), .val (.int nn), .val (.int i5), .val (.int j6), .unset, .unset] [(.ref b3)])) _
  refine own_via (fun t k => XS.dup X3.here hx rfl (hb hby at_32) rfl rfl k) ?_
  show own_Rch p.tables e below (T3.setTop (mkF m 33 #[.val (.int p1), .val (.int p2), .val (.int p3), .val (.ref ag), .val (.int nn), .val (.int i5), .val (.int j6), .unset, .unset] [(.ref b3), (.ref b3)])) _
  refine own_via (fun t k => XS.aloadN X3.here hx rfl (hb hby at_33) rfl rfl k) ?_
  show own_Rch p.tables e below (T3.setTop (mkF m 34 #[.val (.int p1), .val (.int p2), .val (.int p3), .val (.ref ag), .val (.int nn), .val (.int i5), .val (.int j6), .unset, .unset] [(.ref ag), (.ref b3), (.ref b3)])) _
  refine own_via (fun t k => XS.iload X3.here hx rfl (hb hby at_34) rfl k) ?_
  show own_Rch p.tables e below (T3.setTop (mkF m 36 #[.val (.int p1), .val (.int p2), .val (.int p3), .val (.ref ag), .val (.int nn), .val (.int i5), .val (.int j6), .unset, .unset] [(.int i5), (.ref ag), (.ref b3), (.ref b3)])) _
  obtain ⟨_, _, ⟨T4, L4, k4, n4⟩, -, X4, Si4, gi4, ⟨Lc4, hQ4, l4, y4, z4⟩, st4⟩ := X3.specialBackS hx (y := (⟨"com/example/tierline/tierline/model/Rating", "<init>", "(Lcom/example/tierline/tierline/model/RatingAgency;I)V"⟩ : MethodName)) rfl hown (mvT hZ (hw _ (List.mem_of_getElem? (i := 30) rfl))) (mvT hZ (hw _ (List.mem_of_getElem? (i := 31) rfl))) (mvT hZ (hw _ (List.mem_of_getElem? (i := 32) rfl))) (by decide) (backOfS (W := 1) (rm1 l Z a0 hw [] b3 ag i5 lb el cl nn h3 n0 O3 g_b3 A3 F3_agency F3_notch E_ag F_l E_lb F_e A_el Sz Mz hi5_.1 hi5_.2) hZ (hw _ (List.mem_of_getElem? (i := 32) rfl)) (hw _ (List.mem_of_getElem? (i := 29) rfl)) (by decide) (by decide)) (g := (mkF m 36 #[.val (.int p1), .val (.int p2), .val (.int p3), .val (.ref ag), .val (.int nn), .val (.int i5), .val (.int j6), .unset, .unset] [(.int i5), (.ref ag), (.ref b3), (.ref b3)])) rfl (by rw [hml]; rfl) (Steps.refl _) (a := b3) (argsL := [(.ref ag), (.int i5)]) (rest := [(.ref b3)]) (lenOf pd_4 rfl) rfl (by show 2 * 0 + _ ≤ _; exact Nat.le_of_eq rfl) (hb hby at_36) (fun _ _ => ⟨rfl, e3, (by decide : 1 + 2 ≤ _), (by decide : 2 + 28 ≤ _)⟩)
  dsimp only [Pt.U, Pt.locs, Pt.cells, Pt.slots] at X4 l4 y4 z4 st4 hQ4 Si4 gi4
  subst l4 y4 z4
  obtain ⟨rfl, N4q, K4, E4_0, Fa4, Fn4⟩ := hQ4
  have N4 := Fr.app N2 N4q
  have Sj4 := foldS Si0 (by rw [e3]; exact (Nat.le_trans (Nat.le_refl _) E3.1)) Si4 gi4
  have hZ : Z.Warmed39 (s.setVm T4.vm).vm := State.Warmed39.trans (t := (s.setVm s.vm)) hZ Si4.1
  have hown : (s.setVm T4.vm).vm.findClass "com/example/tierline/tierline/model/RatingIsBelowPinLaw" = some m.cls := by rw [show (s.setVm T4.vm).vm = T4.vm from rfl, Si4.1.alike.findClass]; exact hown
  have X4 : Stand p l e room_1 (s.setVm T4.vm) m _ below meth c T4 _ _ _ := X4
  have O_K4 := O3.keep K4 (allS g_b3 all0)
  refine own_via (fun t k => st4.trans k) ?_
  show own_Rch p.tables e below (T4.setTop (mkF m 39 #[.val (.int p1), .val (.int p2), .val (.int p3), .val (.ref ag), .val (.int nn), .val (.int i5), .val (.int j6), .unset, .unset] [(.ref b3)])) _
  refine own_via (fun t k => XS.astore X4.here hx rfl (hb hby at_39) rfl rfl (l' := #[.val (.int p1), .val (.int p2), .val (.int p3), .val (.ref ag), .val (.int nn), .val (.int i5), .val (.int j6), .val (.ref b3), .unset]) rfl k) ?_
  show own_Rch p.tables e below (T4.setTop (mkF m 41 #[.val (.int p1), .val (.int p2), .val (.int p3), .val (.ref ag), .val (.int nn), .val (.int i5), .val (.int j6), .val (.ref b3), .unset] [])) _
  obtain ⟨T5, h5, X5, e5, E5, A5, D5, -, st5⟩ := newO X4 hx hZ hown (hw _ (List.mem_of_getElem? (i := 27) rfl)) (hw _ (List.mem_of_getElem? (i := 28) rfl)) (hw _ (List.mem_of_getElem? (i := 29) rfl)) rfl (g := (mkF m 41 #[.val (.int p1), .val (.int p2), .val (.int p3), .val (.ref ag), .val (.int nn), .val (.int i5), .val (.int j6), .val (.ref b3), .unset] [])) rfl (hb hby at_41) (by decide) (by decide)
  obtain ⟨b5, g5⟩ : ∃ z, z = T4.heap.size := ⟨_, rfl⟩
  rw [← g5] at A5 D5 st5
  have g_b5 : n0 ≤ b5 := Nat.le_trans (Nat.le_trans (Nat.le_trans Z0 E3.1) K4.1) (Nat.le_of_eq g5.symm)
  have F5_agency : Fld Z h5 b5 "com/example/tierline/tierline/model/Rating" "agency" "Lcom/example/tierline/tierline/model/RatingAgency;" .null := D5 (Or.inr (hw _ (List.mem_of_getElem? (i := 55) rfl))) (ty := (.object "com/example/tierline/tierline/model/RatingAgency")) (by decide)
  have F5_notch : Fld Z h5 b5 "com/example/tierline/tierline/model/Rating" "notch" "I" (.int (0 : Int32)) := D5 (Or.inr (hw _ (List.mem_of_getElem? (i := 57) rfl))) (ty := .int) (by decide)
  have O5 := O_K4.ext E5
  refine own_via st5 ?_
  show own_Rch p.tables e below (T5.setTop (mkF m 44 #[.val (.int p1), .val (.int p2), .val (.int p3), .val (.ref ag), .val (.int nn), .val (.int i5), .val (.int j6), .val (.ref b3), .unset] [(.ref b5)])) _
  refine own_via (fun t k => XS.dup X5.here hx rfl (hb hby at_44) rfl rfl k) ?_
  show own_Rch p.tables e below (T5.setTop (mkF m 45 #[.val (.int p1), .val (.int p2), .val (.int p3), .val (.ref ag), .val (.int nn), .val (.int i5), .val (.int j6), .val (.ref b3), .unset] [(.ref b5), (.ref b5)])) _
  refine own_via (fun t k => XS.aloadN X5.here hx rfl (hb hby at_45) rfl rfl k) ?_
  show own_Rch p.tables e below (T5.setTop (mkF m 46 #[.val (.int p1), .val (.int p2), .val (.int p3), .val (.ref ag), .val (.int nn), .val (.int i5), .val (.int j6), .val (.ref b3), .unset] [(.ref ag), (.ref b5), (.ref b5)])) _
  refine own_via (fun t k => XS.iload X5.here hx rfl (hb hby at_46) rfl k) ?_
  show own_Rch p.tables e below (T5.setTop (mkF m 48 #[.val (.int p1), .val (.int p2), .val (.int p3), .val (.ref ag), .val (.int nn), .val (.int i5), .val (.int j6), .val (.ref b3), .unset] [(.int j6), (.ref ag), (.ref b5), (.ref b5)])) _
  obtain ⟨_, _, ⟨T6, L6, k6, n6⟩, -, X6, Si6, gi6, ⟨Lc6, hQ6, l6, y6, z6⟩, st6⟩ := X5.specialBackS hx (y := (⟨"com/example/tierline/tierline/model/Rating", "<init>", "(Lcom/example/tierline/tierline/model/RatingAgency;I)V"⟩ : MethodName)) rfl hown (mvT hZ (hw _ (List.mem_of_getElem? (i := 30) rfl))) (mvT hZ (hw _ (List.mem_of_getElem? (i := 31) rfl))) (mvT hZ (hw _ (List.mem_of_getElem? (i := 32) rfl))) (by decide) (backOfS (W := 1) (rm1 l Z a0 hw [] b5 ag j6 lb el cl nn h5 n0 O5 g_b5 A5 F5_agency F5_notch E_ag F_l E_lb F_e A_el Sz Mz hj6_.1 hj6_.2) hZ (hw _ (List.mem_of_getElem? (i := 32) rfl)) (hw _ (List.mem_of_getElem? (i := 29) rfl)) (by decide) (by decide)) (g := (mkF m 48 #[.val (.int p1), .val (.int p2), .val (.int p3), .val (.ref ag), .val (.int nn), .val (.int i5), .val (.int j6), .val (.ref b3), .unset] [(.int j6), (.ref ag), (.ref b5), (.ref b5)])) rfl (by rw [hml]; rfl) (Steps.refl _) (a := b5) (argsL := [(.ref ag), (.int j6)]) (rest := [(.ref b5)]) (lenOf pd_4 rfl) rfl (by show 2 * 0 + _ ≤ _; exact Nat.le_of_eq rfl) (hb hby at_48) (fun _ _ => ⟨rfl, e5, (by decide : 4 + 2 ≤ _), (by decide : 32 + 28 ≤ _)⟩)
  dsimp only [Pt.U, Pt.locs, Pt.cells, Pt.slots] at X6 l6 y6 z6 st6 hQ6 Si6 gi6
  subst l6 y6 z6
  obtain ⟨rfl, N6q, K6, E6_0, Fa6, Fn6⟩ := hQ6
  have N6 := Fr.app N4 N6q
  have Sj6 := foldS Sj4 (by rw [e5]; exact (Nat.le_trans (Nat.le_refl _) E5.1)) Si6 gi6
  have hZ : Z.Warmed39 (s.setVm T6.vm).vm := State.Warmed39.trans (t := (s.setVm T4.vm)) hZ Si6.1
  have hown : (s.setVm T6.vm).vm.findClass "com/example/tierline/tierline/model/RatingIsBelowPinLaw" = some m.cls := by rw [show (s.setVm T6.vm).vm = T6.vm from rfl, Si6.1.alike.findClass]; exact hown
  have X6 : Stand p l e room_1 (s.setVm T6.vm) m _ below meth c T6 _ _ _ := X6
  have O_K6 := O5.keep K6 (allS g_b5 all0)
  refine own_via (fun t k => st6.trans k) ?_
  show own_Rch p.tables e below (T6.setTop (mkF m 51 #[.val (.int p1), .val (.int p2), .val (.int p3), .val (.ref ag), .val (.int nn), .val (.int i5), .val (.int j6), .val (.ref b3), .unset] [(.ref b5)])) _
  refine own_via (fun t k => XS.astore X6.here hx rfl (hb hby at_51) rfl rfl (l' := #[.val (.int p1), .val (.int p2), .val (.int p3), .val (.ref ag), .val (.int nn), .val (.int i5), .val (.int j6), .val (.ref b3), .val (.ref b5)]) rfl k) ?_
  show own_Rch p.tables e below (T6.setTop (mkF m 53 #[.val (.int p1), .val (.int p2), .val (.int p3), .val (.ref ag), .val (.int nn), .val (.int i5), .val (.int j6), .val (.ref b3), .val (.ref b5)] [])) _
  refine own_via (fun t k => XS.aload X6.here hx rfl (hb hby at_53) rfl rfl k) ?_
  show own_Rch p.tables e below (T6.setTop (mkF m 55 #[.val (.int p1), .val (.int p2), .val (.int p3), .val (.ref ag), .val (.int nn), .val (.int i5), .val (.int j6), .val (.ref b3), .val (.ref b5)] [(.ref b3)])) _
  refine own_via (fun t k => XS.aload X6.here hx rfl (hb hby at_55) rfl rfl k) ?_
  show own_Rch p.tables e below (T6.setTop (mkF m 57 #[.val (.int p1), .val (.int p2), .val (.int p3), .val (.ref ag), .val (.int nn), .val (.int i5), .val (.int j6), .val (.ref b3), .val (.ref b5)] [(.ref b5), (.ref b3)])) _
  obtain ⟨cq7, kq7, q7a, q7b, q7c⟩ := isOf hZ rfl ((E4_0.ext E5).keep K6)
  obtain ⟨_, _, ⟨T7, L7, k7, n7⟩, -, X7, ⟨Lc7, hQ7, l7, y7, z7⟩, st7⟩ := X6.virtualBack hx (y := (⟨"com/example/tierline/tierline/model/Rating", "isBelow", "(Lcom/example/tierline/tierline/model/Rating;)Z"⟩ : MethodName)) (z := (⟨"com/example/tierline/tierline/model/Rating", "isBelow", "(Lcom/example/tierline/tierline/model/Rating;)Z"⟩ : MethodName)) hown (mvT hZ (hw _ (List.mem_of_getElem? (i := 58) rfl))) (mvT hZ (hw _ (List.mem_of_getElem? (i := 59) rfl))) (notFace_of_selects (args := #[]) (mvT hZ (hw _ (List.mem_of_getElem? (i := 61) rfl)))) (mvT hZ (hw _ (List.mem_of_getElem? (i := 61) rfl))) (mvT hZ (hw _ (List.mem_of_getElem? (i := 60) rfl))) (by decide) (backOf (W := 0) (rmb l Z a0 hw [] b3 b5 ag i5 j6 T6.heap n0 ((Fa4.ext E5).keep K6 (ninS (Nat.ne_of_lt (Nat.lt_of_lt_of_le E4_0.lt (Nat.le_of_eq g5.symm))) nin0)) ((Fn4.ext E5).keep K6 (ninS (Nat.ne_of_lt (Nat.lt_of_lt_of_le E4_0.lt (Nat.le_of_eq g5.symm))) nin0)) Fa6 Fn6) hZ (hw _ (List.mem_of_getElem? (i := 62) rfl)) (hw _ (List.mem_of_getElem? (i := 29) rfl)) (by decide) (by decide)) q7a q7c (g := (mkF m 57 #[.val (.int p1), .val (.int p2), .val (.int p3), .val (.ref ag), .val (.int nn), .val (.int i5), .val (.int j6), .val (.ref b3), .val (.ref b5)] [(.ref b5), (.ref b3)])) rfl (by rw [hml]; rfl) (Steps.refl _) (argsL := [(.ref b5)]) (rest := []) (lenOf pd_5 rfl) rfl (by show 2 * 0 + _ ≤ _; exact Nat.le_of_eq rfl) (hb hby at_57) (fun _ _ => ⟨rfl, rfl, (by decide : 6 + 0 ≤ _), (by decide : 60 + 0 ≤ _)⟩)
  dsimp only [Pt.U, Pt.locs, Pt.cells, Pt.slots] at X7 l7 y7 z7 st7 hQ7
  subst l7 y7 z7
  obtain ⟨rfl, N7q, eh7⟩ := hQ7
  have N7 := Fr.app N6 N7q
  refine own_via (fun t k => st7.trans k) ?_
  show own_Rch p.tables e below (T7.setTop (mkF m 60 #[.val (.int p1), .val (.int p2), .val (.int p3), .val (.ref ag), .val (.int nn), .val (.int i5), .val (.int j6), .val (.ref b3), .val (.ref b5)] [(.int (own_b i5 j6))])) _
  refine own_via (fun t k => XS.iload X7.here hx rfl (hb hby at_60) rfl k) ?_
  show own_Rch p.tables e below (T7.setTop (mkF m 62 #[.val (.int p1), .val (.int p2), .val (.int p3), .val (.ref ag), .val (.int nn), .val (.int i5), .val (.int j6), .val (.ref b3), .val (.ref b5)] [(.int i5), (.int (own_b i5 j6))])) _
  refine own_via (fun t k => XS.iload X7.here hx rfl (hb hby at_62) rfl k) ?_
  show own_Rch p.tables e below (T7.setTop (mkF m 64 #[.val (.int p1), .val (.int p2), .val (.int p3), .val (.ref ag), .val (.int nn), .val (.int i5), .val (.int j6), .val (.ref b3), .val (.ref b5)] [(.int j6), (.int i5), (.int (own_b i5 j6))])) _
  by_cases c64 : j6 < i5
  · refine own_via (fun t k => XS.icmpNo X7.here hx rfl (hb hby at_64) rfl (tlt c64).2.2.2 k) ?_
    show own_Rch p.tables e below (T7.setTop (mkF m 67 #[.val (.int p1), .val (.int p2), .val (.int p3), .val (.ref ag), .val (.int nn), .val (.int i5), .val (.int j6), .val (.ref b3), .val (.ref b5)] [(.int (own_b i5 j6))])) _
    refine own_via (fun t k => XS.iconst X7.here hx rfl (hb hby at_67) k) ?_
    show own_Rch p.tables e below (T7.setTop (mkF m 68 #[.val (.int p1), .val (.int p2), .val (.int p3), .val (.ref ag), .val (.int nn), .val (.int i5), .val (.int j6), .val (.ref b3), .val (.ref b5)] [(.int (1 : Int32)), (.int (own_b i5 j6))])) _
    refine own_via (fun t k => XS.goto X7.here hx rfl (pc0 := 68) (pc' := 72) rfl (hb hby at_68) (by decide) (by decide) k) ?_
    show own_Rch p.tables e below (T7.setTop (mkF m 72 #[.val (.int p1), .val (.int p2), .val (.int p3), .val (.ref ag), .val (.int nn), .val (.int i5), .val (.int j6), .val (.ref b3), .val (.ref b5)] [(.int (1 : Int32)), (.int (own_b i5 j6))])) _
    have hq : (own_b i5 j6) = (1 : Int32) := if_pos c64
    refine own_via (fun t k => XS.icmpNo X7.here hx rfl (hb hby at_72) rfl (teq hq).2 k) ?_
    show own_Rch p.tables e below (T7.setTop (mkF m 75 #[.val (.int p1), .val (.int p2), .val (.int p3), .val (.ref ag), .val (.int nn), .val (.int i5), .val (.int j6), .val (.ref b3), .val (.ref b5)] [])) _
    refine own_via (fun t k => XS.iconst X7.here hx rfl (hb hby at_75) k) ?_
    show own_Rch p.tables e below (T7.setTop (mkF m 76 #[.val (.int p1), .val (.int p2), .val (.int p3), .val (.ref ag), .val (.int nn), .val (.int i5), .val (.int j6), .val (.ref b3), .val (.ref b5)] [(.int (1 : Int32))])) _
    refine own_via (fun t k => XS.goto X7.here hx rfl (pc0 := 76) (pc' := 80) rfl (hb hby at_76) (by decide) (by decide) k) ?_
    show own_Rch p.tables e below (T7.setTop (mkF m 80 #[.val (.int p1), .val (.int p2), .val (.int p3), .val (.ref ag), .val (.int nn), .val (.int i5), .val (.int j6), .val (.ref b3), .val (.ref b5)] [(.int (1 : Int32))])) _
    exact own_finW X7 Sj6 (by rw [eh7]; exact (Nat.le_refl _)) hx (t := .boolean) (i := .ireturn) Bd.returns Bd.notSynchronized rfl (Or.inl ⟨rfl, by simp, _, rfl⟩) (hb hby at_80) (by decide) (by decide) ⟨rfl, N7⟩
  · refine own_via (fun t k => XS.icmpYes X7.here hx rfl (pc0 := 64) (pc' := 71) rfl (hb hby at_64) rfl (flt c64).2.2.2 (by decide) (by decide) k) ?_
    show own_Rch p.tables e below (T7.setTop (mkF m 71 #[.val (.int p1), .val (.int p2), .val (.int p3), .val (.ref ag), .val (.int nn), .val (.int i5), .val (.int j6), .val (.ref b3), .val (.ref b5)] [(.int (own_b i5 j6))])) _
    refine own_via (fun t k => XS.iconst X7.here hx rfl (hb hby at_71) k) ?_
    show own_Rch p.tables e below (T7.setTop (mkF m 72 #[.val (.int p1), .val (.int p2), .val (.int p3), .val (.ref ag), .val (.int nn), .val (.int i5), .val (.int j6), .val (.ref b3), .val (.ref b5)] [(.int (0 : Int32)), (.int (own_b i5 j6))])) _
    have hq : (own_b i5 j6) = (0 : Int32) := if_neg c64
    refine own_via (fun t k => XS.icmpNo X7.here hx rfl (hb hby at_72) rfl (teq hq).2 k) ?_
    show own_Rch p.tables e below (T7.setTop (mkF m 75 #[.val (.int p1), .val (.int p2), .val (.int p3), .val (.ref ag), .val (.int nn), .val (.int i5), .val (.int j6), .val (.ref b3), .val (.ref b5)] [])) _
    refine own_via (fun t k => XS.iconst X7.here hx rfl (hb hby at_75) k) ?_
    show own_Rch p.tables e below (T7.setTop (mkF m 76 #[.val (.int p1), .val (.int p2), .val (.int p3), .val (.ref ag), .val (.int nn), .val (.int i5), .val (.int j6), .val (.ref b3), .val (.ref b5)] [(.int (1 : Int32))])) _
    refine own_via (fun t k => XS.goto X7.here hx rfl (pc0 := 76) (pc' := 80) rfl (hb hby at_76) (by decide) (by decide) k) ?_
    show own_Rch p.tables e below (T7.setTop (mkF m 80 #[.val (.int p1), .val (.int p2), .val (.int p3), .val (.ref ag), .val (.int nn), .val (.int i5), .val (.int j6), .val (.ref b3), .val (.ref b5)] [(.int (1 : Int32))])) _
    exact own_finW X7 Sj6 (by rw [eh7]; exact (Nat.le_refl _)) hx (t := .boolean) (i := .ireturn) Bd.returns Bd.notSynchronized rfl (Or.inl ⟨rfl, by simp, _, rfl⟩) (hb hby at_80) (by decide) (by decide) ⟨rfl, N7⟩
set_option maxRecDepth 65536 in
set_option maxHeartbeats 40000000 in
theorem comes_1 {Post : Tables → Env → Array Value → State → Outcome → State → Prop} (hpost : ∀ tb e args s v u, (limb_1_1.after args s (.returned v) u = true ∧ limb_1_2.after args s (.returned v) u = true ∧ True) → own_FE s (.returned v) u (Jvm.fieldLocs frame_1_writes args s ++ Jvm.arrayLocs frame_1_arrays args s ++ Jvm.staticLocs frame_1_statics s) 16 1152 → Post tb e args s (.returned v) u) :
    ArmFor flags0 classFile x code maxLocals ret World_1 tables_1 room_1 Calls_1 rest_1 Pre_1 Post := by
  intro l hfl _ _ p e ha hc hk s m args below hf hA hF happ hP
  obtain ⟨hcalls, hrest, hpre⟩ := hP
  obtain ⟨-, -, -, hnamed, -, -, -, hat⟩ := (Spec.applies_iff hf).mp happ
  obtain ⟨hg, hn⟩ := and_e (Cond.before_iff.mp (show (Jvm.Cond.and given_1 narrow_1).before args s = true from hpre))
  obtain ⟨hcount, r0⟩ := and_e hg
  obtain ⟨v0, r1⟩ := and_e r0
  obtain ⟨v1, r2⟩ := and_e r1
  obtain ⟨w0, w1, w2, rfl⟩ : ∃ w0 w1 w2 : Value, args = #[w0, w1, w2] := by
    have hs : args.size = 3 := by simpa [Cond.value, given_1] using hcount
    obtain ⟨L⟩ := args
    match L, hs with
    | [w0, w1, w2], _ => exact ⟨w0, w1, w2, rfl⟩
  have hw := fun d (hd : d ∈ tables_1) => atoms_spec (ws := Jvm.Cond.code x code maxLocals ret :: tables_1) hat d (List.mem_cons_of_mem _ hd)
  have hfit : Fit s := fun {y c} hc i hi => by
    obtain ⟨ha, rfl⟩ := Array.getElem?_eq_some_iff.mp hc
    have q := List.all_eq_true.mp ((Array.all_eq_true_iff_forall_mem.mp hF) _ (Array.getElem_mem ha)) i (List.mem_range.mpr hi)
    simpa [Array.getElem?_eq_getElem hi] using q
  obtain ⟨i0, ei0⟩ := is_v v0
  obtain rfl : w0 = (.int i0) := Option.some.inj ei0
  obtain ⟨i1, ei1⟩ := is_v v1
  obtain rfl : w1 = (.int i1) := Option.some.inj ei1
  obtain ⟨i2, ei2⟩ := is_v r2
  obtain rfl : w2 = (.int i2) := Option.some.inj ei2
  obtain ⟨n1, r⟩ := and_e hn
  obtain ⟨n2, r⟩ := and_e r
  obtain ⟨n3, r⟩ := and_e r
  obtain ⟨n4, r⟩ := and_e r
  obtain ⟨n5, r⟩ := and_e r
  obtain ⟨n6, r⟩ := and_e r
  obtain ⟨n7, r⟩ := and_e r
  obtain ⟨n8, r⟩ := and_e r
  obtain ⟨n9, n10⟩ := and_e r
  obtain ⟨aS, evS⟩ := exa_v n1
  obtain ⟨lS, elS⟩ := exa_v n2
  obtain ⟨eS, eeS⟩ := arr_v n3
  obtain ⟨cS, AS⟩ := Arr.start eeS n3
  have agS : own_Ag s s.heap aS (22 : Int32) := ⟨Exa.start evS n1, lS, eS, cS, Fld.start ((fld_at evS).symm.trans elS), Exa.start elS n2, Fld.start ((fld_at elS).symm.trans eeS), AS, own_len (own_eqI n4) eeS (IntBox.arrayAt_of AS.1 AS.2.1 AS.2.2), by decide⟩
  obtain ⟨aM, evM⟩ := exa_v n5
  obtain ⟨lM, elM⟩ := exa_v n6
  obtain ⟨eM, eeM⟩ := arr_v n7
  obtain ⟨cM, AM⟩ := Arr.start eeM n7
  have agM : own_Ag s s.heap aM (21 : Int32) := ⟨Exa.start evM n5, lM, eM, cM, Fld.start ((fld_at evM).symm.trans elM), Exa.start elM n6, Fld.start ((fld_at elM).symm.trans eeM), AM, own_len (own_eqI n8) eeM (IntBox.arrayAt_of AM.1 AM.2.1 AM.2.2), by decide⟩
  obtain ⟨aF, evF⟩ := exa_v n9
  have agF : own_Ag s s.heap aF (22 : Int32) := by
    obtain ⟨_, q2⟩ := agS
    exact ⟨Exa.start evF n9, lS, eS, cS, Fld.start ((fld_at evF).symm.trans (own_eqT n10 elS)), Exa.start elS n2, Fld.start ((fld_at elS).symm.trans eeS), AS, own_len (own_eqI n4) eeS (IntBox.arrayAt_of AS.1 AS.2.1 AS.2.2), by decide⟩
  have sS := Sta.start evS (Or.inr ⟨hw _ (List.mem_of_getElem? (i := 6) rfl), hw _ (List.mem_of_getElem? (i := 7) rfl)⟩)
  have sM := Sta.start evM (Or.inr ⟨hw _ (List.mem_of_getElem? (i := 6) rfl), hw _ (List.mem_of_getElem? (i := 64) rfl)⟩)
  have sF := Sta.start evF (Or.inr ⟨hw _ (List.mem_of_getElem? (i := 6) rfl), hw _ (List.mem_of_getElem? (i := 66) rfl)⟩)
  obtain ⟨n, o, h1, h2, h3, _, L, rfl, ⟨rfl, N⟩, hq⟩ := rm0 l s _ hw tables_1 i0 i1 i2 aS aM aF s.heap s.heap.size (Nat.le_refl _) (Old.start s) sS agS sM agM sF agF p e ha hc hk s m _ below hf ((Spec.applies_iff_loose hf).mp happ).1 ⟨rfl, State.Warmed39.refl s, rfl⟩ trivial
  refine ⟨n, _, h1, h2, h3, hpost _ _ _ _ _ _ ⟨Cond.after_iff.mpr rfl, Cond.after_iff.mpr (eq_i res_at (Term.int_eval (1)) rfl), trivial⟩ (own_FE_of hq N)⟩
theorem main_1_1 : Claimed_1_1 := comes_1 fun _ _ _ _ _ _ h hF => ⟨h.1, hF⟩
theorem main_1_2 : Claimed_1_2 := comes_1 fun _ _ _ _ _ _ h hF => ⟨h.2.1, hF⟩
end Jvm.Pilot.@@N@@
namespace Jvm.Pilot.@@N@@
open Jvm Jvm.ClassFile Sem Op Lib Jvm.Free Jvm.Stand Jvm.Pilot.@@N@@.Jvm.D
/-! MADE BY PROGRAM (witnessworld.py) out of the Statement's table words and the real class files: 28 classes; the members and pool entries that the words name. The judged class is class 1, her method 2. -/
namespace start1
open Jvm.ClassFile
def u (s : String) : CpInfo := .utf8 (stringToUtf16 s)
/-- a pool by its gaps: so many unusable entries, then the entry; so many at the end -/
def gap : Nat → List CpInfo → List CpInfo
  | 0, r => r
  | n + 1, r => .unusable :: gap n r
def poolList (es : List (Nat × CpInfo)) (last : Nat) : List CpInfo := es.foldr (fun e r => gap e.1 (e.2 :: r)) (gap last [])
def pool (es : List (Nat × CpInfo)) (last : Nat) : Array CpInfo := ⟨poolList es last⟩
def fileOf (pool : Array CpInfo) (this : Nat) (attrs : Array Attribute := #[]) (ms : Array MethodInfo := #[]) (fl : Nat := 33) (sup : Nat := 0) (ifs : Array Nat := #[]) (fds : Array FieldInfo := #[]) : ClassFile where
  minorVersion := 0
  majorVersion := 65
  constantPool := pool
  accessFlags := fl
  thisClass := this
  superClass := sup
  interfaces := ifs
  fields := fds
  methods := ms
  attributes := attrs
def plain (name : String) (sup : Option ClassId) : Class where
  name := name
  kind := .ordinary
  loader := none
  accessFlags := 33
  super := sup
  interfaces := #[]
  cf := none
  fields := #[]
  methods := #[]
  instanceTypes := #[]
  staticTypes := #[]
  resolved := #[]
  callSites := []
  init := .initialized
  statics := none
  mirror := none

def pool0 : Array CpInfo := pool [(5, u "<init>"), (0, u "()V"), (1, .class_ 10), (1, u "java/lang/Object")] 113

def k0c0 : Code := { maxStack := 0, maxLocals := 1, code := object_method_1_code, exceptionTable := #[], attributes := #[] }
def k0m0 : Method := { name := "<init>", desc := "()V", sig := { parameters := [], returnType := none }, accessFlags := 1, code := some k0c0 }
/-- java/lang/Object -/
def k0 : Class := { plain "java/lang/Object" none with
  accessFlags := 33
  interfaces := #[]
  cf := some (fileOf pool0 8 #[] #[{ accessFlags := 1, nameIndex := 5, descriptorIndex := 6, attributes := #[] }] 33 0 #[] #[])
  fields := #[]
  methods := #[k0m0]
  instanceTypes := #[]
  staticTypes := #[]
  resolved := Array.replicate 124 none
  statics := none }

def pool1 : Array CpInfo := pool [(2, .class_ 4), (1, u "java/lang/Object"), (0, u "<init>"), (0, u "()V"), (0, .integer 2147483647), (0, .fieldref 9 10), (0, .class_ 11), (0, .nameAndType 12 13), (0, u "com/example/tierline/tierline/model/RatingAgency"), (0, u "SP"), (0, u "Lcom/example/tierline/tierline/model/RatingAgency;"), (0, .fieldref 9 15), (0, .nameAndType 16 13), (0, u "MOODYS"), (0, .fieldref 9 18), (0, .nameAndType 19 13), (0, u "FITCH"), (0, .methodref 21 22), (0, .class_ 23), (0, .nameAndType 24 25), (0, u "com/example/tierline/tierline/model/RatingIsBelowPinLaw"), (0, u "pick"), (0, u "(I)Lcom/example/tierline/tierline/model/RatingAgency;"), (0, .methodref 9 27), (0, .nameAndType 28 29), (0, u "notches"), (0, u "()I"), (0, .class_ 31), (0, u "com/example/tierline/tierline/model/Rating"), (0, .methodref 30 33), (0, .nameAndType 5 34), (0, u "(Lcom/example/tierline/tierline/model/RatingAgency;I)V"), (0, .methodref 30 36), (0, .nameAndType 37 38), (0, u "isBelow"), (0, u "(Lcom/example/tierline/tierline/model/Rating;)Z"), (3, u "law"), (0, u "(III)Z")] 2

def k1m0 : Method := { name := "<init>", desc := "()V", sig := { parameters := [], returnType := none }, accessFlags := 2, code := none }
def k1c1 : Code := { maxStack := 2, maxLocals := 2, code := method_2_code, exceptionTable := #[], attributes := #[] }
def k1m1 : Method := { name := "pick", desc := "(I)Lcom/example/tierline/tierline/model/RatingAgency;", sig := { parameters := [.int], returnType := some (.object "com/example/tierline/tierline/model/RatingAgency") }, accessFlags := 10, code := some k1c1 }
def k1c2 : Code := { maxStack := 4, maxLocals := 9, code := code, exceptionTable := #[], attributes := #[] }
def k1m2 : Method := { name := "law", desc := "(III)Z", sig := { parameters := [.int, .int, .int], returnType := some .boolean }, accessFlags := 9, code := some k1c2 }
/-- com/example/tierline/tierline/model/RatingIsBelowPinLaw -/
def k1 : Class := { plain "com/example/tierline/tierline/model/RatingIsBelowPinLaw" (some 0) with
  accessFlags := 49
  interfaces := #[]
  cf := some (fileOf pool1 21 #[] #[{ accessFlags := 2, nameIndex := 5, descriptorIndex := 6, attributes := #[] }, { accessFlags := 10, nameIndex := 24, descriptorIndex := 25, attributes := #[] }, { accessFlags := 9, nameIndex := 42, descriptorIndex := 43, attributes := #[] }] 49 2 #[] #[])
  fields := #[]
  methods := #[k1m0, k1m1, k1m2]
  instanceTypes := #[]
  staticTypes := #[]
  resolved := Array.replicate 46 none
  statics := none }

def pool2 : Array CpInfo := pool [(1, .class_ 2), (0, u "java/lang/constant/Constable"), (0, .class_ 4), (0, u "java/lang/Object")] 6

/-- java/lang/constant/Constable -/
def k2 : Class := { plain "java/lang/constant/Constable" (some 0) with
  accessFlags := 1537
  interfaces := #[]
  cf := some (fileOf pool2 1 #[] #[] 1537 3 #[] #[])
  fields := #[]
  methods := #[]
  instanceTypes := #[]
  staticTypes := #[]
  resolved := Array.replicate 11 none
  statics := none }

def pool3 : Array CpInfo := pool [(1, .class_ 2), (0, u "java/lang/Comparable"), (0, .class_ 4), (0, u "java/lang/Object")] 7

/-- java/lang/Comparable -/
def k3 : Class := { plain "java/lang/Comparable" (some 0) with
  accessFlags := 1537
  interfaces := #[]
  cf := some (fileOf pool3 1 #[] #[] 1537 3 #[] #[])
  fields := #[]
  methods := #[]
  instanceTypes := #[]
  staticTypes := #[]
  resolved := Array.replicate 12 none
  statics := none }

def pool4 : Array CpInfo := pool [(1, .class_ 2), (0, u "java/io/Serializable"), (0, .class_ 4), (0, u "java/lang/Object")] 2

/-- java/io/Serializable -/
def k4 : Class := { plain "java/io/Serializable" (some 0) with
  accessFlags := 1537
  interfaces := #[]
  cf := some (fileOf pool4 1 #[] #[] 1537 3 #[] #[])
  fields := #[]
  methods := #[]
  instanceTypes := #[]
  staticTypes := #[]
  resolved := Array.replicate 7 none
  statics := none }

def pool5 : Array CpInfo := pool [(2, .class_ 4), (1, u "java/lang/Enum"), (0, u "name"), (0, u "Ljava/lang/String;"), (2, u "ordinal"), (0, u "I"), (1, .class_ 14), (1, u "java/lang/Object"), (4, u "hash"), (86, .class_ 108), (1, u "java/lang/Enum$EnumDesc"), (2, .class_ 112), (0, u "java/lang/constant/Constable"), (0, .class_ 114), (0, u "java/lang/Comparable"), (0, .class_ 116), (0, u "java/io/Serializable")] 87

/-- java/lang/Enum -/
def k5 : Class := { plain "java/lang/Enum" (some 0) with
  accessFlags := 1057
  interfaces := #[2, 3, 4]
  cf := some (fileOf pool5 2 #[.nestMembers #[106]] #[] 1057 12 #[111, 113, 115] #[{ accessFlags := 18, nameIndex := 5, descriptorIndex := 6, attributes := #[] }, { accessFlags := 18, nameIndex := 9, descriptorIndex := 10, attributes := #[] }, { accessFlags := 2, nameIndex := 19, descriptorIndex := 10, attributes := #[] }])
  fields := #[{ name := "name", type := (.object "java/lang/String"), accessFlags := 18, slot := 0, constantValue := 0 }, { name := "ordinal", type := .int, accessFlags := 18, slot := 1, constantValue := 0 }, { name := "hash", type := .int, accessFlags := 2, slot := 2, constantValue := 0 }]
  methods := #[]
  instanceTypes := #[(.object "java/lang/String"), .int, .int]
  staticTypes := #[]
  resolved := Array.replicate 204 none
  statics := none }

def pool6 : Array CpInfo := pool [(1, .class_ 2), (0, u "com/example/tierline/tierline/model/RatingAgency"), (2, u "SP"), (0, u "Lcom/example/tierline/tierline/model/RatingAgency;"), (2, u "MOODYS"), (2, u "FITCH"), (2, u "$VALUES"), (0, u "[Lcom/example/tierline/tierline/model/RatingAgency;"), (6, .class_ 25), (1, u "java/lang/Enum"), (8, u "key"), (0, u "Ljava/lang/String;"), (0, .fieldref 1 37), (0, .nameAndType 38 39), (0, u "labels"), (0, u "Ljava/util/List;"), (0, .interfaceMethodref 41 42), (0, .class_ 43), (0, .nameAndType 44 45), (0, u "java/util/List"), (0, u "size"), (0, u "()I"), (35, .class_ 83), (1, u "com/example/tierline/tierline/model/RatingAgency$LetterScale"), (78, u "KEYS"), (12, u "notches")] 35

def k6c0 : Code := { maxStack := 1, maxLocals := 1, code := prog_86_method_7_code, exceptionTable := #[], attributes := #[] }
def k6m0 : Method := { name := "notches", desc := "()I", sig := { parameters := [], returnType := some .int }, accessFlags := 0, code := some k6c0 }
/-- com/example/tierline/tierline/model/RatingAgency -/
def k6 : Class := { plain "com/example/tierline/tierline/model/RatingAgency" (some 5) with
  accessFlags := 16433
  interfaces := #[]
  cf := some (fileOf pool6 1 #[.nestMembers #[81]] #[{ accessFlags := 0, nameIndex := 175, descriptorIndex := 45, attributes := #[] }] 16433 23 #[] #[{ accessFlags := 16409, nameIndex := 5, descriptorIndex := 6, attributes := #[] }, { accessFlags := 16409, nameIndex := 9, descriptorIndex := 6, attributes := #[] }, { accessFlags := 16409, nameIndex := 12, descriptorIndex := 6, attributes := #[] }, { accessFlags := 25, nameIndex := 162, descriptorIndex := 39, attributes := #[] }, { accessFlags := 18, nameIndex := 34, descriptorIndex := 35, attributes := #[] }, { accessFlags := 18, nameIndex := 38, descriptorIndex := 39, attributes := #[] }, { accessFlags := 4122, nameIndex := 15, descriptorIndex := 16, attributes := #[] }])
  fields := #[{ name := "SP", type := (.object "com/example/tierline/tierline/model/RatingAgency"), accessFlags := 16409, slot := 0, constantValue := 0 }, { name := "MOODYS", type := (.object "com/example/tierline/tierline/model/RatingAgency"), accessFlags := 16409, slot := 1, constantValue := 0 }, { name := "FITCH", type := (.object "com/example/tierline/tierline/model/RatingAgency"), accessFlags := 16409, slot := 2, constantValue := 0 }, { name := "KEYS", type := (.object "java/util/List"), accessFlags := 25, slot := 3, constantValue := 0 }, { name := "key", type := (.object "java/lang/String"), accessFlags := 18, slot := 3, constantValue := 0 }, { name := "labels", type := (.object "java/util/List"), accessFlags := 18, slot := 4, constantValue := 0 }, { name := "$VALUES", type := (.array (.object "com/example/tierline/tierline/model/RatingAgency")), accessFlags := 4122, slot := 4, constantValue := 0 }]
  methods := #[k6m0]
  instanceTypes := #[(.object "java/lang/String"), .int, .int, (.object "java/lang/String"), (.object "java/util/List")]
  staticTypes := #[(.object "com/example/tierline/tierline/model/RatingAgency"), (.object "com/example/tierline/tierline/model/RatingAgency"), (.object "com/example/tierline/tierline/model/RatingAgency"), (.object "java/util/List"), (.array (.object "com/example/tierline/tierline/model/RatingAgency"))]
  resolved := Array.replicate 211 none
  statics := some 0 }

def pool7 : Array CpInfo := pool [(8, .class_ 10), (1, u "java/lang/Iterable"), (24, .class_ 36), (0, u "java/lang/Object")] 25

/-- java/lang/Iterable -/
def k7 : Class := { plain "java/lang/Iterable" (some 0) with
  accessFlags := 1537
  interfaces := #[]
  cf := some (fileOf pool7 8 #[] #[] 1537 35 #[] #[])
  fields := #[]
  methods := #[]
  instanceTypes := #[]
  staticTypes := #[]
  resolved := Array.replicate 62 none
  statics := none }

def pool8 : Array CpInfo := pool [(10, .class_ 12), (1, u "java/util/Collection"), (47, .class_ 61), (0, u "java/lang/Object"), (0, .class_ 63), (0, u "java/lang/Iterable")] 51

/-- java/util/Collection -/
def k8 : Class := { plain "java/util/Collection" (some 0) with
  accessFlags := 1537
  interfaces := #[7]
  cf := some (fileOf pool8 10 #[] #[] 1537 60 #[62] #[])
  fields := #[]
  methods := #[]
  instanceTypes := #[]
  staticTypes := #[]
  resolved := Array.replicate 115 none
  statics := none }

def pool9 : Array CpInfo := pool [(8, .class_ 10), (1, u "java/util/SequencedCollection"), (15, .class_ 27), (0, u "java/lang/Object"), (0, .class_ 29), (0, u "java/util/Collection")] 27

/-- java/util/SequencedCollection -/
def k9 : Class := { plain "java/util/SequencedCollection" (some 0) with
  accessFlags := 1537
  interfaces := #[8]
  cf := some (fileOf pool9 8 #[] #[] 1537 26 #[28] #[])
  fields := #[]
  methods := #[]
  instanceTypes := #[]
  staticTypes := #[]
  resolved := Array.replicate 57 none
  statics := none }

def pool10 : Array CpInfo := pool [(8, .class_ 10), (1, u "java/util/List"), (68, u "size"), (0, u "()I"), (22, .class_ 104), (0, u "java/lang/Object"), (15, .class_ 121), (0, u "java/util/SequencedCollection")] 129

def k10m0 : Method := { name := "size", desc := "()I", sig := { parameters := [], returnType := some .int }, accessFlags := 1025, code := none }
/-- java/util/List -/
def k10 : Class := { plain "java/util/List" (some 0) with
  accessFlags := 1537
  interfaces := #[9]
  cf := some (fileOf pool10 8 #[] #[{ accessFlags := 1025, nameIndex := 79, descriptorIndex := 80, attributes := #[] }] 1537 103 #[120] #[])
  fields := #[]
  methods := #[k10m0]
  instanceTypes := #[]
  staticTypes := #[]
  resolved := Array.replicate 251 none
  statics := none }

def pool11 : Array CpInfo := pool [(2, .class_ 4), (1, u "java/lang/Object"), (0, u "<init>"), (0, u "()V"), (1, .class_ 10), (1, u "java/util/AbstractCollection"), (66, .class_ 78), (0, u "java/util/Collection")] 81

def k11m0 : Method := { name := "<init>", desc := "()V", sig := { parameters := [], returnType := none }, accessFlags := 4, code := none }
/-- java/util/AbstractCollection -/
def k11 : Class := { plain "java/util/AbstractCollection" (some 0) with
  accessFlags := 1057
  interfaces := #[8]
  cf := some (fileOf pool11 8 #[] #[{ accessFlags := 4, nameIndex := 5, descriptorIndex := 6, attributes := #[] }] 1057 2 #[77] #[])
  fields := #[]
  methods := #[k11m0]
  instanceTypes := #[]
  staticTypes := #[]
  resolved := Array.replicate 160 none
  statics := none }

def pool12 : Array CpInfo := pool [(2, .class_ 4), (1, u "java/util/AbstractCollection"), (0, u "<init>"), (0, u "()V"), (1, .class_ 10), (1, u "java/util/ImmutableCollections"), (2, .class_ 14), (0, u "java/util/ImmutableCollections$AbstractImmutableCollection")] 41

def k12m0 : Method := { name := "<init>", desc := "()V", sig := { parameters := [], returnType := none }, accessFlags := 0, code := none }
/-- java/util/ImmutableCollections$AbstractImmutableCollection -/
def k12 : Class := { plain "java/util/ImmutableCollections$AbstractImmutableCollection" (some 11) with
  accessFlags := 1056
  interfaces := #[]
  cf := some (fileOf pool12 13 #[.nestHost 8] #[{ accessFlags := 0, nameIndex := 5, descriptorIndex := 6, attributes := #[] }] 1056 2 #[] #[])
  fields := #[]
  methods := #[k12m0]
  instanceTypes := #[]
  staticTypes := #[]
  resolved := Array.replicate 56 none
  statics := none }

def pool13 : Array CpInfo := pool [(1, .class_ 2), (0, u "java/util/RandomAccess"), (0, .class_ 4), (0, u "java/lang/Object")] 2

/-- java/util/RandomAccess -/
def k13 : Class := { plain "java/util/RandomAccess" (some 0) with
  accessFlags := 1537
  interfaces := #[]
  cf := some (fileOf pool13 1 #[] #[] 1537 3 #[] #[])
  fields := #[]
  methods := #[]
  instanceTypes := #[]
  staticTypes := #[]
  resolved := Array.replicate 7 none
  statics := none }

def pool14 : Array CpInfo := pool [(2, .class_ 4), (1, u "java/util/ImmutableCollections$AbstractImmutableCollection"), (0, u "<init>"), (0, u "()V"), (1, .class_ 10), (1, u "java/util/ImmutableCollections"), (3, .class_ 16), (1, u "java/util/ImmutableCollections$AbstractImmutableList"), (60, .class_ 78), (0, u "java/util/List"), (45, .class_ 125), (0, u "java/util/RandomAccess")] 70

def k14m0 : Method := { name := "<init>", desc := "()V", sig := { parameters := [], returnType := none }, accessFlags := 0, code := none }
/-- java/util/ImmutableCollections$AbstractImmutableList -/
def k14 : Class := { plain "java/util/ImmutableCollections$AbstractImmutableList" (some 12) with
  accessFlags := 1056
  interfaces := #[10, 13]
  cf := some (fileOf pool14 14 #[.nestHost 8] #[{ accessFlags := 0, nameIndex := 5, descriptorIndex := 6, attributes := #[] }] 1056 2 #[77, 124] #[])
  fields := #[]
  methods := #[k14m0]
  instanceTypes := #[]
  staticTypes := #[]
  resolved := Array.replicate 196 none
  statics := none }

def pool15 : Array CpInfo := pool [(2, .class_ 4), (1, u "java/util/ImmutableCollections$AbstractImmutableList"), (2, .fieldref 8 9), (0, .class_ 10), (0, .nameAndType 11 12), (0, u "java/util/ImmutableCollections$ListN"), (0, u "elements"), (0, u "[Ljava/lang/Object;"), (2, u "allowNulls"), (0, u "Z"), (42, .class_ 60), (0, u "java/io/Serializable"), (16, u "size"), (0, u "()I"), (35, .class_ 115), (0, u "java/util/ImmutableCollections")] 3

def k15c0 : Code := { maxStack := 1, maxLocals := 1, code := jdk_45_method_3_code, exceptionTable := #[], attributes := #[] }
def k15m0 : Method := { name := "size", desc := "()I", sig := { parameters := [], returnType := some .int }, accessFlags := 1, code := some k15c0 }
/-- java/util/ImmutableCollections$ListN -/
def k15 : Class := { plain "java/util/ImmutableCollections$ListN" (some 14) with
  accessFlags := 48
  interfaces := #[4]
  cf := some (fileOf pool15 8 #[.nestHost 114] #[{ accessFlags := 1, nameIndex := 77, descriptorIndex := 78, attributes := #[] }] 48 2 #[59] #[{ accessFlags := 18, nameIndex := 11, descriptorIndex := 12, attributes := #[] }, { accessFlags := 18, nameIndex := 15, descriptorIndex := 16, attributes := #[] }])
  fields := #[{ name := "elements", type := (.array (.object "java/lang/Object")), accessFlags := 18, slot := 0, constantValue := 0 }, { name := "allowNulls", type := .boolean, accessFlags := 18, slot := 1, constantValue := 0 }]
  methods := #[k15m0]
  instanceTypes := #[(.array (.object "java/lang/Object")), .boolean]
  staticTypes := #[]
  resolved := Array.replicate 119 none
  statics := none }

def pool16 : Array CpInfo := pool [(1, .methodref 2 3), (0, .class_ 4), (0, .nameAndType 5 6), (0, u "java/lang/Object"), (0, u "<init>"), (0, u "()V"), (0, .class_ 8), (0, u "java/lang/Record")] 13

def k16c0 : Code := { maxStack := 1, maxLocals := 1, code := jdk_30_method_1_code, exceptionTable := #[], attributes := #[] }
def k16m0 : Method := { name := "<init>", desc := "()V", sig := { parameters := [], returnType := none }, accessFlags := 4, code := some k16c0 }
/-- java/lang/Record -/
def k16 : Class := { plain "java/lang/Record" (some 0) with
  accessFlags := 1057
  interfaces := #[]
  cf := some (fileOf pool16 7 #[] #[{ accessFlags := 4, nameIndex := 5, descriptorIndex := 6, attributes := #[] }] 1057 2 #[] #[])
  fields := #[]
  methods := #[k16m0]
  instanceTypes := #[]
  staticTypes := #[]
  resolved := Array.replicate 22 none
  statics := none }

def pool17 : Array CpInfo := pool [(1, .methodref 2 3), (0, .class_ 4), (0, .nameAndType 5 6), (0, u "java/lang/Record"), (0, u "<init>"), (0, u "()V"), (0, .string 8), (0, u "agency"), (0, .methodref 10 11), (0, .class_ 12), (0, .nameAndType 13 14), (0, u "java/util/Objects"), (0, u "requireNonNull"), (0, u "(Ljava/lang/Object;Ljava/lang/String;)Ljava/lang/Object;"), (0, .methodref 16 17), (0, .class_ 18), (0, .nameAndType 19 20), (0, u "com/example/tierline/tierline/model/RatingAgency"), (0, u "notches"), (0, u "()I"), (13, .fieldref 35 36), (0, .class_ 37), (0, .nameAndType 8 38), (0, u "com/example/tierline/tierline/model/Rating"), (0, u "Lcom/example/tierline/tierline/model/RatingAgency;"), (0, .fieldref 35 40), (0, .nameAndType 41 42), (0, u "notch"), (0, u "I"), (50, u "(Lcom/example/tierline/tierline/model/RatingAgency;I)V"), (7, u "isBelow"), (0, u "(Lcom/example/tierline/tierline/model/Rating;)Z")] 50

def k17c0 : Code := { maxStack := 4, maxLocals := 3, code := prog_85_method_1_code, exceptionTable := #[], attributes := #[] }
def k17m0 : Method := { name := "<init>", desc := "(Lcom/example/tierline/tierline/model/RatingAgency;I)V", sig := { parameters := [(.object "com/example/tierline/tierline/model/RatingAgency"), .int], returnType := none }, accessFlags := 1, code := some k17c0 }
def k17c1 : Code := { maxStack := 4, maxLocals := 2, code := prog_85_method_4_code, exceptionTable := #[], attributes := #[] }
def k17m1 : Method := { name := "isBelow", desc := "(Lcom/example/tierline/tierline/model/Rating;)Z", sig := { parameters := [(.object "com/example/tierline/tierline/model/Rating")], returnType := some .boolean }, accessFlags := 1, code := some k17c1 }
/-- com/example/tierline/tierline/model/Rating -/
def k17 : Class := { plain "com/example/tierline/tierline/model/Rating" (some 16) with
  accessFlags := 49
  interfaces := #[]
  cf := some (fileOf pool17 35 #[] #[{ accessFlags := 1, nameIndex := 5, descriptorIndex := 93, attributes := #[] }, { accessFlags := 1, nameIndex := 101, descriptorIndex := 102, attributes := #[] }] 49 2 #[] #[{ accessFlags := 18, nameIndex := 8, descriptorIndex := 38, attributes := #[] }, { accessFlags := 18, nameIndex := 41, descriptorIndex := 42, attributes := #[] }])
  fields := #[{ name := "agency", type := (.object "com/example/tierline/tierline/model/RatingAgency"), accessFlags := 18, slot := 0, constantValue := 0 }, { name := "notch", type := .int, accessFlags := 18, slot := 1, constantValue := 0 }]
  methods := #[k17m0, k17m1]
  instanceTypes := #[(.object "com/example/tierline/tierline/model/RatingAgency"), .int]
  staticTypes := #[]
  resolved := Array.replicate 153 none
  statics := none }

def pool18 : Array CpInfo := pool [(2, .class_ 4), (1, u "java/lang/CharSequence"), (42, .class_ 48), (0, u "java/lang/CharSequence$1CodePointIterator"), (10, .class_ 60), (0, u "java/lang/CharSequence$1CharIterator"), (5, .class_ 67), (0, u "java/lang/Object")] 63

/-- java/lang/CharSequence -/
def k18 : Class := { plain "java/lang/CharSequence" (some 0) with
  accessFlags := 1537
  interfaces := #[]
  cf := some (fileOf pool18 2 #[.nestMembers #[47, 59]] #[] 1537 66 #[] #[])
  fields := #[]
  methods := #[]
  instanceTypes := #[]
  staticTypes := #[]
  resolved := Array.replicate 131 none
  statics := none }

def pool19 : Array CpInfo := pool [(1, .class_ 2), (0, u "java/lang/constant/ConstantDesc"), (0, .class_ 4), (0, u "java/lang/Object")] 32

/-- java/lang/constant/ConstantDesc -/
def k19 : Class := { plain "java/lang/constant/ConstantDesc" (some 0) with
  accessFlags := 1537
  interfaces := #[]
  cf := some (fileOf pool19 1 #[] #[] 1537 3 #[] #[])
  fields := #[]
  methods := #[]
  instanceTypes := #[]
  staticTypes := #[]
  resolved := Array.replicate 37 none
  statics := none }

def pool20 : Array CpInfo := pool [(2, .class_ 4), (1, u "java/lang/Object"), (0, u "<init>"), (0, u "()V"), (3, .class_ 12), (1, u "java/lang/String"), (0, u "value"), (0, u "[B"), (2, u "coder"), (0, u "B"), (2, u "hash"), (0, u "I"), (2, u "hashIsZero"), (0, u "Z"), (13, u "COMPACT_STRINGS"), (534, .class_ 576), (0, u "java/lang/CharSequence"), (22, u "CASE_INSENSITIVE_ORDER"), (0, u "Ljava/util/Comparator;"), (500, u "serialPersistentFields"), (0, u "[Ljava/io/ObjectStreamField;"), (0, .class_ 1104), (0, u "java/lang/String$CaseInsensitiveComparator"), (1, .class_ 1107), (0, u "java/io/Serializable"), (0, .class_ 1109), (0, u "java/lang/Comparable"), (0, .class_ 1111), (0, u "java/lang/constant/Constable"), (0, .class_ 1113), (0, u "java/lang/constant/ConstantDesc"), (2, u "serialVersionUID"), (0, u "J"), (3, u "REPL"), (0, u "C"), (2, u "LATIN1"), (1, u "UTF16")] 323

def k20m0 : Method := { name := "<init>", desc := "()V", sig := { parameters := [], returnType := none }, accessFlags := 1, code := none }
/-- java/lang/String -/
def k20 : Class := { plain "java/lang/String" (some 0) with
  accessFlags := 49
  interfaces := #[4, 3, 18, 2, 19]
  cf := some (fileOf pool20 10 #[.nestMembers #[1103]] #[{ accessFlags := 1, nameIndex := 5, descriptorIndex := 6, attributes := #[] }] 49 2 #[1106, 1108, 575, 1110, 1112] #[{ accessFlags := 18, nameIndex := 13, descriptorIndex := 14, attributes := #[] }, { accessFlags := 18, nameIndex := 17, descriptorIndex := 18, attributes := #[] }, { accessFlags := 2, nameIndex := 21, descriptorIndex := 22, attributes := #[] }, { accessFlags := 2, nameIndex := 25, descriptorIndex := 26, attributes := #[] }, { accessFlags := 26, nameIndex := 1116, descriptorIndex := 1117, attributes := #[] }, { accessFlags := 24, nameIndex := 40, descriptorIndex := 26, attributes := #[] }, { accessFlags := 26, nameIndex := 1101, descriptorIndex := 1102, attributes := #[] }, { accessFlags := 26, nameIndex := 1121, descriptorIndex := 1122, attributes := #[] }, { accessFlags := 25, nameIndex := 599, descriptorIndex := 600, attributes := #[] }, { accessFlags := 24, nameIndex := 1125, descriptorIndex := 18, attributes := #[] }, { accessFlags := 24, nameIndex := 1127, descriptorIndex := 18, attributes := #[] }])
  fields := #[{ name := "value", type := (.array .byte), accessFlags := 18, slot := 0, constantValue := 0 }, { name := "coder", type := .byte, accessFlags := 18, slot := 1, constantValue := 0 }, { name := "hash", type := .int, accessFlags := 2, slot := 2, constantValue := 0 }, { name := "hashIsZero", type := .boolean, accessFlags := 2, slot := 3, constantValue := 0 }, { name := "serialVersionUID", type := .long, accessFlags := 26, slot := 0, constantValue := 0 }, { name := "COMPACT_STRINGS", type := .boolean, accessFlags := 24, slot := 1, constantValue := 0 }, { name := "serialPersistentFields", type := (.array (.object "java/io/ObjectStreamField")), accessFlags := 26, slot := 2, constantValue := 0 }, { name := "REPL", type := .char, accessFlags := 26, slot := 3, constantValue := 0 }, { name := "CASE_INSENSITIVE_ORDER", type := (.object "java/util/Comparator"), accessFlags := 25, slot := 4, constantValue := 0 }, { name := "LATIN1", type := .byte, accessFlags := 24, slot := 5, constantValue := 0 }, { name := "UTF16", type := .byte, accessFlags := 24, slot := 6, constantValue := 0 }]
  methods := #[k20m0]
  instanceTypes := #[(.array .byte), .byte, .int, .boolean]
  staticTypes := #[.long, .boolean, (.array (.object "java/io/ObjectStreamField")), .char, (.object "java/util/Comparator"), .byte, .byte]
  resolved := Array.replicate 1451 none
  statics := none }

def pool21 : Array CpInfo := pool [(2, .class_ 4), (1, u "java/lang/Object"), (0, u "<init>"), (0, u "()V"), (35, .class_ 44), (1, u "java/util/Objects"), (0, u "requireNonNull"), (48, u "(Ljava/lang/Object;Ljava/lang/String;)Ljava/lang/Object;")] 89

def k21m0 : Method := { name := "<init>", desc := "()V", sig := { parameters := [], returnType := none }, accessFlags := 2, code := none }
def k21c1 : Code := { maxStack := 3, maxLocals := 2, code := jdk_31_method_11_code, exceptionTable := #[], attributes := #[] }
def k21m1 : Method := { name := "requireNonNull", desc := "(Ljava/lang/Object;Ljava/lang/String;)Ljava/lang/Object;", sig := { parameters := [(.object "java/lang/Object"), (.object "java/lang/String")], returnType := some (.object "java/lang/Object") }, accessFlags := 9, code := some k21c1 }
/-- java/util/Objects -/
def k21 : Class := { plain "java/util/Objects" (some 0) with
  accessFlags := 49
  interfaces := #[]
  cf := some (fileOf pool21 42 #[] #[{ accessFlags := 2, nameIndex := 5, descriptorIndex := 6, attributes := #[] }, { accessFlags := 9, nameIndex := 45, descriptorIndex := 94, attributes := #[] }] 49 2 #[] #[])
  fields := #[]
  methods := #[k21m0, k21m1]
  instanceTypes := #[]
  staticTypes := #[]
  resolved := Array.replicate 184 none
  statics := none }

def pool22 : Array CpInfo := pool [(1, u "java/lang/Cloneable"), (0, .class_ 1), (0, u "java/lang/Object"), (0, .class_ 3)] 3

/-- java/lang/Cloneable -/
def k22 : Class := { plain "java/lang/Cloneable" (some 0) with
  accessFlags := 1537
  interfaces := #[]
  cf := some (fileOf pool22 2 #[] #[] 1537 4 #[] #[])
  fields := #[]
  methods := #[]
  instanceTypes := #[]
  staticTypes := #[]
  resolved := Array.replicate 8 none
  statics := none }

/-- the primitive byte -/
def k23 : Class := { plain "byte" none with kind := .primitive 'B', accessFlags := 0x411 }
/-- [B -/
def k24 : Class := { plain "[B" (some 0) with kind := .array 23 .byte, interfaces := #[22, 4], accessFlags := 1041 }

/-- the primitive int -/
def k25 : Class := { plain "int" none with kind := .primitive 'I', accessFlags := 0x411 }
/-- [I -/
def k26 : Class := { plain "[I" (some 0) with kind := .array 25 .int, interfaces := #[22, 4], accessFlags := 1041 }

/-- [Ljava/lang/Object; -/
def k27 : Class := { plain "[Ljava/lang/Object;" (some 0) with kind := .array 0 (.object "java/lang/Object"), interfaces := #[22, 4], accessFlags := 1041 }

def heap : Heap := #[{ cls := 6, slots := #[.ref 5, .ref 6, .ref 7, .null, .null], vm := .statics 6 },
  { cls := 27, slots := #[.null, .null, .null, .null, .null, .null, .null, .null, .null, .null, .null, .null, .null, .null, .null, .null, .null, .null, .null, .null, .null, .null], vm := .none },
  { cls := 27, slots := #[.null, .null, .null, .null, .null, .null, .null, .null, .null, .null, .null, .null, .null, .null, .null, .null, .null, .null, .null, .null, .null], vm := .none },
  { cls := 15, slots := #[.ref 1, .int 0], vm := .none },
  { cls := 15, slots := #[.ref 2, .int 0], vm := .none },
  { cls := 6, slots := #[.null, .int 0, .int 0, .null, .ref 3], vm := .none },
  { cls := 6, slots := #[.null, .int 1, .int 0, .null, .ref 4], vm := .none },
  { cls := 6, slots := #[.null, .int 2, .int 0, .null, .ref 3], vm := .none }]
def classes : Array Class := #[k0, k1, k2, k3, k4, k5, k6, k7, k8, k9, k10, k11, k12, k13, k14, k15, k16, k17, k18, k19, k20, k21, k22, k23, k24, k25, k26, k27]
def interned : List (Array UInt16 × Addr) := []
def slotsUsed : Nat := 67
def theMethod : MethodId := ⟨1, 2⟩
def args0 : Array Value := #[.int 5, .int 5, .int 5]
def aboutOver (below : List Frame) : State where
  vm := { classes := classes, interned := interned.toArray }
  heap := heap
  slotsUsed := slotsUsed
  threads := #[{ frames := .invoking theMethod args0 :: below }]
def below0 : List Frame := [.native { method := ⟨0, 0⟩, args := #[] }]
def about1 : State := aboutOver below0
def p0 : Program := .bare "" "" ""
def e0 : Env := launch0.env 0 0 0
theorem w_frames : about1.frames = Frame.invoking theMethod args0 :: below0 := rfl
set_option maxRecDepth 65536 in
theorem w_args : argsFit about1.vm theMethod args0 = true := by decide +kernel
set_option maxRecDepth 65536 in
theorem w_heap : heapFits about1 = true := by decide +kernel
set_option maxRecDepth 65536 in
theorem w_runnable : about1.curStatus? = some .runnable := by decide +kernel
set_option maxRecDepth 65536 in
theorem w_alone : about1.alone = true := by decide +kernel
set_option maxRecDepth 65536 in
theorem w_named : about1.methodNamed? x = some theMethod := by decide +kernel
set_option maxRecDepth 65536 in
theorem w_hears : about1.hears theMethod below0 = true := by decide +kernel
set_option maxRecDepth 65536 in
theorem w_ripe : about1.ripe theMethod args0 below0 = true := by decide +kernel
theorem w_running : about1.status = .running := rfl
set_option maxRecDepth 65536 in
theorem w_room : about1.hasRoom e0.platform room_1 = true :=
  launch0.hasRoom_least _ room_1 (by decide +kernel) (by decide +kernel) (by decide +kernel) (by decide +kernel) (by decide +kernel) (by decide +kernel)
theorem allAtoms_all (ts : List Jvm.Cond) (a : Array Jvm.Value) (st : Jvm.State) : (allAtoms ts).before a st = ts.all (fun c => c.before a st) := by
  induction ts with
  | nil => rfl
  | cons c t ih =>
    show (Jvm.Cond.and c (allAtoms t)).before a st = _
    rw [Jvm.Cond.before_and, ih, List.all_cons]
def words1 : List Jvm.Cond := Jvm.Cond.code x code maxLocals ret :: tables_1
/-- a 'code' word, met by the world's own term for the bytes: nothing is compared byte by byte -/
theorem code_word {y : MethodName} {bytes : ByteArray} {mx : Nat} {rt : Option FieldType} {a : Array Value} {s : State} {m : MethodId} {meth : Method} {c : Code} (h1 : s.methodNamed? y = some m) (h2 : s.vm.method? m = some meth) (h3 : meth.code = some c) (h4 : c.code = bytes)
    (h5 : (c.maxLocals == mx && c.exceptionTable.isEmpty && decide (c.maxStack ≤ mostOperands) && decide (meth.sig.returnType = rt) && !meth.locks && decide (parseMethodDescriptor y.desc = some meth.sig)) = true) : (Jvm.Cond.code y bytes mx rt).before a s = true := by
  simp only [Bool.and_eq_true, beq_iff_eq, Bool.not_eq_true', decide_eq_true_eq] at h5
  obtain ⟨⟨⟨⟨⟨g1, g2⟩, g3⟩, g4⟩, g5⟩, g6⟩ := h5
  simp [Cond.before, Cond.holds, Cond.value, h1, h2, h3, h4, g1, g2, g3, g4, g5, g6]
def isCode : Jvm.Cond → Bool
  | .code _ _ _ _ => true
  | _ => false
theorem all_split {L : List Jvm.Cond} {P : Jvm.Cond → Bool} (h1 : L.all (fun c => isCode c || P c) = true) (h2 : ∀ c ∈ L.filter isCode, P c = true) : L.all P = true := by
  refine List.all_eq_true.mpr fun c hc => ?_
  have h := List.all_eq_true.mp h1 c hc
  rcases Bool.eq_false_or_eq_true (isCode c) with hi | hi
  · exact h2 c (List.mem_filter.mpr ⟨hc, hi⟩)
  · simpa [hi] using h
set_option maxRecDepth 65536 in
theorem w_c0 : (Jvm.Cond.code x code maxLocals ret).before args0 about1 = true := code_word (m := ⟨1, 2⟩) (meth := k1m2) (c := k1c2) (by decide +kernel) rfl rfl rfl (by decide +kernel)
set_option maxRecDepth 65536 in
theorem w_c1 : (Jvm.Cond.code ({ cls := "com/example/tierline/tierline/model/RatingIsBelowPinLaw", name := "pick", desc := "(I)Lcom/example/tierline/tierline/model/RatingAgency;" } : Jvm.MethodName) method_2_code (2 : Nat) (Option.some (Jvm.ClassFile.FieldType.object "com/example/tierline/tierline/model/RatingAgency"))).before args0 about1 = true := code_word (m := ⟨1, 1⟩) (meth := k1m1) (c := k1c1) (by decide +kernel) rfl rfl rfl (by decide +kernel)
set_option maxRecDepth 65536 in
theorem w_c2 : (Jvm.Cond.code ({ cls := "com/example/tierline/tierline/model/RatingAgency", name := "notches", desc := "()I" } : Jvm.MethodName) prog_86_method_7_code (1 : Nat) (Option.some Jvm.ClassFile.FieldType.int)).before args0 about1 = true := code_word (m := ⟨6, 0⟩) (meth := k6m0) (c := k6c0) (by decide +kernel) rfl rfl rfl (by decide +kernel)
set_option maxRecDepth 65536 in
theorem w_c3 : (Jvm.Cond.code ({ cls := "java/util/ImmutableCollections$ListN", name := "size", desc := "()I" } : Jvm.MethodName) jdk_45_method_3_code (1 : Nat) (Option.some Jvm.ClassFile.FieldType.int)).before args0 about1 = true := code_word (m := ⟨15, 0⟩) (meth := k15m0) (c := k15c0) (by decide +kernel) rfl rfl rfl (by decide +kernel)
set_option maxRecDepth 65536 in
theorem w_c4 : (Jvm.Cond.code ({ cls := "com/example/tierline/tierline/model/Rating", name := "<init>", desc := "(Lcom/example/tierline/tierline/model/RatingAgency;I)V" } : Jvm.MethodName) prog_85_method_1_code (3 : Nat) (Option.none : Option Jvm.ClassFile.FieldType)).before args0 about1 = true := code_word (m := ⟨17, 0⟩) (meth := k17m0) (c := k17c0) (by decide +kernel) rfl rfl rfl (by decide +kernel)
set_option maxRecDepth 65536 in
theorem w_c5 : (Jvm.Cond.code ({ cls := "java/lang/Record", name := "<init>", desc := "()V" } : Jvm.MethodName) jdk_30_method_1_code (1 : Nat) (Option.none : Option Jvm.ClassFile.FieldType)).before args0 about1 = true := code_word (m := ⟨16, 0⟩) (meth := k16m0) (c := k16c0) (by decide +kernel) rfl rfl rfl (by decide +kernel)
set_option maxRecDepth 65536 in
theorem w_c6 : (Jvm.Cond.code ({ cls := "java/lang/Object", name := "<init>", desc := "()V" } : Jvm.MethodName) object_method_1_code (1 : Nat) (Option.none : Option Jvm.ClassFile.FieldType)).before args0 about1 = true := code_word (m := ⟨0, 0⟩) (meth := k0m0) (c := k0c0) (by decide +kernel) rfl rfl rfl (by decide +kernel)
set_option maxRecDepth 65536 in
theorem w_c7 : (Jvm.Cond.code ({ cls := "java/util/Objects", name := "requireNonNull", desc := "(Ljava/lang/Object;Ljava/lang/String;)Ljava/lang/Object;" } : Jvm.MethodName) jdk_31_method_11_code (2 : Nat) (Option.some (Jvm.ClassFile.FieldType.object "java/lang/Object"))).before args0 about1 = true := code_word (m := ⟨21, 1⟩) (meth := k21m1) (c := k21c1) (by decide +kernel) rfl rfl rfl (by decide +kernel)
set_option maxRecDepth 65536 in
theorem w_c8 : (Jvm.Cond.code ({ cls := "com/example/tierline/tierline/model/Rating", name := "isBelow", desc := "(Lcom/example/tierline/tierline/model/Rating;)Z" } : Jvm.MethodName) prog_85_method_4_code (2 : Nat) (Option.some Jvm.ClassFile.FieldType.boolean)).before args0 about1 = true := code_word (m := ⟨17, 1⟩) (meth := k17m1) (c := k17c1) (by decide +kernel) rfl rfl rfl (by decide +kernel)
def codes1 : List Jvm.Cond := [Jvm.Cond.code x code maxLocals ret, Jvm.Cond.code ({ cls := "com/example/tierline/tierline/model/RatingIsBelowPinLaw", name := "pick", desc := "(I)Lcom/example/tierline/tierline/model/RatingAgency;" } : Jvm.MethodName) method_2_code (2 : Nat) (Option.some (Jvm.ClassFile.FieldType.object "com/example/tierline/tierline/model/RatingAgency")), Jvm.Cond.code ({ cls := "com/example/tierline/tierline/model/RatingAgency", name := "notches", desc := "()I" } : Jvm.MethodName) prog_86_method_7_code (1 : Nat) (Option.some Jvm.ClassFile.FieldType.int), Jvm.Cond.code ({ cls := "java/util/ImmutableCollections$ListN", name := "size", desc := "()I" } : Jvm.MethodName) jdk_45_method_3_code (1 : Nat) (Option.some Jvm.ClassFile.FieldType.int), Jvm.Cond.code ({ cls := "com/example/tierline/tierline/model/Rating", name := "<init>", desc := "(Lcom/example/tierline/tierline/model/RatingAgency;I)V" } : Jvm.MethodName) prog_85_method_1_code (3 : Nat) (Option.none : Option Jvm.ClassFile.FieldType), Jvm.Cond.code ({ cls := "java/lang/Record", name := "<init>", desc := "()V" } : Jvm.MethodName) jdk_30_method_1_code (1 : Nat) (Option.none : Option Jvm.ClassFile.FieldType), Jvm.Cond.code ({ cls := "java/lang/Object", name := "<init>", desc := "()V" } : Jvm.MethodName) object_method_1_code (1 : Nat) (Option.none : Option Jvm.ClassFile.FieldType), Jvm.Cond.code ({ cls := "java/util/Objects", name := "requireNonNull", desc := "(Ljava/lang/Object;Ljava/lang/String;)Ljava/lang/Object;" } : Jvm.MethodName) jdk_31_method_11_code (2 : Nat) (Option.some (Jvm.ClassFile.FieldType.object "java/lang/Object")), Jvm.Cond.code ({ cls := "com/example/tierline/tierline/model/Rating", name := "isBelow", desc := "(Lcom/example/tierline/tierline/model/Rating;)Z" } : Jvm.MethodName) prog_85_method_4_code (2 : Nat) (Option.some Jvm.ClassFile.FieldType.boolean)]
set_option maxRecDepth 65536 in
theorem codes_eq : words1.filter isCode = codes1 := rfl
theorem w_codes : ∀ c ∈ words1.filter isCode, c.before args0 about1 = true := by
  rw [codes_eq]
  intro c hc
  simp only [codes1, List.mem_cons, List.not_mem_nil, or_false] at hc
  rcases hc with rfl | rfl | rfl | rfl | rfl | rfl | rfl | rfl | rfl
  · exact w_c0
  · exact w_c1
  · exact w_c2
  · exact w_c3
  · exact w_c4
  · exact w_c5
  · exact w_c6
  · exact w_c7
  · exact w_c8
set_option maxRecDepth 65536 in
theorem w_t1 : (words1.take 24).all (fun c => isCode c || c.before args0 about1) = true := by decide +kernel
set_option maxRecDepth 65536 in
theorem w_t2 : ((words1.drop 24).take 24).all (fun c => isCode c || c.before args0 about1) = true := by decide +kernel
set_option maxRecDepth 65536 in
theorem w_t3 : ((words1.drop 24).drop 24).all (fun c => isCode c || c.before args0 about1) = true := by decide +kernel
theorem w_tables : (allAtoms (Jvm.Cond.code x code maxLocals ret :: tables_1)).before args0 about1 = true := by
  rw [allAtoms_all]
  show words1.all (fun c => c.before args0 about1) = true
  refine all_split ?_ w_codes
  rw [← List.take_append_drop 24 words1, List.all_append, w_t1, ← List.take_append_drop 24 (words1.drop 24), List.all_append, w_t2, w_t3]
  rfl
set_option maxRecDepth 65536 in
theorem w_case : (Jvm.Cond.and given_1 narrow_1).before args0 about1 = true := by decide +kernel
theorem w_applies : (headSpec (Jvm.Cond.code x code maxLocals ret :: tables_1) room_1).applies x e0.platform about1 = true :=
  (Spec.applies_iff w_frames).mpr ⟨w_running, w_runnable, w_alone, w_named, w_hears, w_ripe, w_room, w_tables⟩
theorem atStart : AtStart classFile x code maxLocals ret World_1 tables_1 room_1 Calls_1 rest_1 Pre_1 launch0 p0 e0 about1 theMethod args0 below0 :=
  ⟨lists_1, trivial, launch0.admits_env _ _ _, launch0.least_env, fairChoices_fair.cas, fairChoices_fair.clock, w_frames, w_args, w_heap, w_applies, trivial, trivial, w_case⟩
end start1
theorem witness_1 : WitnessClaimed_1 := ⟨start1.p0, start1.e0, start1.about1, start1.theMethod, start1.args0, start1.below0, start1.atStart⟩
end Jvm.Pilot.@@N@@
