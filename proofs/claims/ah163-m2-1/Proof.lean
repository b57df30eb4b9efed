import JvmDerived
import JvmDerived.Pilot.@@N@@Statement
import JvmDerived.Pilot.@@N@@Code
set_option linter.unusedVariables false
set_option linter.unusedSimpArgs false
namespace Jvm.RoadKit
open Sem ClassFile Op Lib Jvm.Stand Jvm.Free Jvm.LawKit
section New
variable {p : Program} {l : Launch} {e : Env} {R : Room} {s : State} {m : MethodId} {args : Array Value} {below : List Frame} {meth : Method} {c : Code} {T : State} {locs : List Loc} {cells slots : Nat}
theorem retI (X : Stand p l e R s m args below meth c T locs cells slots) (hx : p.tables.exec = Jvm.exec) {pc : Nat} {Ls : Array Slot} {z : Int32} {rest : List Value} (hret : meth.sig.returnType = some .int) (hd : decode c.code pc = .ok (.ireturn, 1)) {fs : List Frame}
    (hl : ∀ (f : JFrame) (acts : List Action), f.method = m → f.locked = none → f.entered = [] → (doReturn e (T.setTop f) acts (some (.int z))).1 = T.setFrames fs) : Steps p.tables e below (T.setTop (mkF m pc Ls (.int z :: rest))) (T.setFrames fs) := by
  have hm' : T.vm.method? m = some meth := X.method'
  have hn : narrow .int (.int z) = .int z := rfl
  show Steps p.tables e below (T.setTop { method := m, pc := pc, locals := Ls, stack := _ :: rest, locked := none }) _
  jvm_step X.here [X.here.top, hx, hd, hm', hret, hn]
  first | (intro acts; rw [hl _ acts rfl rfl rfl]) | rw [hl _ _ rfl rfl rfl]
  exact Steps.refl _
end New
end Jvm.RoadKit
namespace Jvm.Pilot.@@N@@
open Jvm Jvm.ClassFile Sem Op Lib Jvm.Free Jvm.Stand Jvm.LawKit Jvm.RoadKit Bundle Jvm.Pilot.@@N@@.Jvm.D
section OwnKit
variable {p : Program} {l : Launch} {e : Env} {R : Room} {s : State} {m : MethodId} {args : Array Value} {below : List Frame} {meth : Method} {c : Code} {T : State} {locs : List Loc} {cells slots : Nat}
def own_Rch (tb : Tables) (e : Env) (below : List Frame) (S : State) (Φ : Outcome → State → Prop) : Prop := ∃ s₂ o, Steps tb e below S s₂ ∧ s₂.status = .running ∧ Ended s₂ below o ∧ Φ o s₂
theorem own_via {tb : Tables} {S S' : State} {Φ : Outcome → State → Prop} (h : ∀ t, Steps tb e below S' t → Steps tb e below S t) (k : own_Rch tb e below S' Φ) : own_Rch tb e below S Φ := by
  obtain ⟨s₂, o, k1, k2⟩ := k
  exact ⟨s₂, o, h _ k1, k2⟩
abbrev own_End (s : State) (Q : Option Value → Heap → List Loc → Prop) (k n : Nat) : Outcome → State → Prop := fun o U' => ∃ v L, o = .returned v ∧ Q v U'.heap L ∧ FrameEnd s o U' L k n
theorem own_fin (X : Stand p l e R s m args below meth c T locs cells slots) (hx : p.tables.exec = Jvm.exec) {pc : Nat} {Ls : Array Slot} {w : Value} {t : FieldType} {i : Instr} {rest : List Value} (hret : meth.sig.returnType = some t) (hlk : meth.locks = false) (hnw : narrow t w = w)
    (hi : (i = .ireturn ∧ (t = .int ∨ t = .boolean ∨ t = .byte ∨ t = .char ∨ t = .short) ∧ ∃ z, w = .int z) ∨ (i = .lreturn ∧ t = .long ∧ ∃ z, w = .long z) ∨ (i = .dreturn ∧ t = .double ∧ ∃ z, w = .double z) ∨ (i = .freturn ∧ t = .float ∧ ∃ z, w = .float z) ∨ (i = .areturn ∧ t.isReference = true ∧ w.isRef = true))
    (hd : decode c.code pc = .ok (i, 1)) {Q : Option Value → Heap → List Loc → Prop} {k n : Nat} (hk : cells ≤ k) (hn : slots ≤ n) (hQ : Q (some w) T.heap locs) : own_Rch p.tables e below (T.setTop (mkF m pc Ls (w :: rest))) (own_End s Q k n) := by
  obtain ⟨fs, hr, hrun, hended, hW, hsame⟩ := X.leave (v := some w) (fun h => by rw [hret] at h; cases h) hlk
  exact ⟨_, _, retOut X hx hret hnw hi hd hr, hrun, hended, _, _, rfl, hQ, ⟨_, rfl⟩, hW, hsame.mono hk hn⟩
theorem own_fin0 (X : Stand p l e R s m args below meth c T locs cells slots) (hx : p.tables.exec = Jvm.exec) {pc : Nat} {Ls : Array Slot} (hret : meth.sig.returnType = none) (hlk : meth.locks = false)
    (hd : decode c.code pc = .ok (.return_, 1)) {Q : Option Value → Heap → List Loc → Prop} {k n : Nat} (hk : cells ≤ k) (hn : slots ≤ n) (hQ : Q none T.heap locs) : own_Rch p.tables e below (T.setTop (mkF m pc Ls [])) (own_End s Q k n) := by
  obtain ⟨fs, hr, hrun, hended, hW, hsame⟩ := X.leave (v := none) (fun _ => rfl) hlk
  exact ⟨_, _, X.returnOut hx hret hd hr, hrun, hended, _, _, rfl, hQ, ⟨_, rfl⟩, hW, hsame.mono hk hn⟩
theorem own_lrem {g : JFrame} {target : State} (X : Stand p l e R s m args below meth c T locs cells slots) (hx : p.tables.exec = Jvm.exec) (hg : g.method = m) {x y : Int64} {rest : List Value} (hd : decode c.code g.pc = .ok (.lrem, 1)) (hs : g.stack = .long y :: .long x :: rest) (hy : y ≠ 0)
    (hr : Steps p.tables e below (T.setTop { g with pc := g.pc + 1, stack := .long (x % y) :: rest }) target) : Steps p.tables e below (T.setTop g) target := by
  have q : x - x / y * y = x % y := lrem_mod x y
  exact XS.lrem X.here hx hg hd hs hy (by rw [q]; exact hr)
end OwnKit
section OwnKitW
variable {p : Program} {l : Launch} {e : Env} {R : Room} {s : State} {m : MethodId} {args : Array Value} {below : List Frame} {meth : Method} {c : Code} {T : State} {locs : List Loc} {cells slots : Nat}
abbrev own_EndW (s : State) (Q : Option Value → Heap → List Loc → Prop) (k n : Nat) : Outcome → State → Prop := fun o U' => ∃ v L, o = .returned v ∧ Q v U'.heap L ∧ ReturnedEndW s o U' L k n
theorem own_S0 (s : State) (n : Nat) : s.Since s.vm n := State.WarmedH.since (State.WarmedH.refl s) n
theorem own_finW {vm₁ : Vm} (X : Stand p l e R (s.setVm vm₁) m args below meth c T locs cells slots) {k0 : Nat} (hS : s.Since vm₁ k0) (hk0 : k0 ≤ T.heap.size) (hx : p.tables.exec = Jvm.exec) {pc : Nat} {Ls : Array Slot} {w : Value} {t : FieldType} {i : Instr} {rest : List Value} (hret : meth.sig.returnType = some t) (hlk : meth.locks = false) (hnw : narrow t w = w)
    (hi : (i = .ireturn ∧ (t = .int ∨ t = .boolean ∨ t = .byte ∨ t = .char ∨ t = .short) ∧ ∃ z, w = .int z) ∨ (i = .lreturn ∧ t = .long ∧ ∃ z, w = .long z) ∨ (i = .dreturn ∧ t = .double ∧ ∃ z, w = .double z) ∨ (i = .freturn ∧ t = .float ∧ ∃ z, w = .float z) ∨ (i = .areturn ∧ t.isReference = true ∧ w.isRef = true))
    (hd : decode c.code pc = .ok (i, 1)) {Q : Option Value → Heap → List Loc → Prop} {k n : Nat} (hk : cells ≤ k) (hn : slots ≤ n) (hQ : Q (some w) T.heap locs) : own_Rch p.tables e below (T.setTop (mkF m pc Ls (w :: rest))) (own_EndW s Q k n) := by
  obtain ⟨fs, hr, hrun, hended, hW⟩ := X.leaveW hS hk0 (v := some w) (fun h => by rw [hret] at h; cases h) hlk
  exact ⟨_, _, retOut X hx hret hnw hi hd hr, hrun, hended, _, _, rfl, hQ, hW.1, hW.2.1, hW.2.2.1, hW.2.2.2.mono hk hn⟩
theorem own_fin0W {vm₁ : Vm} (X : Stand p l e R (s.setVm vm₁) m args below meth c T locs cells slots) {k0 : Nat} (hS : s.Since vm₁ k0) (hk0 : k0 ≤ T.heap.size) (hx : p.tables.exec = Jvm.exec) {pc : Nat} {Ls : Array Slot} (hret : meth.sig.returnType = none) (hlk : meth.locks = false)
    (hd : decode c.code pc = .ok (.return_, 1)) {Q : Option Value → Heap → List Loc → Prop} {k n : Nat} (hk : cells ≤ k) (hn : slots ≤ n) (hQ : Q none T.heap locs) : own_Rch p.tables e below (T.setTop (mkF m pc Ls [])) (own_EndW s Q k n) := by
  obtain ⟨fs, hr, hrun, hended, hW⟩ := X.leaveW hS hk0 (v := none) (fun _ => rfl) hlk
  exact ⟨_, _, X.returnOut hx hret hd hr, hrun, hended, _, _, rfl, hQ, hW.1, hW.2.1, hW.2.2.1, hW.2.2.2.mono hk hn⟩
abbrev own_FE (s : State) (o : Outcome) (t : State) (L : List Loc) (k n : Nat) : Prop := ReturnedEndW s o t L k n
theorem own_FE_of {o : Outcome} {t : State} {L L' : List Loc} {k n : Nat} (h : ReturnedEndW s o t L k n) (N : Fr s.heap.size L) : own_FE s o t L' k n := ⟨h.1, h.2.1, h.2.2.1, h.2.2.2.sift fun y hy => Or.inr (N y hy)⟩
end OwnKitW
def own_Pure (r : Value) (h0 : Heap) (n0 : Nat) (v : Option Value) (h : Heap) (L : List Loc) : Prop := v = some r ∧ Fr n0 L ∧ h = h0
theorem own_wS {Z : State} {a0 : Array Value} (hw : ∀ d ∈ tables_1, d.before a0 Z = true) : ∀ a ∈ Bundle.stringAtoms, a.before a0 Z = true := by
  intro a ha
  simp only [Bundle.stringAtoms, List.mem_cons, List.not_mem_nil, or_false] at ha
  rcases ha with rfl | rfl | rfl | rfl | rfl | rfl | rfl
  · exact hw _ (List.mem_of_getElem? (i := 11) rfl)
  · exact hw _ (List.mem_of_getElem? (i := 12) rfl)
  · exact hw _ (List.mem_of_getElem? (i := 13) rfl)
  · exact hw _ (List.mem_of_getElem? (i := 14) rfl)
  · exact hw _ (List.mem_of_getElem? (i := 15) rfl)
  · exact hw _ (List.mem_of_getElem? (i := 16) rfl)
  · exact hw _ (List.mem_of_getElem? (i := 17) rfl)
def own_minL (a b : Int64) : Int64 := if b < a then b else a
def own_maxL (a b : Int64) : Int64 := if a < b then b else a
def own_holds (lo hi w : Int64) : Int32 := if w < lo then 0 else if hi < w then 0 else 1
theorem own_le (a b : Int64) : ¬ own_maxL a b < own_minL a b := by
  simp only [own_minL, own_maxL, Int64.lt_iff_toInt_lt]
  repeat' split
  all_goals (try simp only [Int64.lt_iff_toInt_lt] at *)
  all_goals omega
theorem own_ag1 (lo hi w : Int64) (h : ¬ hi < lo) (q : own_maxL lo (own_minL w hi) = w) : own_holds lo hi w = 1 := by
  have key : ¬ w < lo ∧ ¬ hi < w := by
    rw [← q]
    simp only [own_minL, own_maxL, Int64.lt_iff_toInt_lt] at *
    constructor <;> (repeat' split) <;> omega
  rw [own_holds, if_neg key.1, if_neg key.2]
theorem own_ag0 (lo hi w : Int64) (h : ¬ hi < lo) (q : ¬ own_maxL lo (own_minL w hi) = w) : own_holds lo hi w = 0 := by
  rw [own_holds]
  by_cases c1 : w < lo
  · rw [if_pos c1]
  · by_cases c2 : hi < w
    · rw [if_neg c1, if_pos c2]
    · exfalso
      apply q
      rw [own_minL, if_neg c2, own_maxL]
      by_cases c3 : lo < w
      · rw [if_pos c3]
      · rw [if_neg c3]
        simp only [Int64.lt_iff_toInt_lt] at *
        exact Int64.toInt_inj.mp (by omega)
theorem ef_mn (m : MethodId) (x0 : Int64) (x1 : Int64) : entryFrame m #[(.long x0), (.long x1)] 4 = mkF m 0 #[.val (.long x0), .second, .val (.long x1), .second] [] := by first | (simp [entryFrame, mkF, argsToLocals, Value.category]; done) | rfl
theorem d1_0 : decode jdk_29_method_70_code 0 = .ok (.lload_n 0, 1) := by decide +kernel
theorem d1_1 : decode jdk_29_method_70_code 1 = .ok (.lload_n 2, 1) := by decide +kernel
theorem d1_2 : decode jdk_29_method_70_code 2 = .ok (.lcmp, 1) := by decide +kernel
theorem d1_3 : decode jdk_29_method_70_code 3 = .ok (.ifCond .gt 7, 3) := by decide +kernel
theorem d1_10 : decode jdk_29_method_70_code 10 = .ok (.lload_n 2, 1) := by decide +kernel
theorem d1_11 : decode jdk_29_method_70_code 11 = .ok (.lreturn, 1) := by decide +kernel
theorem d1_6 : decode jdk_29_method_70_code 6 = .ok (.lload_n 0, 1) := by decide +kernel
theorem d1_7 : decode jdk_29_method_70_code 7 = .ok (.goto 4, 3) := by decide +kernel
set_option maxRecDepth 65536 in
set_option maxHeartbeats 40000000 in
theorem rmmn (l : Launch) (Z : State) (a0 : Array Value) (hw : ∀ d ∈ tables_1, d.before a0 Z = true) (ws : List Jvm.Cond) (p1 p2 : Int64) (h0 : Heap) (n0 : Nat) :
    MetFree l (⟨"java/lang/Math", "min", "(JJ)J"⟩ : MethodName) (head1 (Jvm.Cond.code (⟨"java/lang/Math", "min", "(JJ)J"⟩ : MethodName) jdk_29_method_70_code 4 (some .long) :: ws) ({ frames := 0, cells := 0, slots := 0, locals := 0 } : Room)) (fun a U => a = #[(.long p1), (.long p2)] ∧ Z.Warmed39 U.vm ∧ U.heap = h0) (fun _ _ _ _ _ => True) (fun _ U o U' => ∃ v L, o = .returned v ∧ own_Pure (.long (own_minL p1 p2)) h0 n0 v U'.heap L ∧ FrameEnd U o U' L ({ frames := 0, cells := 0, slots := 0, locals := 0 } : Room).cells ({ frames := 0, cells := 0, slots := 0, locals := 0 } : Room).slots) := by
  refine MetFree.of_bodySF (Jvm.Free.JP.mathPlain rfl (by decide +kernel)) hisR ?_
  intro p e s m args below meth c s₁ Bd hml0 hP hK
  obtain ⟨rfl, hZ, hh⟩ := hP
  have hx := Bd.exec
  have hby := Bd.bytes
  have hml : c.maxLocals = 4 := hml0
  have hown : s.vm.findClass "java/lang/Math" = some m.cls := findClass_of_methodNamed Bd.named
  have hnm := (name_of_methodNamed Bd.named Bd.method).1
  have X0 : Stand p l e ({ frames := 0, cells := 0, slots := 0, locals := 0 } : Room) s m #[(.long p1), (.long p2)] below meth c s₁ [] 0 0 := Stand.of_body Bd
  have e0 : s₁.heap = h0 := by rw [← hh, Bd.state]; rfl
  have N0 := Fr.nil n0
  show own_Rch p.tables e below (s₁.setTop (entryFrame m #[(.long p1), (.long p2)] 4)) (own_End s (own_Pure (.long (own_minL p1 p2)) h0 n0) ({ frames := 0, cells := 0, slots := 0, locals := 0 } : Room).cells ({ frames := 0, cells := 0, slots := 0, locals := 0 } : Room).slots)
  refine own_via (fun t k => castTop (ef_mn m p1 p2) k) ?_
  show own_Rch p.tables e below (s₁.setTop (mkF m 0 #[.val (.long p1), .second, .val (.long p2), .second] [])) _
  refine own_via (fun t k => XS.lloadN X0.here hx rfl (hb hby d1_0) rfl k) ?_
  show own_Rch p.tables e below (s₁.setTop (mkF m 1 #[.val (.long p1), .second, .val (.long p2), .second] [(.long p1)])) _
  refine own_via (fun t k => XS.lloadN X0.here hx rfl (hb hby d1_1) rfl k) ?_
  show own_Rch p.tables e below (s₁.setTop (mkF m 2 #[.val (.long p1), .second, .val (.long p2), .second] [(.long p2), (.long p1)])) _
  refine own_via (fun t k => XS.lcmp X0.here hx rfl (hb hby d1_2) rfl k) ?_
  show own_Rch p.tables e below (s₁.setTop (mkF m 3 #[.val (.long p1), .second, .val (.long p2), .second] [(.int (lcmpW p1 p2))])) _
  by_cases c3 : p2 < p1
  · refine own_via (fun t k => XS.ifYes X0.here hx rfl (pc0 := 3) (pc' := 10) rfl (hb hby d1_3) rfl ((if0 _ _).trans (tlt ((lw_gt p1 p2).mpr c3)).2.2.1) (by decide) (by decide) k) ?_
    show own_Rch p.tables e below (s₁.setTop (mkF m 10 #[.val (.long p1), .second, .val (.long p2), .second] [])) _
    refine own_via (fun t k => XS.lloadN X0.here hx rfl (hb hby d1_10) rfl k) ?_
    show own_Rch p.tables e below (s₁.setTop (mkF m 11 #[.val (.long p1), .second, .val (.long p2), .second] [(.long p2)])) _
    exact own_fin X0 hx (t := .long) (i := .lreturn) Bd.returns Bd.notSynchronized rfl (Or.inr (Or.inl ⟨rfl, rfl, _, rfl⟩)) (hb hby d1_11) (by decide) (by decide) ⟨by simp only [own_minL, if_pos c3], N0, e0⟩
  · refine own_via (fun t k => XS.ifNo X0.here hx rfl (hb hby d1_3) rfl ((if0 _ _).trans (flt (fun q => c3 ((lw_gt p1 p2).mp q))).2.2.1) k) ?_
    show own_Rch p.tables e below (s₁.setTop (mkF m 6 #[.val (.long p1), .second, .val (.long p2), .second] [])) _
    refine own_via (fun t k => XS.lloadN X0.here hx rfl (hb hby d1_6) rfl k) ?_
    show own_Rch p.tables e below (s₁.setTop (mkF m 7 #[.val (.long p1), .second, .val (.long p2), .second] [(.long p1)])) _
    refine own_via (fun t k => XS.goto X0.here hx rfl (pc0 := 7) (pc' := 11) rfl (hb hby d1_7) (by decide) (by decide) k) ?_
    show own_Rch p.tables e below (s₁.setTop (mkF m 11 #[.val (.long p1), .second, .val (.long p2), .second] [(.long p1)])) _
    exact own_fin X0 hx (t := .long) (i := .lreturn) Bd.returns Bd.notSynchronized rfl (Or.inr (Or.inl ⟨rfl, rfl, _, rfl⟩)) (hb hby d1_11) (by decide) (by decide) ⟨by simp only [own_minL, if_neg c3], N0, e0⟩
theorem ef_mx (m : MethodId) (x0 : Int64) (x1 : Int64) : entryFrame m #[(.long x0), (.long x1)] 4 = mkF m 0 #[.val (.long x0), .second, .val (.long x1), .second] [] := by first | (simp [entryFrame, mkF, argsToLocals, Value.category]; done) | rfl
theorem d2_0 : decode jdk_29_method_66_code 0 = .ok (.lload_n 0, 1) := by decide +kernel
theorem d2_1 : decode jdk_29_method_66_code 1 = .ok (.lload_n 2, 1) := by decide +kernel
theorem d2_2 : decode jdk_29_method_66_code 2 = .ok (.lcmp, 1) := by decide +kernel
theorem d2_3 : decode jdk_29_method_66_code 3 = .ok (.ifCond .lt 7, 3) := by decide +kernel
theorem d2_10 : decode jdk_29_method_66_code 10 = .ok (.lload_n 2, 1) := by decide +kernel
theorem d2_11 : decode jdk_29_method_66_code 11 = .ok (.lreturn, 1) := by decide +kernel
theorem d2_6 : decode jdk_29_method_66_code 6 = .ok (.lload_n 0, 1) := by decide +kernel
theorem d2_7 : decode jdk_29_method_66_code 7 = .ok (.goto 4, 3) := by decide +kernel
set_option maxRecDepth 65536 in
set_option maxHeartbeats 40000000 in
theorem rmmx (l : Launch) (Z : State) (a0 : Array Value) (hw : ∀ d ∈ tables_1, d.before a0 Z = true) (ws : List Jvm.Cond) (p1 p2 : Int64) (h0 : Heap) (n0 : Nat) :
    MetFree l (⟨"java/lang/Math", "max", "(JJ)J"⟩ : MethodName) (head1 (Jvm.Cond.code (⟨"java/lang/Math", "max", "(JJ)J"⟩ : MethodName) jdk_29_method_66_code 4 (some .long) :: ws) ({ frames := 0, cells := 0, slots := 0, locals := 0 } : Room)) (fun a U => a = #[(.long p1), (.long p2)] ∧ Z.Warmed39 U.vm ∧ U.heap = h0) (fun _ _ _ _ _ => True) (fun _ U o U' => ∃ v L, o = .returned v ∧ own_Pure (.long (own_maxL p1 p2)) h0 n0 v U'.heap L ∧ FrameEnd U o U' L ({ frames := 0, cells := 0, slots := 0, locals := 0 } : Room).cells ({ frames := 0, cells := 0, slots := 0, locals := 0 } : Room).slots) := by
  refine MetFree.of_bodySF (Jvm.Free.JP.mathPlain rfl (by decide +kernel)) hisR ?_
  intro p e s m args below meth c s₁ Bd hml0 hP hK
  obtain ⟨rfl, hZ, hh⟩ := hP
  have hx := Bd.exec
  have hby := Bd.bytes
  have hml : c.maxLocals = 4 := hml0
  have hown : s.vm.findClass "java/lang/Math" = some m.cls := findClass_of_methodNamed Bd.named
  have hnm := (name_of_methodNamed Bd.named Bd.method).1
  have X0 : Stand p l e ({ frames := 0, cells := 0, slots := 0, locals := 0 } : Room) s m #[(.long p1), (.long p2)] below meth c s₁ [] 0 0 := Stand.of_body Bd
  have e0 : s₁.heap = h0 := by rw [← hh, Bd.state]; rfl
  have N0 := Fr.nil n0
  show own_Rch p.tables e below (s₁.setTop (entryFrame m #[(.long p1), (.long p2)] 4)) (own_End s (own_Pure (.long (own_maxL p1 p2)) h0 n0) ({ frames := 0, cells := 0, slots := 0, locals := 0 } : Room).cells ({ frames := 0, cells := 0, slots := 0, locals := 0 } : Room).slots)
  refine own_via (fun t k => castTop (ef_mx m p1 p2) k) ?_
  show own_Rch p.tables e below (s₁.setTop (mkF m 0 #[.val (.long p1), .second, .val (.long p2), .second] [])) _
  refine own_via (fun t k => XS.lloadN X0.here hx rfl (hb hby d2_0) rfl k) ?_
  show own_Rch p.tables e below (s₁.setTop (mkF m 1 #[.val (.long p1), .second, .val (.long p2), .second] [(.long p1)])) _
  refine own_via (fun t k => XS.lloadN X0.here hx rfl (hb hby d2_1) rfl k) ?_
  show own_Rch p.tables e below (s₁.setTop (mkF m 2 #[.val (.long p1), .second, .val (.long p2), .second] [(.long p2), (.long p1)])) _
  refine own_via (fun t k => XS.lcmp X0.here hx rfl (hb hby d2_2) rfl k) ?_
  show own_Rch p.tables e below (s₁.setTop (mkF m 3 #[.val (.long p1), .second, .val (.long p2), .second] [(.int (lcmpW p1 p2))])) _
  by_cases c3 : p1 < p2
  · refine own_via (fun t k => XS.ifYes X0.here hx rfl (pc0 := 3) (pc' := 10) rfl (hb hby d2_3) rfl ((if0 _ _).trans (tlt ((lw_lt p1 p2).mpr c3)).1) (by decide) (by decide) k) ?_
    show own_Rch p.tables e below (s₁.setTop (mkF m 10 #[.val (.long p1), .second, .val (.long p2), .second] [])) _
    refine own_via (fun t k => XS.lloadN X0.here hx rfl (hb hby d2_10) rfl k) ?_
    show own_Rch p.tables e below (s₁.setTop (mkF m 11 #[.val (.long p1), .second, .val (.long p2), .second] [(.long p2)])) _
    exact own_fin X0 hx (t := .long) (i := .lreturn) Bd.returns Bd.notSynchronized rfl (Or.inr (Or.inl ⟨rfl, rfl, _, rfl⟩)) (hb hby d2_11) (by decide) (by decide) ⟨by simp only [own_maxL, if_pos c3], N0, e0⟩
  · refine own_via (fun t k => XS.ifNo X0.here hx rfl (hb hby d2_3) rfl ((if0 _ _).trans (flt (fun q => c3 ((lw_lt p1 p2).mp q))).1) k) ?_
    show own_Rch p.tables e below (s₁.setTop (mkF m 6 #[.val (.long p1), .second, .val (.long p2), .second] [])) _
    refine own_via (fun t k => XS.lloadN X0.here hx rfl (hb hby d2_6) rfl k) ?_
    show own_Rch p.tables e below (s₁.setTop (mkF m 7 #[.val (.long p1), .second, .val (.long p2), .second] [(.long p1)])) _
    refine own_via (fun t k => XS.goto X0.here hx rfl (pc0 := 7) (pc' := 11) rfl (hb hby d2_7) (by decide) (by decide) k) ?_
    show own_Rch p.tables e below (s₁.setTop (mkF m 11 #[.val (.long p1), .second, .val (.long p2), .second] [(.long p1)])) _
    exact own_fin X0 hx (t := .long) (i := .lreturn) Bd.returns Bd.notSynchronized rfl (Or.inr (Or.inl ⟨rfl, rfl, _, rfl⟩)) (hb hby d2_11) (by decide) (by decide) ⟨by simp only [own_maxL, if_neg c3], N0, e0⟩
def Q1 (Z : State) (a1 : Addr) (q3 q4 : Int64) (h0 : Heap) (n0 : Nat) (v : Option Value) (h : Heap) (L : List Loc) : Prop := v = none ∧ Fr n0 L ∧ Keep h0 h [a1] ∧ Exa Z h a1 "com/example/quotienta/quotienta/io/JaniStates$Slot" ∧ Fld Z h a1 "com/example/quotienta/quotienta/io/JaniStates$Slot" "lower" "J" (.long q3) ∧ Fld Z h a1 "com/example/quotienta/quotienta/io/JaniStates$Slot" "upper" "J" (.long q4)
theorem ef_1 (m : MethodId) (x0 : Addr) (x1 : Addr) (x2 : Int64) (x3 : Int64) : entryFrame m #[(.ref x0), (.ref x1), (.long x2), (.long x3), .null] 7 = mkF m 0 #[.val (.ref x0), .val (.ref x1), .val (.long x2), .second, .val (.long x3), .second, .val .null] [] := by first | (simp [entryFrame, mkF, argsToLocals, Value.category]; done) | rfl
theorem pn_com_example_quotienta_quotienta_io_JaniStates_Slot : plainName "com/example/quotienta/quotienta/io/JaniStates$Slot" = true := by first | (simp [plainName, overriddenIn]; done) | decide +kernel
theorem d3_0 : decode prog_16_method_1_code 0 = .ok (.aload_n 0, 1) := by decide +kernel
theorem d3_1 : decode prog_16_method_1_code 1 = .ok (.invokespecial 1, 3) := by decide +kernel
theorem d3_4 : decode prog_16_method_1_code 4 = .ok (.aload_n 0, 1) := by decide +kernel
theorem d3_5 : decode prog_16_method_1_code 5 = .ok (.aload_n 1, 1) := by decide +kernel
theorem d3_6 : decode prog_16_method_1_code 6 = .ok (.putfield 7, 3) := by decide +kernel
theorem d3_9 : decode prog_16_method_1_code 9 = .ok (.aload_n 0, 1) := by decide +kernel
theorem d3_10 : decode prog_16_method_1_code 10 = .ok (.lload_n 2, 1) := by decide +kernel
theorem d3_11 : decode prog_16_method_1_code 11 = .ok (.putfield 13, 3) := by decide +kernel
theorem d3_14 : decode prog_16_method_1_code 14 = .ok (.aload_n 0, 1) := by decide +kernel
theorem d3_15 : decode prog_16_method_1_code 15 = .ok (.lload 4, 2) := by decide +kernel
theorem d3_17 : decode prog_16_method_1_code 17 = .ok (.putfield 17, 3) := by decide +kernel
theorem d3_20 : decode prog_16_method_1_code 20 = .ok (.aload_n 0, 1) := by decide +kernel
theorem d3_21 : decode prog_16_method_1_code 21 = .ok (.aload 6, 2) := by decide +kernel
theorem d3_23 : decode prog_16_method_1_code 23 = .ok (.putfield 20, 3) := by decide +kernel
theorem d3_26 : decode prog_16_method_1_code 26 = .ok (.return_, 1) := by decide +kernel
set_option maxRecDepth 65536 in
set_option maxHeartbeats 40000000 in
theorem rm1 (l : Launch) (Z : State) (a0 : Array Value) (hw : ∀ d ∈ tables_1, d.before a0 Z = true) (ws : List Jvm.Cond) (a1 a2 : Addr) (q3 q4 : Int64) (h0 : Heap) (n0 : Nat) (g_a1 : n0 ≤ a1) (E_a1 : Exa Z h0 a1 "com/example/quotienta/quotienta/io/JaniStates$Slot") (F_name : Fld Z h0 a1 "com/example/quotienta/quotienta/io/JaniStates$Slot" "name" "Ljava/lang/String;" .null) (F_lower : Fld Z h0 a1 "com/example/quotienta/quotienta/io/JaniStates$Slot" "lower" "J" (.long 0)) (F_upper : Fld Z h0 a1 "com/example/quotienta/quotienta/io/JaniStates$Slot" "upper" "J" (.long 0)) (F_valueNames : Fld Z h0 a1 "com/example/quotienta/quotienta/io/JaniStates$Slot" "valueNames" "[Ljava/lang/String;" .null) :
    MetFree l (⟨"com/example/quotienta/quotienta/io/JaniStates$Slot", "<init>", "(Ljava/lang/String;JJ[Ljava/lang/String;)V"⟩ : MethodName) (head1 (Jvm.Cond.code (⟨"com/example/quotienta/quotienta/io/JaniStates$Slot", "<init>", "(Ljava/lang/String;JJ[Ljava/lang/String;)V"⟩ : MethodName) prog_16_method_1_code 7 none :: ws) ({ frames := 1, cells := 0, slots := 0, locals := 12 } : Room)) (fun a U => a = #[(.ref a1), (.ref a2), (.long q3), (.long q4), .null] ∧ Z.Warmed39 U.vm ∧ U.heap = h0) (fun _ _ _ _ _ => True) (fun _ U o U' => ∃ v L, o = .returned v ∧ Q1 Z a1 q3 q4 h0 n0 v U'.heap L ∧ FrameEnd U o U' L ({ frames := 1, cells := 0, slots := 0, locals := 12 } : Room).cells ({ frames := 1, cells := 0, slots := 0, locals := 12 } : Room).slots) := by
  refine MetFree.of_bodySF (plainFor_of_name pn_com_example_quotienta_quotienta_io_JaniStates_Slot) hisR ?_
  intro p e s m args below meth c s₁ Bd hml0 hP hK
  obtain ⟨rfl, hZ, hh⟩ := hP
  have hx := Bd.exec
  have hby := Bd.bytes
  have hml : c.maxLocals = 7 := hml0
  have hown : s.vm.findClass "com/example/quotienta/quotienta/io/JaniStates$Slot" = some m.cls := findClass_of_methodNamed Bd.named
  have hnm := (name_of_methodNamed Bd.named Bd.method).1
  have X0 : Stand p l e ({ frames := 1, cells := 0, slots := 0, locals := 12 } : Room) s m #[(.ref a1), (.ref a2), (.long q3), (.long q4), .null] below meth c s₁ [] 0 0 := Stand.of_body Bd
  have e0 : s₁.heap = h0 := by rw [← hh, Bd.state]; rfl
  have N0 := Fr.nil n0
  show own_Rch p.tables e below (s₁.setTop (entryFrame m #[(.ref a1), (.ref a2), (.long q3), (.long q4), .null] 7)) (own_End s (Q1 Z a1 q3 q4 h0 n0) ({ frames := 1, cells := 0, slots := 0, locals := 12 } : Room).cells ({ frames := 1, cells := 0, slots := 0, locals := 12 } : Room).slots)
  refine own_via (fun t k => castTop (ef_1 m a1 a2 q3 q4) k) ?_
  have Kc := Keep.refl h0 [a1]
  show own_Rch p.tables e below (s₁.setTop (mkF m 0 #[.val (.ref a1), .val (.ref a2), .val (.long q3), .second, .val (.long q4), .second, .val .null] [])) _
  refine own_via (fun t k => XS.aloadN X0.here hx rfl (hb hby d3_0) rfl rfl k) ?_
  show own_Rch p.tables e below (s₁.setTop (mkF m 1 #[.val (.ref a1), .val (.ref a2), .val (.long q3), .second, .val (.long q4), .second, .val .null] [(.ref a1)])) _
  obtain ⟨T1, X1, e1, st1⟩ := initO X0 hx hZ hown (hw _ (List.mem_of_getElem? (i := 21) rfl)) (hw _ (List.mem_of_getElem? (i := 22) rfl)) (hw _ (List.mem_of_getElem? (i := 23) rfl)) e0 (g := (mkF m 1 #[.val (.ref a1), .val (.ref a2), .val (.long q3), .second, .val (.long q4), .second, .val .null] [(.ref a1)])) rfl (by rw [hml]; rfl) rfl (hb hby d3_1) (by decide) (W := 0) (by show 2 * 0 + _ ≤ _; exact Nat.le_of_eq rfl) (by decide)
  refine own_via st1 ?_
  show own_Rch p.tables e below (T1.setTop (mkF m 4 #[.val (.ref a1), .val (.ref a2), .val (.long q3), .second, .val (.long q4), .second, .val .null] [])) _
  refine own_via (fun t k => XS.aloadN X1.here hx rfl (hb hby d3_4) rfl rfl k) ?_
  show own_Rch p.tables e below (T1.setTop (mkF m 5 #[.val (.ref a1), .val (.ref a2), .val (.long q3), .second, .val (.long q4), .second, .val .null] [(.ref a1)])) _
  refine own_via (fun t k => XS.aloadN X1.here hx rfl (hb hby d3_5) rfl rfl k) ?_
  show own_Rch p.tables e below (T1.setTop (mkF m 6 #[.val (.ref a1), .val (.ref a2), .val (.long q3), .second, .val (.long q4), .second, .val .null] [(.ref a2), (.ref a1)])) _
  obtain ⟨T2, h2, X2, e2, W2, st2⟩ := putF X1 hx hZ hown (host := "") (Or.inl (hw _ (List.mem_of_getElem? (i := 24) rfl))) Via.refl e1 F_name E_a1 (Or.inr ⟨(hw _ (List.mem_of_getElem? (i := 25) rfl)), rfl, hnm⟩) (hw _ (List.mem_of_getElem? (i := 8) rfl)) (ty := (.object "java/lang/String")) (by decide) rfl rfl (g := (mkF m 6 #[.val (.ref a1), .val (.ref a2), .val (.long q3), .second, .val (.long q4), .second, .val .null] [(.ref a2), (.ref a1)])) rfl rfl (hb hby d3_6)
  have Fw2 := F_name.same W2
  have N2 := Fr.snoc X2 N0 g_a1
  have Kc2 := Kc.wr W2 (Or.inl (by simp))
  refine own_via st2 ?_
  show own_Rch p.tables e below (T2.setTop (mkF m 9 #[.val (.ref a1), .val (.ref a2), .val (.long q3), .second, .val (.long q4), .second, .val .null] [])) _
  refine own_via (fun t k => XS.aloadN X2.here hx rfl (hb hby d3_9) rfl rfl k) ?_
  show own_Rch p.tables e below (T2.setTop (mkF m 10 #[.val (.ref a1), .val (.ref a2), .val (.long q3), .second, .val (.long q4), .second, .val .null] [(.ref a1)])) _
  refine own_via (fun t k => XS.lloadN X2.here hx rfl (hb hby d3_10) rfl k) ?_
  show own_Rch p.tables e below (T2.setTop (mkF m 11 #[.val (.ref a1), .val (.ref a2), .val (.long q3), .second, .val (.long q4), .second, .val .null] [(.long q3), (.ref a1)])) _
  obtain ⟨T3, h3, X3, e3, W3, st3⟩ := putF X2 hx hZ hown (host := "") (Or.inl (hw _ (List.mem_of_getElem? (i := 26) rfl))) Via.refl e2 (F_lower.other W2 (Or.inr (slot_ne (Or.inr (hw _ (List.mem_of_getElem? (i := 27) rfl))) (Or.inr (hw _ (List.mem_of_getElem? (i := 25) rfl))) (by decide) (t := .long) (t' := (.object "java/lang/String")) (by decide) (by decide)))) (E_a1.wr W2) (Or.inr ⟨(hw _ (List.mem_of_getElem? (i := 27) rfl)), rfl, hnm⟩) (hw _ (List.mem_of_getElem? (i := 8) rfl)) (ty := .long) (by decide) rfl rfl (g := (mkF m 11 #[.val (.ref a1), .val (.ref a2), .val (.long q3), .second, .val (.long q4), .second, .val .null] [(.long q3), (.ref a1)])) rfl rfl (hb hby d3_11)
  have Fw3 := (F_lower.other W2 (Or.inr (slot_ne (Or.inr (hw _ (List.mem_of_getElem? (i := 27) rfl))) (Or.inr (hw _ (List.mem_of_getElem? (i := 25) rfl))) (by decide) (t := .long) (t' := (.object "java/lang/String")) (by decide) (by decide)))).same W3
  have N3 := Fr.snoc X3 N2 g_a1
  have Kc3 := Kc2.wr W3 (Or.inl (by simp))
  refine own_via st3 ?_
  show own_Rch p.tables e below (T3.setTop (mkF m 14 #[.val (.ref a1), .val (.ref a2), .val (.long q3), .second, .val (.long q4), .second, .val .null] [])) _
  refine own_via (fun t k => XS.aloadN X3.here hx rfl (hb hby d3_14) rfl rfl k) ?_
  show own_Rch p.tables e below (T3.setTop (mkF m 15 #[.val (.ref a1), .val (.ref a2), .val (.long q3), .second, .val (.long q4), .second, .val .null] [(.ref a1)])) _
  refine own_via (fun t k => XS.lload X3.here hx rfl (hb hby d3_15) rfl k) ?_
  show own_Rch p.tables e below (T3.setTop (mkF m 17 #[.val (.ref a1), .val (.ref a2), .val (.long q3), .second, .val (.long q4), .second, .val .null] [(.long q4), (.ref a1)])) _
  obtain ⟨T4, h4, X4, e4, W4, st4⟩ := putF X3 hx hZ hown (host := "") (Or.inl (hw _ (List.mem_of_getElem? (i := 28) rfl))) Via.refl e3 ((F_upper.other W2 (Or.inr (slot_ne (Or.inr (hw _ (List.mem_of_getElem? (i := 29) rfl))) (Or.inr (hw _ (List.mem_of_getElem? (i := 25) rfl))) (by decide) (t := .long) (t' := (.object "java/lang/String")) (by decide) (by decide)))).other W3 (Or.inr (slot_ne (Or.inr (hw _ (List.mem_of_getElem? (i := 29) rfl))) (Or.inr (hw _ (List.mem_of_getElem? (i := 27) rfl))) (by decide) (t := .long) (t' := .long) (by decide) (by decide)))) ((E_a1.wr W2).wr W3) (Or.inr ⟨(hw _ (List.mem_of_getElem? (i := 29) rfl)), rfl, hnm⟩) (hw _ (List.mem_of_getElem? (i := 8) rfl)) (ty := .long) (by decide) rfl rfl (g := (mkF m 17 #[.val (.ref a1), .val (.ref a2), .val (.long q3), .second, .val (.long q4), .second, .val .null] [(.long q4), (.ref a1)])) rfl rfl (hb hby d3_17)
  have Fw4 := ((F_upper.other W2 (Or.inr (slot_ne (Or.inr (hw _ (List.mem_of_getElem? (i := 29) rfl))) (Or.inr (hw _ (List.mem_of_getElem? (i := 25) rfl))) (by decide) (t := .long) (t' := (.object "java/lang/String")) (by decide) (by decide)))).other W3 (Or.inr (slot_ne (Or.inr (hw _ (List.mem_of_getElem? (i := 29) rfl))) (Or.inr (hw _ (List.mem_of_getElem? (i := 27) rfl))) (by decide) (t := .long) (t' := .long) (by decide) (by decide)))).same W4
  have N4 := Fr.snoc X4 N3 g_a1
  have Kc4 := Kc3.wr W4 (Or.inl (by simp))
  refine own_via st4 ?_
  show own_Rch p.tables e below (T4.setTop (mkF m 20 #[.val (.ref a1), .val (.ref a2), .val (.long q3), .second, .val (.long q4), .second, .val .null] [])) _
  refine own_via (fun t k => XS.aloadN X4.here hx rfl (hb hby d3_20) rfl rfl k) ?_
  show own_Rch p.tables e below (T4.setTop (mkF m 21 #[.val (.ref a1), .val (.ref a2), .val (.long q3), .second, .val (.long q4), .second, .val .null] [(.ref a1)])) _
  refine own_via (fun t k => XS.aload X4.here hx rfl (hb hby d3_21) rfl rfl k) ?_
  show own_Rch p.tables e below (T4.setTop (mkF m 23 #[.val (.ref a1), .val (.ref a2), .val (.long q3), .second, .val (.long q4), .second, .val .null] [.null, (.ref a1)])) _
  obtain ⟨T5, h5, X5, e5, W5, st5⟩ := putF X4 hx hZ hown (host := "") (Or.inl (hw _ (List.mem_of_getElem? (i := 30) rfl))) Via.refl e4 (((F_valueNames.other W2 (Or.inr (slot_ne (Or.inr (hw _ (List.mem_of_getElem? (i := 31) rfl))) (Or.inr (hw _ (List.mem_of_getElem? (i := 25) rfl))) (by decide) (t := (.array (.object "java/lang/String"))) (t' := (.object "java/lang/String")) (by decide) (by decide)))).other W3 (Or.inr (slot_ne (Or.inr (hw _ (List.mem_of_getElem? (i := 31) rfl))) (Or.inr (hw _ (List.mem_of_getElem? (i := 27) rfl))) (by decide) (t := (.array (.object "java/lang/String"))) (t' := .long) (by decide) (by decide)))).other W4 (Or.inr (slot_ne (Or.inr (hw _ (List.mem_of_getElem? (i := 31) rfl))) (Or.inr (hw _ (List.mem_of_getElem? (i := 29) rfl))) (by decide) (t := (.array (.object "java/lang/String"))) (t' := .long) (by decide) (by decide)))) (((E_a1.wr W2).wr W3).wr W4) (Or.inr ⟨(hw _ (List.mem_of_getElem? (i := 31) rfl)), rfl, hnm⟩) (hw _ (List.mem_of_getElem? (i := 8) rfl)) (ty := (.array (.object "java/lang/String"))) (by decide) rfl rfl (g := (mkF m 23 #[.val (.ref a1), .val (.ref a2), .val (.long q3), .second, .val (.long q4), .second, .val .null] [.null, (.ref a1)])) rfl rfl (hb hby d3_23)
  have Fw5 := (((F_valueNames.other W2 (Or.inr (slot_ne (Or.inr (hw _ (List.mem_of_getElem? (i := 31) rfl))) (Or.inr (hw _ (List.mem_of_getElem? (i := 25) rfl))) (by decide) (t := (.array (.object "java/lang/String"))) (t' := (.object "java/lang/String")) (by decide) (by decide)))).other W3 (Or.inr (slot_ne (Or.inr (hw _ (List.mem_of_getElem? (i := 31) rfl))) (Or.inr (hw _ (List.mem_of_getElem? (i := 27) rfl))) (by decide) (t := (.array (.object "java/lang/String"))) (t' := .long) (by decide) (by decide)))).other W4 (Or.inr (slot_ne (Or.inr (hw _ (List.mem_of_getElem? (i := 31) rfl))) (Or.inr (hw _ (List.mem_of_getElem? (i := 29) rfl))) (by decide) (t := (.array (.object "java/lang/String"))) (t' := .long) (by decide) (by decide)))).same W5
  have N5 := Fr.snoc X5 N4 g_a1
  have Kc5 := Kc4.wr W5 (Or.inl (by simp))
  refine own_via st5 ?_
  show own_Rch p.tables e below (T5.setTop (mkF m 26 #[.val (.ref a1), .val (.ref a2), .val (.long q3), .second, .val (.long q4), .second, .val .null] [])) _
  exact own_fin0 X5 hx Bd.returns Bd.notSynchronized (hb hby d3_26) (by decide) (by decide) (by rw [e5]; exact ⟨rfl, N5, Kc5, ((((E_a1.wr W2).wr W3).wr W4).wr W5), ((Fw3.other W4 (Or.inr (slot_ne (Or.inr (hw _ (List.mem_of_getElem? (i := 27) rfl))) (Or.inr (hw _ (List.mem_of_getElem? (i := 29) rfl))) (by decide) (t := .long) (t' := .long) (by decide) (by decide)))).other W5 (Or.inr (slot_ne (Or.inr (hw _ (List.mem_of_getElem? (i := 27) rfl))) (Or.inr (hw _ (List.mem_of_getElem? (i := 31) rfl))) (by decide) (t := .long) (t' := (.array (.object "java/lang/String"))) (by decide) (by decide)))), (Fw4.other W5 (Or.inr (slot_ne (Or.inr (hw _ (List.mem_of_getElem? (i := 29) rfl))) (Or.inr (hw _ (List.mem_of_getElem? (i := 31) rfl))) (by decide) (t := .long) (t' := (.array (.object "java/lang/String"))) (by decide) (by decide))))⟩)
theorem ef_h (m : MethodId) (x0 : Addr) (x1 : Int64) : entryFrame m #[(.ref x0), (.long x1)] 3 = mkF m 0 #[.val (.ref x0), .val (.long x1), .second] [] := by first | (simp [entryFrame, mkF, argsToLocals, Value.category]; done) | rfl
theorem d6_0 : decode prog_16_method_2_code 0 = .ok (.lload_n 1, 1) := by decide +kernel
theorem d6_1 : decode prog_16_method_2_code 1 = .ok (.aload_n 0, 1) := by decide +kernel
theorem d6_2 : decode prog_16_method_2_code 2 = .ok (.getfield 13, 3) := by decide +kernel
theorem d6_5 : decode prog_16_method_2_code 5 = .ok (.lcmp, 1) := by decide +kernel
theorem d6_6 : decode prog_16_method_2_code 6 = .ok (.ifCond .lt 16, 3) := by decide +kernel
theorem d6_22 : decode prog_16_method_2_code 22 = .ok (.iconst 0, 1) := by decide +kernel
theorem d6_23 : decode prog_16_method_2_code 23 = .ok (.ireturn, 1) := by decide +kernel
theorem d6_9 : decode prog_16_method_2_code 9 = .ok (.lload_n 1, 1) := by decide +kernel
theorem d6_10 : decode prog_16_method_2_code 10 = .ok (.aload_n 0, 1) := by decide +kernel
theorem d6_11 : decode prog_16_method_2_code 11 = .ok (.getfield 17, 3) := by decide +kernel
theorem d6_14 : decode prog_16_method_2_code 14 = .ok (.lcmp, 1) := by decide +kernel
theorem d6_15 : decode prog_16_method_2_code 15 = .ok (.ifCond .gt 7, 3) := by decide +kernel
theorem d6_18 : decode prog_16_method_2_code 18 = .ok (.iconst 1, 1) := by decide +kernel
theorem d6_19 : decode prog_16_method_2_code 19 = .ok (.goto 4, 3) := by decide +kernel
set_option maxRecDepth 65536 in
set_option maxHeartbeats 40000000 in
theorem rmh (l : Launch) (Z : State) (a0 : Array Value) (hw : ∀ d ∈ tables_1, d.before a0 Z = true) (ws : List Jvm.Cond) (a1 : Addr) (p2 lo hi : Int64) (h0 : Heap) (n0 : Nat) (F_lower : Fld Z h0 a1 "com/example/quotienta/quotienta/io/JaniStates$Slot" "lower" "J" (.long lo)) (F_upper : Fld Z h0 a1 "com/example/quotienta/quotienta/io/JaniStates$Slot" "upper" "J" (.long hi)) :
    MetFree l (⟨"com/example/quotienta/quotienta/io/JaniStates$Slot", "holds", "(J)Z"⟩ : MethodName) (head1 (Jvm.Cond.code (⟨"com/example/quotienta/quotienta/io/JaniStates$Slot", "holds", "(J)Z"⟩ : MethodName) prog_16_method_2_code 3 (some .boolean) :: ws) ({ frames := 0, cells := 0, slots := 0, locals := 0 } : Room)) (fun a U => a = #[(.ref a1), (.long p2)] ∧ Z.Warmed39 U.vm ∧ U.heap = h0) (fun _ _ _ _ _ => True) (fun _ U o U' => ∃ v L, o = .returned v ∧ own_Pure (.int (own_holds lo hi p2)) h0 n0 v U'.heap L ∧ FrameEnd U o U' L ({ frames := 0, cells := 0, slots := 0, locals := 0 } : Room).cells ({ frames := 0, cells := 0, slots := 0, locals := 0 } : Room).slots) := by
  refine MetFree.of_bodySF (plainFor_of_name pn_com_example_quotienta_quotienta_io_JaniStates_Slot) hisR ?_
  intro p e s m args below meth c s₁ Bd hml0 hP hK
  obtain ⟨rfl, hZ, hh⟩ := hP
  have hx := Bd.exec
  have hby := Bd.bytes
  have hml : c.maxLocals = 3 := hml0
  have hown : s.vm.findClass "com/example/quotienta/quotienta/io/JaniStates$Slot" = some m.cls := findClass_of_methodNamed Bd.named
  have hnm := (name_of_methodNamed Bd.named Bd.method).1
  have X0 : Stand p l e ({ frames := 0, cells := 0, slots := 0, locals := 0 } : Room) s m #[(.ref a1), (.long p2)] below meth c s₁ [] 0 0 := Stand.of_body Bd
  have e0 : s₁.heap = h0 := by rw [← hh, Bd.state]; rfl
  have N0 := Fr.nil n0
  show own_Rch p.tables e below (s₁.setTop (entryFrame m #[(.ref a1), (.long p2)] 3)) (own_End s (own_Pure (.int (own_holds lo hi p2)) h0 n0) ({ frames := 0, cells := 0, slots := 0, locals := 0 } : Room).cells ({ frames := 0, cells := 0, slots := 0, locals := 0 } : Room).slots)
  refine own_via (fun t k => castTop (ef_h m a1 p2) k) ?_
  show own_Rch p.tables e below (s₁.setTop (mkF m 0 #[.val (.ref a1), .val (.long p2), .second] [])) _
  refine own_via (fun t k => XS.lloadN X0.here hx rfl (hb hby d6_0) rfl k) ?_
  show own_Rch p.tables e below (s₁.setTop (mkF m 1 #[.val (.ref a1), .val (.long p2), .second] [(.long p2)])) _
  refine own_via (fun t k => XS.aloadN X0.here hx rfl (hb hby d6_1) rfl rfl k) ?_
  show own_Rch p.tables e below (s₁.setTop (mkF m 2 #[.val (.ref a1), .val (.long p2), .second] [(.ref a1), (.long p2)])) _
  obtain ⟨T1, X1, e1, st1⟩ := getF X0 hx hZ hown (host := "") (Or.inl (hw _ (List.mem_of_getElem? (i := 26) rfl))) Via.refl e0 F_lower (g := (mkF m 2 #[.val (.ref a1), .val (.long p2), .second] [(.ref a1), (.long p2)])) rfl rfl (hb hby d6_2)
  refine own_via st1 ?_
  show own_Rch p.tables e below (T1.setTop (mkF m 5 #[.val (.ref a1), .val (.long p2), .second] [(.long lo), (.long p2)])) _
  refine own_via (fun t k => XS.lcmp X1.here hx rfl (hb hby d6_5) rfl k) ?_
  show own_Rch p.tables e below (T1.setTop (mkF m 6 #[.val (.ref a1), .val (.long p2), .second] [(.int (lcmpW p2 lo))])) _
  by_cases c6 : p2 < lo
  · refine own_via (fun t k => XS.ifYes X1.here hx rfl (pc0 := 6) (pc' := 22) rfl (hb hby d6_6) rfl ((if0 _ _).trans (tlt ((lw_lt p2 lo).mpr c6)).1) (by decide) (by decide) k) ?_
    show own_Rch p.tables e below (T1.setTop (mkF m 22 #[.val (.ref a1), .val (.long p2), .second] [])) _
    refine own_via (fun t k => XS.iconst X1.here hx rfl (hb hby d6_22) k) ?_
    show own_Rch p.tables e below (T1.setTop (mkF m 23 #[.val (.ref a1), .val (.long p2), .second] [(.int (0 : Int32))])) _
    exact own_fin X1 hx (t := .boolean) (i := .ireturn) Bd.returns Bd.notSynchronized rfl (Or.inl ⟨rfl, by simp, _, rfl⟩) (hb hby d6_23) (by decide) (by decide) ⟨by simp only [own_holds, if_pos c6], N0, e1⟩
  · refine own_via (fun t k => XS.ifNo X1.here hx rfl (hb hby d6_6) rfl ((if0 _ _).trans (flt (fun q => c6 ((lw_lt p2 lo).mp q))).1) k) ?_
    show own_Rch p.tables e below (T1.setTop (mkF m 9 #[.val (.ref a1), .val (.long p2), .second] [])) _
    refine own_via (fun t k => XS.lloadN X1.here hx rfl (hb hby d6_9) rfl k) ?_
    show own_Rch p.tables e below (T1.setTop (mkF m 10 #[.val (.ref a1), .val (.long p2), .second] [(.long p2)])) _
    refine own_via (fun t k => XS.aloadN X1.here hx rfl (hb hby d6_10) rfl rfl k) ?_
    show own_Rch p.tables e below (T1.setTop (mkF m 11 #[.val (.ref a1), .val (.long p2), .second] [(.ref a1), (.long p2)])) _
    obtain ⟨T2, X2, e2, st2⟩ := getF X1 hx hZ hown (host := "") (Or.inl (hw _ (List.mem_of_getElem? (i := 28) rfl))) Via.refl e1 F_upper (g := (mkF m 11 #[.val (.ref a1), .val (.long p2), .second] [(.ref a1), (.long p2)])) rfl rfl (hb hby d6_11)
    refine own_via st2 ?_
    show own_Rch p.tables e below (T2.setTop (mkF m 14 #[.val (.ref a1), .val (.long p2), .second] [(.long hi), (.long p2)])) _
    refine own_via (fun t k => XS.lcmp X2.here hx rfl (hb hby d6_14) rfl k) ?_
    show own_Rch p.tables e below (T2.setTop (mkF m 15 #[.val (.ref a1), .val (.long p2), .second] [(.int (lcmpW p2 hi))])) _
    by_cases c15 : hi < p2
    · refine own_via (fun t k => XS.ifYes X2.here hx rfl (pc0 := 15) (pc' := 22) rfl (hb hby d6_15) rfl ((if0 _ _).trans (tlt ((lw_gt p2 hi).mpr c15)).2.2.1) (by decide) (by decide) k) ?_
      show own_Rch p.tables e below (T2.setTop (mkF m 22 #[.val (.ref a1), .val (.long p2), .second] [])) _
      refine own_via (fun t k => XS.iconst X2.here hx rfl (hb hby d6_22) k) ?_
      show own_Rch p.tables e below (T2.setTop (mkF m 23 #[.val (.ref a1), .val (.long p2), .second] [(.int (0 : Int32))])) _
      exact own_fin X2 hx (t := .boolean) (i := .ireturn) Bd.returns Bd.notSynchronized rfl (Or.inl ⟨rfl, by simp, _, rfl⟩) (hb hby d6_23) (by decide) (by decide) ⟨by simp only [own_holds, if_neg c6, if_pos c15], N0, e2⟩
    · refine own_via (fun t k => XS.ifNo X2.here hx rfl (hb hby d6_15) rfl ((if0 _ _).trans (flt (fun q => c15 ((lw_gt p2 hi).mp q))).2.2.1) k) ?_
      show own_Rch p.tables e below (T2.setTop (mkF m 18 #[.val (.ref a1), .val (.long p2), .second] [])) _
      refine own_via (fun t k => XS.iconst X2.here hx rfl (hb hby d6_18) k) ?_
      show own_Rch p.tables e below (T2.setTop (mkF m 19 #[.val (.ref a1), .val (.long p2), .second] [(.int (1 : Int32))])) _
      refine own_via (fun t k => XS.goto X2.here hx rfl (pc0 := 19) (pc' := 23) rfl (hb hby d6_19) (by decide) (by decide) k) ?_
      show own_Rch p.tables e below (T2.setTop (mkF m 23 #[.val (.ref a1), .val (.long p2), .second] [(.int (1 : Int32))])) _
      exact own_fin X2 hx (t := .boolean) (i := .ireturn) Bd.returns Bd.notSynchronized rfl (Or.inl ⟨rfl, by simp, _, rfl⟩) (hb hby d6_23) (by decide) (by decide) ⟨by simp only [own_holds, if_neg c6, if_neg c15], N0, e2⟩
theorem ef_a (m : MethodId) (x0 : Addr) (x1 : Int64) (x2 : Int64) (x3 : Int64) : entryFrame m #[(.ref x0), (.long x1), (.long x2), (.long x3)] 8 = mkF m 0 #[.val (.ref x0), .val (.long x1), .second, .val (.long x2), .second, .val (.long x3), .second, .unset] [] := by first | (simp [entryFrame, mkF, argsToLocals, Value.category]; done) | rfl
theorem pn_com_example_quotienta_quotienta_io_SlotHoldsPinLaw : plainName "com/example/quotienta/quotienta/io/SlotHoldsPinLaw" = true := by first | (simp [plainName, overriddenIn]; done) | decide +kernel
theorem d5_0 : decode method_3_code 0 = .ok (.lload_n 1, 1) := by decide +kernel
theorem d5_1 : decode method_3_code 1 = .ok (.lload 5, 2) := by decide +kernel
theorem d5_3 : decode method_3_code 3 = .ok (.lload_n 3, 1) := by decide +kernel
theorem d5_4 : decode method_3_code 4 = .ok (.invokestatic 7, 3) := by decide +kernel
theorem pd_0 : parseMethodDescriptor "(JJ)J" = some ⟨[.long, .long], some .long⟩ := by decide +kernel
theorem d5_7 : decode method_3_code 7 = .ok (.invokestatic 13, 3) := by decide +kernel
theorem d5_10 : decode method_3_code 10 = .ok (.lload 5, 2) := by decide +kernel
theorem d5_12 : decode method_3_code 12 = .ok (.lcmp, 1) := by decide +kernel
theorem d5_13 : decode method_3_code 13 = .ok (.ifCond .ne 7, 3) := by decide +kernel
theorem d5_16 : decode method_3_code 16 = .ok (.iconst 1, 1) := by decide +kernel
theorem d5_17 : decode method_3_code 17 = .ok (.goto 4, 3) := by decide +kernel
theorem d5_21 : decode method_3_code 21 = .ok (.istore 7, 2) := by decide +kernel
theorem d5_23 : decode method_3_code 23 = .ok (.aload_n 0, 1) := by decide +kernel
theorem d5_24 : decode method_3_code 24 = .ok (.lload 5, 2) := by decide +kernel
theorem d5_26 : decode method_3_code 26 = .ok (.invokevirtual 29, 3) := by decide +kernel
theorem pd_1 : parseMethodDescriptor "(J)Z" = some ⟨[.long], some .boolean⟩ := by decide +kernel
theorem d5_29 : decode method_3_code 29 = .ok (.iload 7, 2) := by decide +kernel
theorem d5_31 : decode method_3_code 31 = .ok (.if_icmp .ne 7, 3) := by decide +kernel
theorem d5_34 : decode method_3_code 34 = .ok (.iconst 1, 1) := by decide +kernel
theorem d5_35 : decode method_3_code 35 = .ok (.goto 4, 3) := by decide +kernel
theorem d5_39 : decode method_3_code 39 = .ok (.ireturn, 1) := by decide +kernel
theorem d5_20 : decode method_3_code 20 = .ok (.iconst 0, 1) := by decide +kernel
set_option maxRecDepth 65536 in
set_option maxHeartbeats 40000000 in
theorem rma (l : Launch) (Z : State) (a0 : Array Value) (hw : ∀ d ∈ tables_1, d.before a0 Z = true) (ws : List Jvm.Cond) (a1 : Addr) (lo hi p4 : Int64) (h0 : Heap) (n0 : Nat) (E_a1 : Exa Z h0 a1 "com/example/quotienta/quotienta/io/JaniStates$Slot") (F_lower : Fld Z h0 a1 "com/example/quotienta/quotienta/io/JaniStates$Slot" "lower" "J" (.long lo)) (F_upper : Fld Z h0 a1 "com/example/quotienta/quotienta/io/JaniStates$Slot" "upper" "J" (.long hi)) (hle : ¬ hi < lo) :
    MetFree l (⟨"com/example/quotienta/quotienta/io/SlotHoldsPinLaw", "agrees", "(Lcom/example/quotienta/quotienta/io/JaniStates$Slot;JJJ)Z"⟩ : MethodName) (head1 (Jvm.Cond.code (⟨"com/example/quotienta/quotienta/io/SlotHoldsPinLaw", "agrees", "(Lcom/example/quotienta/quotienta/io/JaniStates$Slot;JJJ)Z"⟩ : MethodName) method_3_code 8 (some .boolean) :: ws) ({ frames := 1, cells := 0, slots := 0, locals := 17 } : Room)) (fun a U => a = #[(.ref a1), (.long lo), (.long hi), (.long p4)] ∧ Z.Warmed39 U.vm ∧ U.heap = h0) (fun _ _ _ _ _ => True) (fun _ U o U' => ∃ v L, o = .returned v ∧ own_Pure (.int (1 : Int32)) h0 n0 v U'.heap L ∧ FrameEnd U o U' L ({ frames := 1, cells := 0, slots := 0, locals := 17 } : Room).cells ({ frames := 1, cells := 0, slots := 0, locals := 17 } : Room).slots) := by
  refine MetFree.of_bodySF (plainFor_of_name pn_com_example_quotienta_quotienta_io_SlotHoldsPinLaw) hisR ?_
  intro p e s m args below meth c s₁ Bd hml0 hP hK
  obtain ⟨rfl, hZ, hh⟩ := hP
  have hx := Bd.exec
  have hby := Bd.bytes
  have hml : c.maxLocals = 8 := hml0
  have hown : s.vm.findClass "com/example/quotienta/quotienta/io/SlotHoldsPinLaw" = some m.cls := findClass_of_methodNamed Bd.named
  have hnm := (name_of_methodNamed Bd.named Bd.method).1
  have X0 : Stand p l e ({ frames := 1, cells := 0, slots := 0, locals := 17 } : Room) s m #[(.ref a1), (.long lo), (.long hi), (.long p4)] below meth c s₁ [] 0 0 := Stand.of_body Bd
  have e0 : s₁.heap = h0 := by rw [← hh, Bd.state]; rfl
  have N0 := Fr.nil n0
  show own_Rch p.tables e below (s₁.setTop (entryFrame m #[(.ref a1), (.long lo), (.long hi), (.long p4)] 8)) (own_End s (own_Pure (.int (1 : Int32)) h0 n0) ({ frames := 1, cells := 0, slots := 0, locals := 17 } : Room).cells ({ frames := 1, cells := 0, slots := 0, locals := 17 } : Room).slots)
  refine own_via (fun t k => castTop (ef_a m a1 lo hi p4) k) ?_
  show own_Rch p.tables e below (s₁.setTop (mkF m 0 #[.val (.ref a1), .val (.long lo), .second, .val (.long hi), .second, .val (.long p4), .second, .unset] [])) _
  refine own_via (fun t k => XS.lloadN X0.here hx rfl (hb hby d5_0) rfl k) ?_
  show own_Rch p.tables e below (s₁.setTop (mkF m 1 #[.val (.ref a1), .val (.long lo), .second, .val (.long hi), .second, .val (.long p4), .second, .unset] [(.long lo)])) _
  refine own_via (fun t k => XS.lload X0.here hx rfl (hb hby d5_1) rfl k) ?_
  show own_Rch p.tables e below (s₁.setTop (mkF m 3 #[.val (.ref a1), .val (.long lo), .second, .val (.long hi), .second, .val (.long p4), .second, .unset] [(.long p4), (.long lo)])) _
  refine own_via (fun t k => XS.lloadN X0.here hx rfl (hb hby d5_3) rfl k) ?_
  show own_Rch p.tables e below (s₁.setTop (mkF m 4 #[.val (.ref a1), .val (.long lo), .second, .val (.long hi), .second, .val (.long p4), .second, .unset] [(.long hi), (.long p4), (.long lo)])) _
  obtain ⟨_, _, ⟨T1, L1, k1, n1⟩, -, X1, ⟨Lc1, hQ1, l1, y1, z1⟩, st1⟩ := Jvm.LawKit.callS X0 hx (y := (⟨"java/lang/Math", "min", "(JJ)J"⟩ : MethodName)) hown (mvT hZ (hw _ (List.mem_of_getElem? (i := 0) rfl))) (mvT hZ (hw _ (List.mem_of_getElem? (i := 1) rfl))) (mvT hZ (hw _ (List.mem_of_getElem? (i := 2) rfl))) (mvT hZ (hw _ (List.mem_of_getElem? (i := 3) rfl))) (by decide) (backOf (W := 2) (rmmn l Z a0 hw [] p4 hi h0 n0) hZ (hw _ (List.mem_of_getElem? (i := 3) rfl)) (hw _ (List.mem_of_getElem? (i := 2) rfl)) (by decide) (by decide)) (g := (mkF m 4 #[.val (.ref a1), .val (.long lo), .second, .val (.long hi), .second, .val (.long p4), .second, .unset] [(.long hi), (.long p4), (.long lo)])) rfl (by rw [hml]; rfl) (argsL := [(.long p4), (.long hi)]) (rest := [(.long lo)]) (lenOf pd_0 rfl) rfl (by show 2 * 0 + _ ≤ _; exact Nat.le_of_eq rfl) (hb hby d5_4) (fun _ _ => ⟨rfl, e0, (by decide : 0 + 0 ≤ _), (by decide : 0 + 0 ≤ _)⟩)
  dsimp only [Pt.U, Pt.locs, Pt.cells, Pt.slots] at X1 l1 y1 z1 st1 hQ1
  subst l1 y1 z1
  obtain ⟨rfl, N1q, eh1⟩ := hQ1
  have N1 := Fr.app N0 N1q
  refine own_via st1 ?_
  show own_Rch p.tables e below (T1.setTop (mkF m 7 #[.val (.ref a1), .val (.long lo), .second, .val (.long hi), .second, .val (.long p4), .second, .unset] [(.long (own_minL p4 hi)), (.long lo)])) _
  obtain ⟨_, _, ⟨T2, L2, k2, n2⟩, -, X2, ⟨Lc2, hQ2, l2, y2, z2⟩, st2⟩ := Jvm.LawKit.callS X1 hx (y := (⟨"java/lang/Math", "max", "(JJ)J"⟩ : MethodName)) hown (mvT hZ (hw _ (List.mem_of_getElem? (i := 4) rfl))) (mvT hZ (hw _ (List.mem_of_getElem? (i := 5) rfl))) (mvT hZ (hw _ (List.mem_of_getElem? (i := 2) rfl))) (mvT hZ (hw _ (List.mem_of_getElem? (i := 6) rfl))) (by decide) (backOf (W := 0) (rmmx l Z a0 hw [] lo (own_minL p4 hi) h0 n0) hZ (hw _ (List.mem_of_getElem? (i := 6) rfl)) (hw _ (List.mem_of_getElem? (i := 2) rfl)) (by decide) (by decide)) (g := (mkF m 7 #[.val (.ref a1), .val (.long lo), .second, .val (.long hi), .second, .val (.long p4), .second, .unset] [(.long (own_minL p4 hi)), (.long lo)])) rfl (by rw [hml]; rfl) (argsL := [(.long lo), (.long (own_minL p4 hi))]) (rest := []) (lenOf pd_0 rfl) rfl (by show 2 * 0 + _ ≤ _; exact Nat.le_of_eq rfl) (hb hby d5_7) (fun _ _ => ⟨rfl, eh1, (by decide : 0 + 0 ≤ _), (by decide : 0 + 0 ≤ _)⟩)
  dsimp only [Pt.U, Pt.locs, Pt.cells, Pt.slots] at X2 l2 y2 z2 st2 hQ2
  subst l2 y2 z2
  obtain ⟨rfl, N2q, eh2⟩ := hQ2
  have N2 := Fr.app N1 N2q
  refine own_via st2 ?_
  show own_Rch p.tables e below (T2.setTop (mkF m 10 #[.val (.ref a1), .val (.long lo), .second, .val (.long hi), .second, .val (.long p4), .second, .unset] [(.long (own_maxL lo (own_minL p4 hi)))])) _
  refine own_via (fun t k => XS.lload X2.here hx rfl (hb hby d5_10) rfl k) ?_
  show own_Rch p.tables e below (T2.setTop (mkF m 12 #[.val (.ref a1), .val (.long lo), .second, .val (.long hi), .second, .val (.long p4), .second, .unset] [(.long p4), (.long (own_maxL lo (own_minL p4 hi)))])) _
  refine own_via (fun t k => XS.lcmp X2.here hx rfl (hb hby d5_12) rfl k) ?_
  show own_Rch p.tables e below (T2.setTop (mkF m 13 #[.val (.ref a1), .val (.long lo), .second, .val (.long hi), .second, .val (.long p4), .second, .unset] [(.int (lcmpW (own_maxL lo (own_minL p4 hi)) p4))])) _
  by_cases c13 : (own_maxL lo (own_minL p4 hi)) = p4
  · refine own_via (fun t k => XS.ifNo X2.here hx rfl (hb hby d5_13) rfl ((if0 _ _).trans (teq ((lw_eq (own_maxL lo (own_minL p4 hi)) p4).mpr c13)).2) k) ?_
    show own_Rch p.tables e below (T2.setTop (mkF m 16 #[.val (.ref a1), .val (.long lo), .second, .val (.long hi), .second, .val (.long p4), .second, .unset] [])) _
    refine own_via (fun t k => XS.iconst X2.here hx rfl (hb hby d5_16) k) ?_
    show own_Rch p.tables e below (T2.setTop (mkF m 17 #[.val (.ref a1), .val (.long lo), .second, .val (.long hi), .second, .val (.long p4), .second, .unset] [(.int (1 : Int32))])) _
    refine own_via (fun t k => XS.goto X2.here hx rfl (pc0 := 17) (pc' := 21) rfl (hb hby d5_17) (by decide) (by decide) k) ?_
    show own_Rch p.tables e below (T2.setTop (mkF m 21 #[.val (.ref a1), .val (.long lo), .second, .val (.long hi), .second, .val (.long p4), .second, .unset] [(.int (1 : Int32))])) _
    refine own_via (fun t k => XS.istore X2.here hx rfl (hb hby d5_21) rfl (l' := #[.val (.ref a1), .val (.long lo), .second, .val (.long hi), .second, .val (.long p4), .second, .val (.int (1 : Int32))]) rfl k) ?_
    show own_Rch p.tables e below (T2.setTop (mkF m 23 #[.val (.ref a1), .val (.long lo), .second, .val (.long hi), .second, .val (.long p4), .second, .val (.int (1 : Int32))] [])) _
    refine own_via (fun t k => XS.aloadN X2.here hx rfl (hb hby d5_23) rfl rfl k) ?_
    show own_Rch p.tables e below (T2.setTop (mkF m 24 #[.val (.ref a1), .val (.long lo), .second, .val (.long hi), .second, .val (.long p4), .second, .val (.int (1 : Int32))] [(.ref a1)])) _
    refine own_via (fun t k => XS.lload X2.here hx rfl (hb hby d5_24) rfl k) ?_
    show own_Rch p.tables e below (T2.setTop (mkF m 26 #[.val (.ref a1), .val (.long lo), .second, .val (.long hi), .second, .val (.long p4), .second, .val (.int (1 : Int32))] [(.long p4), (.ref a1)])) _
    obtain ⟨cq3, kq3, q3a, q3b, q3c⟩ := isOf hZ eh2 E_a1
    obtain ⟨_, _, ⟨T3, L3, k3, n3⟩, -, X3, ⟨Lc3, hQ3, l3, y3, z3⟩, st3⟩ := X2.virtualBack hx (y := (⟨"com/example/quotienta/quotienta/io/JaniStates$Slot", "holds", "(J)Z"⟩ : MethodName)) (z := (⟨"com/example/quotienta/quotienta/io/JaniStates$Slot", "holds", "(J)Z"⟩ : MethodName)) hown (mvT hZ (hw _ (List.mem_of_getElem? (i := 36) rfl))) (mvT hZ (hw _ (List.mem_of_getElem? (i := 37) rfl))) (notFace_of_selects (args := #[]) (mvT hZ (hw _ (List.mem_of_getElem? (i := 39) rfl)))) (mvT hZ (hw _ (List.mem_of_getElem? (i := 39) rfl))) (mvT hZ (hw _ (List.mem_of_getElem? (i := 38) rfl))) (by decide) (backOf (W := 0) (rmh l Z a0 hw [] a1 p4 lo hi h0 n0 F_lower F_upper) hZ (hw _ (List.mem_of_getElem? (i := 40) rfl)) (hw _ (List.mem_of_getElem? (i := 9) rfl)) (by decide) (by decide)) q3a q3c (g := (mkF m 26 #[.val (.ref a1), .val (.long lo), .second, .val (.long hi), .second, .val (.long p4), .second, .val (.int (1 : Int32))] [(.long p4), (.ref a1)])) rfl (by rw [hml]; rfl) (Steps.refl _) (argsL := [(.long p4)]) (rest := []) (lenOf pd_1 rfl) rfl (by show 2 * 0 + _ ≤ _; exact Nat.le_of_eq rfl) (hb hby d5_26) (fun _ _ => ⟨rfl, eh2, (by decide : 0 + 0 ≤ _), (by decide : 0 + 0 ≤ _)⟩)
    dsimp only [Pt.U, Pt.locs, Pt.cells, Pt.slots] at X3 l3 y3 z3 st3 hQ3
    subst l3 y3 z3
    obtain ⟨rfl, N3q, eh3⟩ := hQ3
    have N3 := Fr.app N2 N3q
    refine own_via (fun t k => st3.trans k) ?_
    show own_Rch p.tables e below (T3.setTop (mkF m 29 #[.val (.ref a1), .val (.long lo), .second, .val (.long hi), .second, .val (.long p4), .second, .val (.int (1 : Int32))] [(.int (own_holds lo hi p4))])) _
    refine own_via (fun t k => XS.iload X3.here hx rfl (hb hby d5_29) rfl k) ?_
    show own_Rch p.tables e below (T3.setTop (mkF m 31 #[.val (.ref a1), .val (.long lo), .second, .val (.long hi), .second, .val (.long p4), .second, .val (.int (1 : Int32))] [(.int (1 : Int32)), (.int (own_holds lo hi p4))])) _
    have hq : (own_holds lo hi p4) = (1 : Int32) := own_ag1 lo hi p4 hle c13
    refine own_via (fun t k => XS.icmpNo X3.here hx rfl (hb hby d5_31) rfl (teq hq).2 k) ?_
    show own_Rch p.tables e below (T3.setTop (mkF m 34 #[.val (.ref a1), .val (.long lo), .second, .val (.long hi), .second, .val (.long p4), .second, .val (.int (1 : Int32))] [])) _
    refine own_via (fun t k => XS.iconst X3.here hx rfl (hb hby d5_34) k) ?_
    show own_Rch p.tables e below (T3.setTop (mkF m 35 #[.val (.ref a1), .val (.long lo), .second, .val (.long hi), .second, .val (.long p4), .second, .val (.int (1 : Int32))] [(.int (1 : Int32))])) _
    refine own_via (fun t k => XS.goto X3.here hx rfl (pc0 := 35) (pc' := 39) rfl (hb hby d5_35) (by decide) (by decide) k) ?_
    show own_Rch p.tables e below (T3.setTop (mkF m 39 #[.val (.ref a1), .val (.long lo), .second, .val (.long hi), .second, .val (.long p4), .second, .val (.int (1 : Int32))] [(.int (1 : Int32))])) _
    exact own_fin X3 hx (t := .boolean) (i := .ireturn) Bd.returns Bd.notSynchronized rfl (Or.inl ⟨rfl, by simp, _, rfl⟩) (hb hby d5_39) (by decide) (by decide) ⟨rfl, N3, eh3⟩
  · refine own_via (fun t k => XS.ifYes X2.here hx rfl (pc0 := 13) (pc' := 20) rfl (hb hby d5_13) rfl ((if0 _ _).trans (feq (fun q => c13 ((lw_eq (own_maxL lo (own_minL p4 hi)) p4).mp q))).2) (by decide) (by decide) k) ?_
    show own_Rch p.tables e below (T2.setTop (mkF m 20 #[.val (.ref a1), .val (.long lo), .second, .val (.long hi), .second, .val (.long p4), .second, .unset] [])) _
    refine own_via (fun t k => XS.iconst X2.here hx rfl (hb hby d5_20) k) ?_
    show own_Rch p.tables e below (T2.setTop (mkF m 21 #[.val (.ref a1), .val (.long lo), .second, .val (.long hi), .second, .val (.long p4), .second, .unset] [(.int (0 : Int32))])) _
    refine own_via (fun t k => XS.istore X2.here hx rfl (hb hby d5_21) rfl (l' := #[.val (.ref a1), .val (.long lo), .second, .val (.long hi), .second, .val (.long p4), .second, .val (.int (0 : Int32))]) rfl k) ?_
    show own_Rch p.tables e below (T2.setTop (mkF m 23 #[.val (.ref a1), .val (.long lo), .second, .val (.long hi), .second, .val (.long p4), .second, .val (.int (0 : Int32))] [])) _
    refine own_via (fun t k => XS.aloadN X2.here hx rfl (hb hby d5_23) rfl rfl k) ?_
    show own_Rch p.tables e below (T2.setTop (mkF m 24 #[.val (.ref a1), .val (.long lo), .second, .val (.long hi), .second, .val (.long p4), .second, .val (.int (0 : Int32))] [(.ref a1)])) _
    refine own_via (fun t k => XS.lload X2.here hx rfl (hb hby d5_24) rfl k) ?_
    show own_Rch p.tables e below (T2.setTop (mkF m 26 #[.val (.ref a1), .val (.long lo), .second, .val (.long hi), .second, .val (.long p4), .second, .val (.int (0 : Int32))] [(.long p4), (.ref a1)])) _
    obtain ⟨cq4, kq4, q4a, q4b, q4c⟩ := isOf hZ eh2 E_a1
    obtain ⟨_, _, ⟨T4, L4, k4, n4⟩, -, X4, ⟨Lc4, hQ4, l4, y4, z4⟩, st4⟩ := X2.virtualBack hx (y := (⟨"com/example/quotienta/quotienta/io/JaniStates$Slot", "holds", "(J)Z"⟩ : MethodName)) (z := (⟨"com/example/quotienta/quotienta/io/JaniStates$Slot", "holds", "(J)Z"⟩ : MethodName)) hown (mvT hZ (hw _ (List.mem_of_getElem? (i := 36) rfl))) (mvT hZ (hw _ (List.mem_of_getElem? (i := 37) rfl))) (notFace_of_selects (args := #[]) (mvT hZ (hw _ (List.mem_of_getElem? (i := 39) rfl)))) (mvT hZ (hw _ (List.mem_of_getElem? (i := 39) rfl))) (mvT hZ (hw _ (List.mem_of_getElem? (i := 38) rfl))) (by decide) (backOf (W := 0) (rmh l Z a0 hw [] a1 p4 lo hi h0 n0 F_lower F_upper) hZ (hw _ (List.mem_of_getElem? (i := 40) rfl)) (hw _ (List.mem_of_getElem? (i := 9) rfl)) (by decide) (by decide)) q4a q4c (g := (mkF m 26 #[.val (.ref a1), .val (.long lo), .second, .val (.long hi), .second, .val (.long p4), .second, .val (.int (0 : Int32))] [(.long p4), (.ref a1)])) rfl (by rw [hml]; rfl) (Steps.refl _) (argsL := [(.long p4)]) (rest := []) (lenOf pd_1 rfl) rfl (by show 2 * 0 + _ ≤ _; exact Nat.le_of_eq rfl) (hb hby d5_26) (fun _ _ => ⟨rfl, eh2, (by decide : 0 + 0 ≤ _), (by decide : 0 + 0 ≤ _)⟩)
    dsimp only [Pt.U, Pt.locs, Pt.cells, Pt.slots] at X4 l4 y4 z4 st4 hQ4
    subst l4 y4 z4
    obtain ⟨rfl, N4q, eh4⟩ := hQ4
    have N4 := Fr.app N2 N4q
    refine own_via (fun t k => st4.trans k) ?_
    show own_Rch p.tables e below (T4.setTop (mkF m 29 #[.val (.ref a1), .val (.long lo), .second, .val (.long hi), .second, .val (.long p4), .second, .val (.int (0 : Int32))] [(.int (own_holds lo hi p4))])) _
    refine own_via (fun t k => XS.iload X4.here hx rfl (hb hby d5_29) rfl k) ?_
    show own_Rch p.tables e below (T4.setTop (mkF m 31 #[.val (.ref a1), .val (.long lo), .second, .val (.long hi), .second, .val (.long p4), .second, .val (.int (0 : Int32))] [(.int (0 : Int32)), (.int (own_holds lo hi p4))])) _
    have hq : (own_holds lo hi p4) = (0 : Int32) := own_ag0 lo hi p4 hle c13
    refine own_via (fun t k => XS.icmpNo X4.here hx rfl (hb hby d5_31) rfl (teq hq).2 k) ?_
    show own_Rch p.tables e below (T4.setTop (mkF m 34 #[.val (.ref a1), .val (.long lo), .second, .val (.long hi), .second, .val (.long p4), .second, .val (.int (0 : Int32))] [])) _
    refine own_via (fun t k => XS.iconst X4.here hx rfl (hb hby d5_34) k) ?_
    show own_Rch p.tables e below (T4.setTop (mkF m 35 #[.val (.ref a1), .val (.long lo), .second, .val (.long hi), .second, .val (.long p4), .second, .val (.int (0 : Int32))] [(.int (1 : Int32))])) _
    refine own_via (fun t k => XS.goto X4.here hx rfl (pc0 := 35) (pc' := 39) rfl (hb hby d5_35) (by decide) (by decide) k) ?_
    show own_Rch p.tables e below (T4.setTop (mkF m 39 #[.val (.ref a1), .val (.long lo), .second, .val (.long hi), .second, .val (.long p4), .second, .val (.int (0 : Int32))] [(.int (1 : Int32))])) _
    exact own_fin X4 hx (t := .boolean) (i := .ireturn) Bd.returns Bd.notSynchronized rfl (Or.inl ⟨rfl, by simp, _, rfl⟩) (hb hby d5_39) (by decide) (by decide) ⟨rfl, N4, eh4⟩
def Q0 (n0 : Nat) (v : Option Value) (h : Heap) (L : List Loc) : Prop := v = some (.int (1 : Int32)) ∧ Fr n0 L
theorem ef_0 (m : MethodId) (x0 : Int64) (x1 : Int64) (x2 : Int64) : entryFrame m #[(.long x0), (.long x1), (.long x2)] maxLocals = mkF m 0 #[.val (.long x0), .second, .val (.long x1), .second, .val (.long x2), .second, .unset, .unset, .unset, .unset, .unset] [] := by first | (simp [entryFrame, mkF, argsToLocals, Value.category, maxLocals]; done) | rfl
theorem pd_2 : parseMethodDescriptor "(Ljava/lang/String;JJ[Ljava/lang/String;)V" = some ⟨[(.object "java/lang/String"), .long, .long, (.array (.object "java/lang/String"))], none⟩ := by decide +kernel
theorem pd_3 : parseMethodDescriptor "(Lcom/example/quotienta/quotienta/io/JaniStates$Slot;JJJ)Z" = some ⟨[(.object "com/example/quotienta/quotienta/io/JaniStates$Slot"), .long, .long, .long], some .boolean⟩ := by decide +kernel
set_option maxRecDepth 65536 in
set_option maxHeartbeats 40000000 in
theorem rm0 (l : Launch) (Z : State) (a0 : Array Value) (hw : ∀ d ∈ tables_1, d.before a0 Z = true) (ws : List Jvm.Cond) (p1 p2 p3 : Int64) (h0 : Heap) (n0 : Nat) (Z0 : n0 ≤ h0.size) :
    MetFree l x (head1 (Jvm.Cond.code x code maxLocals ret :: ws) room_1) (fun a U => a = #[(.long p1), (.long p2), (.long p3)] ∧ Z.Warmed39 U.vm ∧ U.heap = h0) (fun _ _ _ _ _ => True) (fun _ U o U' => ∃ v L, o = .returned v ∧ Q0 n0 v U'.heap L ∧ ReturnedEndW U o U' L room_1.cells room_1.slots) := by
  refine MetFree.of_bodySF (plainFor_of_name pn_com_example_quotienta_quotienta_io_SlotHoldsPinLaw) hisR ?_
  intro p e s m args below meth c s₁ Bd hml0 hP hK
  obtain ⟨rfl, hZ, hh⟩ := hP
  have hx := Bd.exec
  have hby := Bd.bytes
  have hml : c.maxLocals = 11 := hml0
  have hown : s.vm.findClass "com/example/quotienta/quotienta/io/SlotHoldsPinLaw" = some m.cls := findClass_of_methodNamed Bd.named
  have hnm := (name_of_methodNamed Bd.named Bd.method).1
  have X0 : Stand p l e room_1 s m #[(.long p1), (.long p2), (.long p3)] below meth c s₁ [] 0 0 := Stand.of_body Bd
  have e0 : s₁.heap = h0 := by rw [← hh, Bd.state]; rfl
  have N0 := Fr.nil n0
  show own_Rch p.tables e below (s₁.setTop (entryFrame m #[(.long p1), (.long p2), (.long p3)] maxLocals)) (own_EndW s (Q0 n0) room_1.cells room_1.slots)
  refine own_via (fun t k => castTop (ef_0 m p1 p2 p3) k) ?_
  have X0 : Stand p l e room_1 (s.setVm s.vm) m #[(.long p1), (.long p2), (.long p3)] below meth c s₁ [] 0 0 := X0
  have hZ : Z.Warmed39 (s.setVm s.vm).vm := hZ
  have hown : (s.setVm s.vm).vm.findClass "com/example/quotienta/quotienta/io/SlotHoldsPinLaw" = some m.cls := hown
  have Si0 : s.Since s.vm h0.size := own_S0 s _
  show own_Rch p.tables e below (s₁.setTop (mkF m 0 #[.val (.long p1), .second, .val (.long p2), .second, .val (.long p3), .second, .unset, .unset, .unset, .unset, .unset] [])) _
  refine own_via (fun t k => XS.lloadN X0.here hx rfl (hb hby at_0) rfl k) ?_
  show own_Rch p.tables e below (s₁.setTop (mkF m 1 #[.val (.long p1), .second, .val (.long p2), .second, .val (.long p3), .second, .unset, .unset, .unset, .unset, .unset] [(.long p1)])) _
  refine own_via (fun t k => XS.lloadN X0.here hx rfl (hb hby at_1) rfl k) ?_
  show own_Rch p.tables e below (s₁.setTop (mkF m 2 #[.val (.long p1), .second, .val (.long p2), .second, .val (.long p3), .second, .unset, .unset, .unset, .unset, .unset] [(.long p2), (.long p1)])) _
  obtain ⟨_, _, ⟨T1, L1, k1, n1⟩, -, X1, ⟨Lc1, hQ1, l1, y1, z1⟩, st1⟩ := Jvm.LawKit.callS X0 hx (y := (⟨"java/lang/Math", "min", "(JJ)J"⟩ : MethodName)) hown (mvT hZ (hw _ (List.mem_of_getElem? (i := 0) rfl))) (mvT hZ (hw _ (List.mem_of_getElem? (i := 1) rfl))) (mvT hZ (hw _ (List.mem_of_getElem? (i := 2) rfl))) (mvT hZ (hw _ (List.mem_of_getElem? (i := 3) rfl))) (by decide) (backOf (W := 0) (rmmn l Z a0 hw [] p1 p2 h0 n0) hZ (hw _ (List.mem_of_getElem? (i := 3) rfl)) (hw _ (List.mem_of_getElem? (i := 2) rfl)) (by decide) (by decide)) (g := (mkF m 2 #[.val (.long p1), .second, .val (.long p2), .second, .val (.long p3), .second, .unset, .unset, .unset, .unset, .unset] [(.long p2), (.long p1)])) rfl (by rw [hml]; rfl) (argsL := [(.long p1), (.long p2)]) (rest := []) (lenOf pd_0 rfl) rfl (by show 2 * 0 + _ ≤ _; exact Nat.le_of_eq rfl) (hb hby at_2) (fun _ _ => ⟨rfl, e0, (by decide : 0 + 0 ≤ _), (by decide : 0 + 0 ≤ _)⟩)
  dsimp only [Pt.U, Pt.locs, Pt.cells, Pt.slots] at X1 l1 y1 z1 st1 hQ1
  subst l1 y1 z1
  obtain ⟨rfl, N1q, eh1⟩ := hQ1
  have N1 := Fr.app N0 N1q
  refine own_via st1 ?_
  show own_Rch p.tables e below (T1.setTop (mkF m 5 #[.val (.long p1), .second, .val (.long p2), .second, .val (.long p3), .second, .unset, .unset, .unset, .unset, .unset] [(.long (own_minL p1 p2))])) _
  refine own_via (fun t k => XS.lstore X1.here hx rfl (hb hby at_5) rfl (l' := #[.val (.long p1), .second, .val (.long p2), .second, .val (.long p3), .second, .val (.long (own_minL p1 p2)), .second, .unset, .unset, .unset]) rfl k) ?_
  show own_Rch p.tables e below (T1.setTop (mkF m 7 #[.val (.long p1), .second, .val (.long p2), .second, .val (.long p3), .second, .val (.long (own_minL p1 p2)), .second, .unset, .unset, .unset] [])) _
  refine own_via (fun t k => XS.lloadN X1.here hx rfl (hb hby at_7) rfl k) ?_
  show own_Rch p.tables e below (T1.setTop (mkF m 8 #[.val (.long p1), .second, .val (.long p2), .second, .val (.long p3), .second, .val (.long (own_minL p1 p2)), .second, .unset, .unset, .unset] [(.long p1)])) _
  refine own_via (fun t k => XS.lloadN X1.here hx rfl (hb hby at_8) rfl k) ?_
  show own_Rch p.tables e below (T1.setTop (mkF m 9 #[.val (.long p1), .second, .val (.long p2), .second, .val (.long p3), .second, .val (.long (own_minL p1 p2)), .second, .unset, .unset, .unset] [(.long p2), (.long p1)])) _
  obtain ⟨_, _, ⟨T2, L2, k2, n2⟩, -, X2, ⟨Lc2, hQ2, l2, y2, z2⟩, st2⟩ := Jvm.LawKit.callS X1 hx (y := (⟨"java/lang/Math", "max", "(JJ)J"⟩ : MethodName)) hown (mvT hZ (hw _ (List.mem_of_getElem? (i := 4) rfl))) (mvT hZ (hw _ (List.mem_of_getElem? (i := 5) rfl))) (mvT hZ (hw _ (List.mem_of_getElem? (i := 2) rfl))) (mvT hZ (hw _ (List.mem_of_getElem? (i := 6) rfl))) (by decide) (backOf (W := 0) (rmmx l Z a0 hw [] p1 p2 h0 n0) hZ (hw _ (List.mem_of_getElem? (i := 6) rfl)) (hw _ (List.mem_of_getElem? (i := 2) rfl)) (by decide) (by decide)) (g := (mkF m 9 #[.val (.long p1), .second, .val (.long p2), .second, .val (.long p3), .second, .val (.long (own_minL p1 p2)), .second, .unset, .unset, .unset] [(.long p2), (.long p1)])) rfl (by rw [hml]; rfl) (argsL := [(.long p1), (.long p2)]) (rest := []) (lenOf pd_0 rfl) rfl (by show 2 * 0 + _ ≤ _; exact Nat.le_of_eq rfl) (hb hby at_9) (fun _ _ => ⟨rfl, eh1, (by decide : 0 + 0 ≤ _), (by decide : 0 + 0 ≤ _)⟩)
  dsimp only [Pt.U, Pt.locs, Pt.cells, Pt.slots] at X2 l2 y2 z2 st2 hQ2
  subst l2 y2 z2
  obtain ⟨rfl, N2q, eh2⟩ := hQ2
  have N2 := Fr.app N1 N2q
  refine own_via st2 ?_
  show own_Rch p.tables e below (T2.setTop (mkF m 12 #[.val (.long p1), .second, .val (.long p2), .second, .val (.long p3), .second, .val (.long (own_minL p1 p2)), .second, .unset, .unset, .unset] [(.long (own_maxL p1 p2))])) _
  refine own_via (fun t k => XS.lstore X2.here hx rfl (hb hby at_12) rfl (l' := #[.val (.long p1), .second, .val (.long p2), .second, .val (.long p3), .second, .val (.long (own_minL p1 p2)), .second, .val (.long (own_maxL p1 p2)), .second, .unset]) rfl k) ?_
  show own_Rch p.tables e below (T2.setTop (mkF m 14 #[.val (.long p1), .second, .val (.long p2), .second, .val (.long p3), .second, .val (.long (own_minL p1 p2)), .second, .val (.long (own_maxL p1 p2)), .second, .unset] [])) _
  obtain ⟨T3, h3, X3, e3, E3, A3, D3, -, st3⟩ := newO X2 hx hZ hown (hw _ (List.mem_of_getElem? (i := 7) rfl)) (hw _ (List.mem_of_getElem? (i := 8) rfl)) (hw _ (List.mem_of_getElem? (i := 9) rfl)) eh2 (g := (mkF m 14 #[.val (.long p1), .second, .val (.long p2), .second, .val (.long p3), .second, .val (.long (own_minL p1 p2)), .second, .val (.long (own_maxL p1 p2)), .second, .unset] [])) rfl (hb hby at_14) (by decide) (by decide)
  obtain ⟨b3, g3⟩ : ∃ z, z = h0.size := ⟨_, rfl⟩
  rw [← g3] at A3 D3 st3
  have g_b3 : n0 ≤ b3 := Nat.le_trans Z0 (Nat.le_of_eq g3.symm)
  have F3_name : Fld Z h3 b3 "com/example/quotienta/quotienta/io/JaniStates$Slot" "name" "Ljava/lang/String;" .null := D3 (Or.inr (hw _ (List.mem_of_getElem? (i := 25) rfl))) (ty := (.object "java/lang/String")) (by decide)
  have F3_lower : Fld Z h3 b3 "com/example/quotienta/quotienta/io/JaniStates$Slot" "lower" "J" (.long (0 : Int64)) := D3 (Or.inr (hw _ (List.mem_of_getElem? (i := 27) rfl))) (ty := .long) (by decide)
  have F3_upper : Fld Z h3 b3 "com/example/quotienta/quotienta/io/JaniStates$Slot" "upper" "J" (.long (0 : Int64)) := D3 (Or.inr (hw _ (List.mem_of_getElem? (i := 29) rfl))) (ty := .long) (by decide)
  have F3_valueNames : Fld Z h3 b3 "com/example/quotienta/quotienta/io/JaniStates$Slot" "valueNames" "[Ljava/lang/String;" .null := D3 (Or.inr (hw _ (List.mem_of_getElem? (i := 31) rfl))) (ty := (.array (.object "java/lang/String"))) (by decide)
  refine own_via st3 ?_
  show own_Rch p.tables e below (T3.setTop (mkF m 17 #[.val (.long p1), .second, .val (.long p2), .second, .val (.long p3), .second, .val (.long (own_minL p1 p2)), .second, .val (.long (own_maxL p1 p2)), .second, .unset] [(.ref b3)])) _
  refine own_via (fun t k => XS.dup X3.here hx rfl (hb hby at_17) rfl rfl k) ?_
  show own_Rch p.tables e below (T3.setTop (mkF m 18 #[.val (.long p1), .second, .val (.long p2), .second, .val (.long p3), .second, .val (.long (own_minL p1 p2)), .second, .val (.long (own_maxL p1 p2)), .second, .unset] [(.ref b3), (.ref b3)])) _
  obtain ⟨b4, T4, h4, k4, X4, e4, E4, Si4, gk4, hZ, hown, st4⟩ := ldcS X3 hx hZ hown (hw _ (List.mem_of_getElem? (i := 10) rfl)) (own_wS hw) e3 Si0 (Nat.le_trans (Nat.le_refl _) E3.1) (g := (mkF m 18 #[.val (.long p1), .second, .val (.long p2), .second, .val (.long p3), .second, .val (.long (own_minL p1 p2)), .second, .val (.long (own_maxL p1 p2)), .second, .unset] [(.ref b3), (.ref b3)])) rfl (hb hby at_18) (n := 4) (by decide) (by decide) (by decide) (by decide)
  refine own_via st4 ?_
  show own_Rch p.tables e below (T4.setTop (mkF m 20 #[.val (.long p1), .second, .val (.long p2), .second, .val (.long p3), .second, .val (.long (own_minL p1 p2)), .second, .val (.long (own_maxL p1 p2)), .second, .unset] [(.ref b4), (.ref b3), (.ref b3)])) _
  refine own_via (fun t k => XS.lload X4.here hx rfl (hb hby at_20) rfl k) ?_
  show own_Rch p.tables e below (T4.setTop (mkF m 22 #[.val (.long p1), .second, .val (.long p2), .second, .val (.long p3), .second, .val (.long (own_minL p1 p2)), .second, .val (.long (own_maxL p1 p2)), .second, .unset] [(.long (own_minL p1 p2)), (.ref b4), (.ref b3), (.ref b3)])) _
  refine own_via (fun t k => XS.lload X4.here hx rfl (hb hby at_22) rfl k) ?_
  show own_Rch p.tables e below (T4.setTop (mkF m 24 #[.val (.long p1), .second, .val (.long p2), .second, .val (.long p3), .second, .val (.long (own_minL p1 p2)), .second, .val (.long (own_maxL p1 p2)), .second, .unset] [(.long (own_maxL p1 p2)), (.long (own_minL p1 p2)), (.ref b4), (.ref b3), (.ref b3)])) _
  refine own_via (fun t k => XS.aconstNull X4.here hx rfl (hb hby at_24) k) ?_
  show own_Rch p.tables e below (T4.setTop (mkF m 25 #[.val (.long p1), .second, .val (.long p2), .second, .val (.long p3), .second, .val (.long (own_minL p1 p2)), .second, .val (.long (own_maxL p1 p2)), .second, .unset] [.null, (.long (own_maxL p1 p2)), (.long (own_minL p1 p2)), (.ref b4), (.ref b3), (.ref b3)])) _
  obtain ⟨_, _, ⟨T5, L5, k5, n5⟩, -, X5, ⟨Lc5, hQ5, l5, y5, z5⟩, st5⟩ := X4.specialBack hx (y := (⟨"com/example/quotienta/quotienta/io/JaniStates$Slot", "<init>", "(Ljava/lang/String;JJ[Ljava/lang/String;)V"⟩ : MethodName)) rfl hown (mvT hZ (hw _ (List.mem_of_getElem? (i := 18) rfl))) (mvT hZ (hw _ (List.mem_of_getElem? (i := 19) rfl))) (mvT hZ (hw _ (List.mem_of_getElem? (i := 20) rfl))) (by decide) (backOf (W := 1) (rm1 l Z a0 hw [] b3 b4 (own_minL p1 p2) (own_maxL p1 p2) h4 n0 g_b3 (A3.ext E4) (F3_name.ext E4) (F3_lower.ext E4) (F3_upper.ext E4) (F3_valueNames.ext E4)) hZ (hw _ (List.mem_of_getElem? (i := 20) rfl)) (hw _ (List.mem_of_getElem? (i := 9) rfl)) (by decide) (by decide)) (g := (mkF m 25 #[.val (.long p1), .second, .val (.long p2), .second, .val (.long p3), .second, .val (.long (own_minL p1 p2)), .second, .val (.long (own_maxL p1 p2)), .second, .unset] [.null, (.long (own_maxL p1 p2)), (.long (own_minL p1 p2)), (.ref b4), (.ref b3), (.ref b3)])) rfl (by rw [hml]; rfl) (Steps.refl _) (a := b3) (argsL := [(.ref b4), (.long (own_minL p1 p2)), (.long (own_maxL p1 p2)), .null]) (rest := [(.ref b3)]) (lenOf pd_2 rfl) rfl (by show 2 * 0 + _ ≤ _; exact Nat.le_of_eq rfl) (hb hby at_25) (fun _ _ => ⟨rfl, e4, (by decide : 3 + 0 ≤ _), (by decide : 12 + 0 ≤ _)⟩)
  dsimp only [Pt.U, Pt.locs, Pt.cells, Pt.slots] at X5 l5 y5 z5 st5 hQ5
  subst l5 y5 z5
  obtain ⟨rfl, N5q, K5, E5_0, Fl5, Fu5⟩ := hQ5
  have N5 := Fr.app N2 N5q
  refine own_via (fun t k => st5.trans k) ?_
  show own_Rch p.tables e below (T5.setTop (mkF m 28 #[.val (.long p1), .second, .val (.long p2), .second, .val (.long p3), .second, .val (.long (own_minL p1 p2)), .second, .val (.long (own_maxL p1 p2)), .second, .unset] [(.ref b3)])) _
  refine own_via (fun t k => XS.astore X5.here hx rfl (hb hby at_28) rfl rfl (l' := #[.val (.long p1), .second, .val (.long p2), .second, .val (.long p3), .second, .val (.long (own_minL p1 p2)), .second, .val (.long (own_maxL p1 p2)), .second, .val (.ref b3)]) rfl k) ?_
  show own_Rch p.tables e below (T5.setTop (mkF m 30 #[.val (.long p1), .second, .val (.long p2), .second, .val (.long p3), .second, .val (.long (own_minL p1 p2)), .second, .val (.long (own_maxL p1 p2)), .second, .val (.ref b3)] [])) _
  refine own_via (fun t k => XS.aload X5.here hx rfl (hb hby at_30) rfl rfl k) ?_
  show own_Rch p.tables e below (T5.setTop (mkF m 32 #[.val (.long p1), .second, .val (.long p2), .second, .val (.long p3), .second, .val (.long (own_minL p1 p2)), .second, .val (.long (own_maxL p1 p2)), .second, .val (.ref b3)] [(.ref b3)])) _
  refine own_via (fun t k => XS.lload X5.here hx rfl (hb hby at_32) rfl k) ?_
  show own_Rch p.tables e below (T5.setTop (mkF m 34 #[.val (.long p1), .second, .val (.long p2), .second, .val (.long p3), .second, .val (.long (own_minL p1 p2)), .second, .val (.long (own_maxL p1 p2)), .second, .val (.ref b3)] [(.long (own_minL p1 p2)), (.ref b3)])) _
  refine own_via (fun t k => XS.lload X5.here hx rfl (hb hby at_34) rfl k) ?_
  show own_Rch p.tables e below (T5.setTop (mkF m 36 #[.val (.long p1), .second, .val (.long p2), .second, .val (.long p3), .second, .val (.long (own_minL p1 p2)), .second, .val (.long (own_maxL p1 p2)), .second, .val (.ref b3)] [(.long (own_maxL p1 p2)), (.long (own_minL p1 p2)), (.ref b3)])) _
  refine own_via (fun t k => XS.lload X5.here hx rfl (hb hby at_36) rfl k) ?_
  show own_Rch p.tables e below (T5.setTop (mkF m 38 #[.val (.long p1), .second, .val (.long p2), .second, .val (.long p3), .second, .val (.long (own_minL p1 p2)), .second, .val (.long (own_maxL p1 p2)), .second, .val (.ref b3)] [(.long p3), (.long (own_maxL p1 p2)), (.long (own_minL p1 p2)), (.ref b3)])) _
  obtain ⟨_, _, ⟨T6, L6, k6, n6⟩, -, X6, ⟨Lc6, hQ6, l6, y6, z6⟩, st6⟩ := Jvm.LawKit.callS X5 hx (y := (⟨"com/example/quotienta/quotienta/io/SlotHoldsPinLaw", "agrees", "(Lcom/example/quotienta/quotienta/io/JaniStates$Slot;JJJ)Z"⟩ : MethodName)) hown (mvT hZ (hw _ (List.mem_of_getElem? (i := 32) rfl))) (mvT hZ (hw _ (List.mem_of_getElem? (i := 33) rfl))) (mvT hZ (hw _ (List.mem_of_getElem? (i := 34) rfl))) (mvT hZ (hw _ (List.mem_of_getElem? (i := 35) rfl))) (by decide) (backOf (W := 0) (rma l Z a0 hw [] b3 (own_minL p1 p2) (own_maxL p1 p2) p3 T5.heap n0 E5_0 Fl5 Fu5 (own_le _ _)) hZ (hw _ (List.mem_of_getElem? (i := 35) rfl)) (hw _ (List.mem_of_getElem? (i := 34) rfl)) (by decide) (by decide)) (g := (mkF m 38 #[.val (.long p1), .second, .val (.long p2), .second, .val (.long p3), .second, .val (.long (own_minL p1 p2)), .second, .val (.long (own_maxL p1 p2)), .second, .val (.ref b3)] [(.long p3), (.long (own_maxL p1 p2)), (.long (own_minL p1 p2)), (.ref b3)])) rfl (by rw [hml]; rfl) (argsL := [(.ref b3), (.long (own_minL p1 p2)), (.long (own_maxL p1 p2)), (.long p3)]) (rest := []) (lenOf pd_3 rfl) rfl (by show 2 * 0 + _ ≤ _; exact Nat.le_of_eq rfl) (hb hby at_38) (fun _ _ => ⟨rfl, rfl, (by decide : 3 + 0 ≤ _), (by decide : 12 + 0 ≤ _)⟩)
  dsimp only [Pt.U, Pt.locs, Pt.cells, Pt.slots] at X6 l6 y6 z6 st6 hQ6
  subst l6 y6 z6
  obtain ⟨rfl, N6q, eh6⟩ := hQ6
  have N6 := Fr.app N5 N6q
  refine own_via st6 ?_
  show own_Rch p.tables e below (T6.setTop (mkF m 41 #[.val (.long p1), .second, .val (.long p2), .second, .val (.long p3), .second, .val (.long (own_minL p1 p2)), .second, .val (.long (own_maxL p1 p2)), .second, .val (.ref b3)] [(.int (1 : Int32))])) _
  refine own_via (fun t k => XS.ifNo X6.here hx rfl (hb hby at_41) rfl ((if0 _ _).trans (feq (by decide : ¬ ((1 : Int32) = (0 : Int32)))).1) k) ?_
  show own_Rch p.tables e below (T6.setTop (mkF m 44 #[.val (.long p1), .second, .val (.long p2), .second, .val (.long p3), .second, .val (.long (own_minL p1 p2)), .second, .val (.long (own_maxL p1 p2)), .second, .val (.ref b3)] [])) _
  refine own_via (fun t k => XS.aload X6.here hx rfl (hb hby at_44) rfl rfl k) ?_
  show own_Rch p.tables e below (T6.setTop (mkF m 46 #[.val (.long p1), .second, .val (.long p2), .second, .val (.long p3), .second, .val (.long (own_minL p1 p2)), .second, .val (.long (own_maxL p1 p2)), .second, .val (.ref b3)] [(.ref b3)])) _
  refine own_via (fun t k => XS.lload X6.here hx rfl (hb hby at_46) rfl k) ?_
  show own_Rch p.tables e below (T6.setTop (mkF m 48 #[.val (.long p1), .second, .val (.long p2), .second, .val (.long p3), .second, .val (.long (own_minL p1 p2)), .second, .val (.long (own_maxL p1 p2)), .second, .val (.ref b3)] [(.long (own_minL p1 p2)), (.ref b3)])) _
  refine own_via (fun t k => XS.lload X6.here hx rfl (hb hby at_48) rfl k) ?_
  show own_Rch p.tables e below (T6.setTop (mkF m 50 #[.val (.long p1), .second, .val (.long p2), .second, .val (.long p3), .second, .val (.long (own_minL p1 p2)), .second, .val (.long (own_maxL p1 p2)), .second, .val (.ref b3)] [(.long (own_maxL p1 p2)), (.long (own_minL p1 p2)), (.ref b3)])) _
  refine own_via (fun t k => XS.lload X6.here hx rfl (hb hby at_50) rfl k) ?_
  show own_Rch p.tables e below (T6.setTop (mkF m 52 #[.val (.long p1), .second, .val (.long p2), .second, .val (.long p3), .second, .val (.long (own_minL p1 p2)), .second, .val (.long (own_maxL p1 p2)), .second, .val (.ref b3)] [(.long (own_minL p1 p2)), (.long (own_maxL p1 p2)), (.long (own_minL p1 p2)), (.ref b3)])) _
  obtain ⟨_, _, ⟨T7, L7, k7, n7⟩, -, X7, ⟨Lc7, hQ7, l7, y7, z7⟩, st7⟩ := Jvm.LawKit.callS X6 hx (y := (⟨"com/example/quotienta/quotienta/io/SlotHoldsPinLaw", "agrees", "(Lcom/example/quotienta/quotienta/io/JaniStates$Slot;JJJ)Z"⟩ : MethodName)) hown (mvT hZ (hw _ (List.mem_of_getElem? (i := 32) rfl))) (mvT hZ (hw _ (List.mem_of_getElem? (i := 33) rfl))) (mvT hZ (hw _ (List.mem_of_getElem? (i := 34) rfl))) (mvT hZ (hw _ (List.mem_of_getElem? (i := 35) rfl))) (by decide) (backOf (W := 0) (rma l Z a0 hw [] b3 (own_minL p1 p2) (own_maxL p1 p2) (own_minL p1 p2) T5.heap n0 E5_0 Fl5 Fu5 (own_le _ _)) hZ (hw _ (List.mem_of_getElem? (i := 35) rfl)) (hw _ (List.mem_of_getElem? (i := 34) rfl)) (by decide) (by decide)) (g := (mkF m 52 #[.val (.long p1), .second, .val (.long p2), .second, .val (.long p3), .second, .val (.long (own_minL p1 p2)), .second, .val (.long (own_maxL p1 p2)), .second, .val (.ref b3)] [(.long (own_minL p1 p2)), (.long (own_maxL p1 p2)), (.long (own_minL p1 p2)), (.ref b3)])) rfl (by rw [hml]; rfl) (argsL := [(.ref b3), (.long (own_minL p1 p2)), (.long (own_maxL p1 p2)), (.long (own_minL p1 p2))]) (rest := []) (lenOf pd_3 rfl) rfl (by show 2 * 0 + _ ≤ _; exact Nat.le_of_eq rfl) (hb hby at_52) (fun _ _ => ⟨rfl, eh6, (by decide : 3 + 0 ≤ _), (by decide : 12 + 0 ≤ _)⟩)
  dsimp only [Pt.U, Pt.locs, Pt.cells, Pt.slots] at X7 l7 y7 z7 st7 hQ7
  subst l7 y7 z7
  obtain ⟨rfl, N7q, eh7⟩ := hQ7
  have N7 := Fr.app N6 N7q
  refine own_via st7 ?_
  show own_Rch p.tables e below (T7.setTop (mkF m 55 #[.val (.long p1), .second, .val (.long p2), .second, .val (.long p3), .second, .val (.long (own_minL p1 p2)), .second, .val (.long (own_maxL p1 p2)), .second, .val (.ref b3)] [(.int (1 : Int32))])) _
  refine own_via (fun t k => XS.ifNo X7.here hx rfl (hb hby at_55) rfl ((if0 _ _).trans (feq (by decide : ¬ ((1 : Int32) = (0 : Int32)))).1) k) ?_
  show own_Rch p.tables e below (T7.setTop (mkF m 58 #[.val (.long p1), .second, .val (.long p2), .second, .val (.long p3), .second, .val (.long (own_minL p1 p2)), .second, .val (.long (own_maxL p1 p2)), .second, .val (.ref b3)] [])) _
  refine own_via (fun t k => XS.aload X7.here hx rfl (hb hby at_58) rfl rfl k) ?_
  show own_Rch p.tables e below (T7.setTop (mkF m 60 #[.val (.long p1), .second, .val (.long p2), .second, .val (.long p3), .second, .val (.long (own_minL p1 p2)), .second, .val (.long (own_maxL p1 p2)), .second, .val (.ref b3)] [(.ref b3)])) _
  refine own_via (fun t k => XS.lload X7.here hx rfl (hb hby at_60) rfl k) ?_
  show own_Rch p.tables e below (T7.setTop (mkF m 62 #[.val (.long p1), .second, .val (.long p2), .second, .val (.long p3), .second, .val (.long (own_minL p1 p2)), .second, .val (.long (own_maxL p1 p2)), .second, .val (.ref b3)] [(.long (own_minL p1 p2)), (.ref b3)])) _
  refine own_via (fun t k => XS.lload X7.here hx rfl (hb hby at_62) rfl k) ?_
  show own_Rch p.tables e below (T7.setTop (mkF m 64 #[.val (.long p1), .second, .val (.long p2), .second, .val (.long p3), .second, .val (.long (own_minL p1 p2)), .second, .val (.long (own_maxL p1 p2)), .second, .val (.ref b3)] [(.long (own_maxL p1 p2)), (.long (own_minL p1 p2)), (.ref b3)])) _
  refine own_via (fun t k => XS.lload X7.here hx rfl (hb hby at_64) rfl k) ?_
  show own_Rch p.tables e below (T7.setTop (mkF m 66 #[.val (.long p1), .second, .val (.long p2), .second, .val (.long p3), .second, .val (.long (own_minL p1 p2)), .second, .val (.long (own_maxL p1 p2)), .second, .val (.ref b3)] [(.long (own_minL p1 p2)), (.long (own_maxL p1 p2)), (.long (own_minL p1 p2)), (.ref b3)])) _
  refine own_via (fun t k => XS.lconst X7.here hx rfl (hb hby at_66) k) ?_
  show own_Rch p.tables e below (T7.setTop (mkF m 67 #[.val (.long p1), .second, .val (.long p2), .second, .val (.long p3), .second, .val (.long (own_minL p1 p2)), .second, .val (.long (own_maxL p1 p2)), .second, .val (.ref b3)] [(.long (1 : Int64)), (.long (own_minL p1 p2)), (.long (own_maxL p1 p2)), (.long (own_minL p1 p2)), (.ref b3)])) _
  refine own_via (fun t k => XS.lsub X7.here hx rfl (hb hby at_67) rfl k) ?_
  show own_Rch p.tables e below (T7.setTop (mkF m 68 #[.val (.long p1), .second, .val (.long p2), .second, .val (.long p3), .second, .val (.long (own_minL p1 p2)), .second, .val (.long (own_maxL p1 p2)), .second, .val (.ref b3)] [(.long ((own_minL p1 p2) - (1 : Int64))), (.long (own_maxL p1 p2)), (.long (own_minL p1 p2)), (.ref b3)])) _
  obtain ⟨_, _, ⟨T8, L8, k8, n8⟩, -, X8, ⟨Lc8, hQ8, l8, y8, z8⟩, st8⟩ := Jvm.LawKit.callS X7 hx (y := (⟨"com/example/quotienta/quotienta/io/SlotHoldsPinLaw", "agrees", "(Lcom/example/quotienta/quotienta/io/JaniStates$Slot;JJJ)Z"⟩ : MethodName)) hown (mvT hZ (hw _ (List.mem_of_getElem? (i := 32) rfl))) (mvT hZ (hw _ (List.mem_of_getElem? (i := 33) rfl))) (mvT hZ (hw _ (List.mem_of_getElem? (i := 34) rfl))) (mvT hZ (hw _ (List.mem_of_getElem? (i := 35) rfl))) (by decide) (backOf (W := 0) (rma l Z a0 hw [] b3 (own_minL p1 p2) (own_maxL p1 p2) ((own_minL p1 p2) - (1 : Int64)) T5.heap n0 E5_0 Fl5 Fu5 (own_le _ _)) hZ (hw _ (List.mem_of_getElem? (i := 35) rfl)) (hw _ (List.mem_of_getElem? (i := 34) rfl)) (by decide) (by decide)) (g := (mkF m 68 #[.val (.long p1), .second, .val (.long p2), .second, .val (.long p3), .second, .val (.long (own_minL p1 p2)), .second, .val (.long (own_maxL p1 p2)), .second, .val (.ref b3)] [(.long ((own_minL p1 p2) - (1 : Int64))), (.long (own_maxL p1 p2)), (.long (own_minL p1 p2)), (.ref b3)])) rfl (by rw [hml]; rfl) (argsL := [(.ref b3), (.long (own_minL p1 p2)), (.long (own_maxL p1 p2)), (.long ((own_minL p1 p2) - (1 : Int64)))]) (rest := []) (lenOf pd_3 rfl) rfl (by show 2 * 0 + _ ≤ _; exact Nat.le_of_eq rfl) (hb hby at_68) (fun _ _ => ⟨rfl, eh7, (by decide : 3 + 0 ≤ _), (by decide : 12 + 0 ≤ _)⟩)
  dsimp only [Pt.U, Pt.locs, Pt.cells, Pt.slots] at X8 l8 y8 z8 st8 hQ8
  subst l8 y8 z8
  obtain ⟨rfl, N8q, eh8⟩ := hQ8
  have N8 := Fr.app N7 N8q
  refine own_via st8 ?_
  show own_Rch p.tables e below (T8.setTop (mkF m 71 #[.val (.long p1), .second, .val (.long p2), .second, .val (.long p3), .second, .val (.long (own_minL p1 p2)), .second, .val (.long (own_maxL p1 p2)), .second, .val (.ref b3)] [(.int (1 : Int32))])) _
  refine own_via (fun t k => XS.ifNo X8.here hx rfl (hb hby at_71) rfl ((if0 _ _).trans (feq (by decide : ¬ ((1 : Int32) = (0 : Int32)))).1) k) ?_
  show own_Rch p.tables e below (T8.setTop (mkF m 74 #[.val (.long p1), .second, .val (.long p2), .second, .val (.long p3), .second, .val (.long (own_minL p1 p2)), .second, .val (.long (own_maxL p1 p2)), .second, .val (.ref b3)] [])) _
  refine own_via (fun t k => XS.aload X8.here hx rfl (hb hby at_74) rfl rfl k) ?_
  show own_Rch p.tables e below (T8.setTop (mkF m 76 #[.val (.long p1), .second, .val (.long p2), .second, .val (.long p3), .second, .val (.long (own_minL p1 p2)), .second, .val (.long (own_maxL p1 p2)), .second, .val (.ref b3)] [(.ref b3)])) _
  refine own_via (fun t k => XS.lload X8.here hx rfl (hb hby at_76) rfl k) ?_
  show own_Rch p.tables e below (T8.setTop (mkF m 78 #[.val (.long p1), .second, .val (.long p2), .second, .val (.long p3), .second, .val (.long (own_minL p1 p2)), .second, .val (.long (own_maxL p1 p2)), .second, .val (.ref b3)] [(.long (own_minL p1 p2)), (.ref b3)])) _
  refine own_via (fun t k => XS.lload X8.here hx rfl (hb hby at_78) rfl k) ?_
  show own_Rch p.tables e below (T8.setTop (mkF m 80 #[.val (.long p1), .second, .val (.long p2), .second, .val (.long p3), .second, .val (.long (own_minL p1 p2)), .second, .val (.long (own_maxL p1 p2)), .second, .val (.ref b3)] [(.long (own_maxL p1 p2)), (.long (own_minL p1 p2)), (.ref b3)])) _
  refine own_via (fun t k => XS.lload X8.here hx rfl (hb hby at_80) rfl k) ?_
  show own_Rch p.tables e below (T8.setTop (mkF m 82 #[.val (.long p1), .second, .val (.long p2), .second, .val (.long p3), .second, .val (.long (own_minL p1 p2)), .second, .val (.long (own_maxL p1 p2)), .second, .val (.ref b3)] [(.long (own_maxL p1 p2)), (.long (own_maxL p1 p2)), (.long (own_minL p1 p2)), (.ref b3)])) _
  obtain ⟨_, _, ⟨T9, L9, k9, n9⟩, -, X9, ⟨Lc9, hQ9, l9, y9, z9⟩, st9⟩ := Jvm.LawKit.callS X8 hx (y := (⟨"com/example/quotienta/quotienta/io/SlotHoldsPinLaw", "agrees", "(Lcom/example/quotienta/quotienta/io/JaniStates$Slot;JJJ)Z"⟩ : MethodName)) hown (mvT hZ (hw _ (List.mem_of_getElem? (i := 32) rfl))) (mvT hZ (hw _ (List.mem_of_getElem? (i := 33) rfl))) (mvT hZ (hw _ (List.mem_of_getElem? (i := 34) rfl))) (mvT hZ (hw _ (List.mem_of_getElem? (i := 35) rfl))) (by decide) (backOf (W := 0) (rma l Z a0 hw [] b3 (own_minL p1 p2) (own_maxL p1 p2) (own_maxL p1 p2) T5.heap n0 E5_0 Fl5 Fu5 (own_le _ _)) hZ (hw _ (List.mem_of_getElem? (i := 35) rfl)) (hw _ (List.mem_of_getElem? (i := 34) rfl)) (by decide) (by decide)) (g := (mkF m 82 #[.val (.long p1), .second, .val (.long p2), .second, .val (.long p3), .second, .val (.long (own_minL p1 p2)), .second, .val (.long (own_maxL p1 p2)), .second, .val (.ref b3)] [(.long (own_maxL p1 p2)), (.long (own_maxL p1 p2)), (.long (own_minL p1 p2)), (.ref b3)])) rfl (by rw [hml]; rfl) (argsL := [(.ref b3), (.long (own_minL p1 p2)), (.long (own_maxL p1 p2)), (.long (own_maxL p1 p2))]) (rest := []) (lenOf pd_3 rfl) rfl (by show 2 * 0 + _ ≤ _; exact Nat.le_of_eq rfl) (hb hby at_82) (fun _ _ => ⟨rfl, eh8, (by decide : 3 + 0 ≤ _), (by decide : 12 + 0 ≤ _)⟩)
  dsimp only [Pt.U, Pt.locs, Pt.cells, Pt.slots] at X9 l9 y9 z9 st9 hQ9
  subst l9 y9 z9
  obtain ⟨rfl, N9q, eh9⟩ := hQ9
  have N9 := Fr.app N8 N9q
  refine own_via st9 ?_
  show own_Rch p.tables e below (T9.setTop (mkF m 85 #[.val (.long p1), .second, .val (.long p2), .second, .val (.long p3), .second, .val (.long (own_minL p1 p2)), .second, .val (.long (own_maxL p1 p2)), .second, .val (.ref b3)] [(.int (1 : Int32))])) _
  refine own_via (fun t k => XS.ifNo X9.here hx rfl (hb hby at_85) rfl ((if0 _ _).trans (feq (by decide : ¬ ((1 : Int32) = (0 : Int32)))).1) k) ?_
  show own_Rch p.tables e below (T9.setTop (mkF m 88 #[.val (.long p1), .second, .val (.long p2), .second, .val (.long p3), .second, .val (.long (own_minL p1 p2)), .second, .val (.long (own_maxL p1 p2)), .second, .val (.ref b3)] [])) _
  refine own_via (fun t k => XS.aload X9.here hx rfl (hb hby at_88) rfl rfl k) ?_
  show own_Rch p.tables e below (T9.setTop (mkF m 90 #[.val (.long p1), .second, .val (.long p2), .second, .val (.long p3), .second, .val (.long (own_minL p1 p2)), .second, .val (.long (own_maxL p1 p2)), .second, .val (.ref b3)] [(.ref b3)])) _
  refine own_via (fun t k => XS.lload X9.here hx rfl (hb hby at_90) rfl k) ?_
  show own_Rch p.tables e below (T9.setTop (mkF m 92 #[.val (.long p1), .second, .val (.long p2), .second, .val (.long p3), .second, .val (.long (own_minL p1 p2)), .second, .val (.long (own_maxL p1 p2)), .second, .val (.ref b3)] [(.long (own_minL p1 p2)), (.ref b3)])) _
  refine own_via (fun t k => XS.lload X9.here hx rfl (hb hby at_92) rfl k) ?_
  show own_Rch p.tables e below (T9.setTop (mkF m 94 #[.val (.long p1), .second, .val (.long p2), .second, .val (.long p3), .second, .val (.long (own_minL p1 p2)), .second, .val (.long (own_maxL p1 p2)), .second, .val (.ref b3)] [(.long (own_maxL p1 p2)), (.long (own_minL p1 p2)), (.ref b3)])) _
  refine own_via (fun t k => XS.lload X9.here hx rfl (hb hby at_94) rfl k) ?_
  show own_Rch p.tables e below (T9.setTop (mkF m 96 #[.val (.long p1), .second, .val (.long p2), .second, .val (.long p3), .second, .val (.long (own_minL p1 p2)), .second, .val (.long (own_maxL p1 p2)), .second, .val (.ref b3)] [(.long (own_maxL p1 p2)), (.long (own_maxL p1 p2)), (.long (own_minL p1 p2)), (.ref b3)])) _
  refine own_via (fun t k => XS.lconst X9.here hx rfl (hb hby at_96) k) ?_
  show own_Rch p.tables e below (T9.setTop (mkF m 97 #[.val (.long p1), .second, .val (.long p2), .second, .val (.long p3), .second, .val (.long (own_minL p1 p2)), .second, .val (.long (own_maxL p1 p2)), .second, .val (.ref b3)] [(.long (1 : Int64)), (.long (own_maxL p1 p2)), (.long (own_maxL p1 p2)), (.long (own_minL p1 p2)), (.ref b3)])) _
  refine own_via (fun t k => XS.ladd X9.here hx rfl (hb hby at_97) rfl k) ?_
  show own_Rch p.tables e below (T9.setTop (mkF m 98 #[.val (.long p1), .second, .val (.long p2), .second, .val (.long p3), .second, .val (.long (own_minL p1 p2)), .second, .val (.long (own_maxL p1 p2)), .second, .val (.ref b3)] [(.long ((own_maxL p1 p2) + (1 : Int64))), (.long (own_maxL p1 p2)), (.long (own_minL p1 p2)), (.ref b3)])) _
  obtain ⟨_, _, ⟨T10, L10, k10, n10⟩, -, X10, ⟨Lc10, hQ10, l10, y10, z10⟩, st10⟩ := Jvm.LawKit.callS X9 hx (y := (⟨"com/example/quotienta/quotienta/io/SlotHoldsPinLaw", "agrees", "(Lcom/example/quotienta/quotienta/io/JaniStates$Slot;JJJ)Z"⟩ : MethodName)) hown (mvT hZ (hw _ (List.mem_of_getElem? (i := 32) rfl))) (mvT hZ (hw _ (List.mem_of_getElem? (i := 33) rfl))) (mvT hZ (hw _ (List.mem_of_getElem? (i := 34) rfl))) (mvT hZ (hw _ (List.mem_of_getElem? (i := 35) rfl))) (by decide) (backOf (W := 0) (rma l Z a0 hw [] b3 (own_minL p1 p2) (own_maxL p1 p2) ((own_maxL p1 p2) + (1 : Int64)) T5.heap n0 E5_0 Fl5 Fu5 (own_le _ _)) hZ (hw _ (List.mem_of_getElem? (i := 35) rfl)) (hw _ (List.mem_of_getElem? (i := 34) rfl)) (by decide) (by decide)) (g := (mkF m 98 #[.val (.long p1), .second, .val (.long p2), .second, .val (.long p3), .second, .val (.long (own_minL p1 p2)), .second, .val (.long (own_maxL p1 p2)), .second, .val (.ref b3)] [(.long ((own_maxL p1 p2) + (1 : Int64))), (.long (own_maxL p1 p2)), (.long (own_minL p1 p2)), (.ref b3)])) rfl (by rw [hml]; rfl) (argsL := [(.ref b3), (.long (own_minL p1 p2)), (.long (own_maxL p1 p2)), (.long ((own_maxL p1 p2) + (1 : Int64)))]) (rest := []) (lenOf pd_3 rfl) rfl (by show 2 * 0 + _ ≤ _; exact Nat.le_of_eq rfl) (hb hby at_98) (fun _ _ => ⟨rfl, eh9, (by decide : 3 + 0 ≤ _), (by decide : 12 + 0 ≤ _)⟩)
  dsimp only [Pt.U, Pt.locs, Pt.cells, Pt.slots] at X10 l10 y10 z10 st10 hQ10
  subst l10 y10 z10
  obtain ⟨rfl, N10q, eh10⟩ := hQ10
  have N10 := Fr.app N9 N10q
  refine own_via st10 ?_
  show own_Rch p.tables e below (T10.setTop (mkF m 101 #[.val (.long p1), .second, .val (.long p2), .second, .val (.long p3), .second, .val (.long (own_minL p1 p2)), .second, .val (.long (own_maxL p1 p2)), .second, .val (.ref b3)] [(.int (1 : Int32))])) _
  refine own_via (fun t k => XS.ifNo X10.here hx rfl (hb hby at_101) rfl ((if0 _ _).trans (feq (by decide : ¬ ((1 : Int32) = (0 : Int32)))).1) k) ?_
  show own_Rch p.tables e below (T10.setTop (mkF m 104 #[.val (.long p1), .second, .val (.long p2), .second, .val (.long p3), .second, .val (.long (own_minL p1 p2)), .second, .val (.long (own_maxL p1 p2)), .second, .val (.ref b3)] [])) _
  refine own_via (fun t k => XS.iconst X10.here hx rfl (hb hby at_104) k) ?_
  show own_Rch p.tables e below (T10.setTop (mkF m 105 #[.val (.long p1), .second, .val (.long p2), .second, .val (.long p3), .second, .val (.long (own_minL p1 p2)), .second, .val (.long (own_maxL p1 p2)), .second, .val (.ref b3)] [(.int (1 : Int32))])) _
  refine own_via (fun t k => XS.goto X10.here hx rfl (pc0 := 105) (pc' := 109) rfl (hb hby at_105) (by decide) (by decide) k) ?_
  show own_Rch p.tables e below (T10.setTop (mkF m 109 #[.val (.long p1), .second, .val (.long p2), .second, .val (.long p3), .second, .val (.long (own_minL p1 p2)), .second, .val (.long (own_maxL p1 p2)), .second, .val (.ref b3)] [(.int (1 : Int32))])) _
  exact own_finW X10 Si4 (by rw [eh10]; exact (Nat.le_trans gk4 K5.1)) hx (t := .boolean) (i := .ireturn) Bd.returns Bd.notSynchronized rfl (Or.inl ⟨rfl, by simp, _, rfl⟩) (hb hby at_109) (by decide) (by decide) ⟨rfl, N10⟩
set_option maxRecDepth 65536 in
set_option maxHeartbeats 40000000 in
theorem comes_1 {Post : Tables → Env → Array Value → State → Outcome → State → Prop} (hpost : ∀ tb e args s v u, (limb_1_1.after args s (.returned v) u = true ∧ limb_1_2.after args s (.returned v) u = true ∧ True) → own_FE s (.returned v) u (Jvm.fieldLocs frame_1_writes args s ++ Jvm.arrayLocs frame_1_arrays args s ++ Jvm.staticLocs frame_1_statics s) 16 1152 → Post tb e args s (.returned v) u) :
    ArmFor flags0 classFile x code maxLocals ret World_1 tables_1 room_1 Calls_1 rest_1 Pre_1 Post := by
  intro l hfl _ _ p e ha hc hk s m args below hf hA hF happ hP
  obtain ⟨hcalls, hrest, hpre⟩ := hP
  obtain ⟨-, -, -, hnamed, -, -, -, hat⟩ := (Spec.applies_iff hf).mp happ
  obtain ⟨hg, hn⟩ := and_e (Cond.before_iff.mp (show (Jvm.Cond.and given_1 narrow_1).before args s = true from hpre))
  obtain ⟨hcount, r0⟩ := and_e hg
  obtain ⟨v0, r1⟩ := and_e r0
  obtain ⟨v1, r2⟩ := and_e r1
  obtain ⟨w0, w1, w2, rfl⟩ : ∃ w0 w1 w2 : Value, args = #[w0, w1, w2] := by
    have hs : args.size = 3 := by simpa [Cond.value, given_1] using hcount
    obtain ⟨L⟩ := args
    match L, hs with
    | [w0, w1, w2], _ => exact ⟨w0, w1, w2, rfl⟩
  have hw := fun d (hd : d ∈ tables_1) => atoms_spec (ws := Jvm.Cond.code x code maxLocals ret :: tables_1) hat d (List.mem_cons_of_mem _ hd)
  have hfit : Fit s := fun {y c} hc i hi => by
    obtain ⟨ha, rfl⟩ := Array.getElem?_eq_some_iff.mp hc
    have q := List.all_eq_true.mp ((Array.all_eq_true_iff_forall_mem.mp hF) _ (Array.getElem_mem ha)) i (List.mem_range.mpr hi)
    simpa [Array.getElem?_eq_getElem hi] using q
  obtain ⟨i0, ei0⟩ := isL_v v0
  obtain rfl : w0 = (.long i0) := Option.some.inj ei0
  obtain ⟨i1, ei1⟩ := isL_v v1
  obtain rfl : w1 = (.long i1) := Option.some.inj ei1
  obtain ⟨i2, ei2⟩ := isL_v r2
  obtain rfl : w2 = (.long i2) := Option.some.inj ei2
  obtain ⟨n, o, h1, h2, h3, _, L, rfl, ⟨rfl, N⟩, hq⟩ := rm0 l s _ hw tables_1 i0 i1 i2 s.heap s.heap.size (Nat.le_refl _) p e ha hc hk s m _ below hf ((Spec.applies_iff_loose hf).mp happ).1 ⟨rfl, State.Warmed39.refl s, rfl⟩ trivial
  refine ⟨n, _, h1, h2, h3, hpost _ _ _ _ _ _ ⟨Cond.after_iff.mpr rfl, Cond.after_iff.mpr (eq_i res_at (Term.int_eval (1)) rfl), trivial⟩ (own_FE_of hq N)⟩
theorem main_1_1 : Claimed_1_1 := comes_1 fun _ _ _ _ _ _ h hF => ⟨h.1, hF⟩
theorem main_1_2 : Claimed_1_2 := comes_1 fun _ _ _ _ _ _ h hF => ⟨h.2.1, hF⟩
end Jvm.Pilot.@@N@@
namespace Jvm.Pilot.@@N@@
open Jvm Jvm.ClassFile Sem Op Lib Jvm.Free Jvm.Stand Jvm.Pilot.@@N@@.Jvm.D
/-! MADE BY PROGRAM (witnessworld.py) out of the Statement's table words and the real class files: 15 classes; the members and pool entries that the words name. The judged class is class 1, her method 1. -/
namespace start1
open Jvm.ClassFile
def u (s : String) : CpInfo := .utf8 (stringToUtf16 s)
/-- a pool by its gaps: so many unusable entries, then the entry; so many at the end -/
def gap : Nat → List CpInfo → List CpInfo
  | 0, r => r
  | n + 1, r => .unusable :: gap n r
def poolList (es : List (Nat × CpInfo)) (last : Nat) : List CpInfo := es.foldr (fun e r => gap e.1 (e.2 :: r)) (gap last [])
def pool (es : List (Nat × CpInfo)) (last : Nat) : Array CpInfo := ⟨poolList es last⟩
def fileOf (pool : Array CpInfo) (this : Nat) (attrs : Array Attribute := #[]) (ms : Array MethodInfo := #[]) (fl : Nat := 33) (sup : Nat := 0) (ifs : Array Nat := #[]) (fds : Array FieldInfo := #[]) : ClassFile where
  minorVersion := 0
  majorVersion := 65
  constantPool := pool
  accessFlags := fl
  thisClass := this
  superClass := sup
  interfaces := ifs
  fields := fds
  methods := ms
  attributes := attrs
def plain (name : String) (sup : Option ClassId) : Class where
  name := name
  kind := .ordinary
  loader := none
  accessFlags := 33
  super := sup
  interfaces := #[]
  cf := none
  fields := #[]
  methods := #[]
  instanceTypes := #[]
  staticTypes := #[]
  resolved := #[]
  callSites := []
  init := .initialized
  statics := none
  mirror := none

def pool0 : Array CpInfo := pool [(5, u "<init>"), (0, u "()V"), (1, .class_ 10), (1, u "java/lang/Object")] 113

def k0c0 : Code := { maxStack := 0, maxLocals := 1, code := object_method_1_code, exceptionTable := #[], attributes := #[] }
def k0m0 : Method := { name := "<init>", desc := "()V", sig := { parameters := [], returnType := none }, accessFlags := 1, code := some k0c0 }
/-- java/lang/Object -/
def k0 : Class := { plain "java/lang/Object" none with
  accessFlags := 33
  interfaces := #[]
  cf := some (fileOf pool0 8 #[] #[{ accessFlags := 1, nameIndex := 5, descriptorIndex := 6, attributes := #[] }] 33 0 #[] #[])
  fields := #[]
  methods := #[k0m0]
  instanceTypes := #[]
  staticTypes := #[]
  resolved := Array.replicate 124 none
  statics := none }

def pool1 : Array CpInfo := pool [(2, .class_ 4), (1, u "java/lang/Object"), (0, u "<init>"), (0, u "()V"), (0, .methodref 8 9), (0, .class_ 10), (0, .nameAndType 11 12), (0, u "java/lang/Math"), (0, u "min"), (0, u "(JJ)J"), (0, .methodref 8 14), (0, .nameAndType 15 12), (0, u "max"), (0, .class_ 17), (0, u "com/example/quotienta/quotienta/io/JaniStates$Slot"), (0, .string 19), (0, u "x"), (0, .methodref 16 21), (0, .nameAndType 5 22), (0, u "(Ljava/lang/String;JJ[Ljava/lang/String;)V"), (0, .methodref 24 25), (0, .class_ 26), (0, .nameAndType 27 28), (0, u "com/example/quotienta/quotienta/io/SlotHoldsPinLaw"), (0, u "agrees"), (0, u "(Lcom/example/quotienta/quotienta/io/JaniStates$Slot;JJJ)Z"), (0, .methodref 16 30), (0, .nameAndType 31 32), (0, u "holds"), (0, u "(J)Z"), (2, u "law"), (0, u "(JJJ)Z")] 7

def k1m0 : Method := { name := "<init>", desc := "()V", sig := { parameters := [], returnType := none }, accessFlags := 1, code := none }
def k1c1 : Code := { maxStack := 9, maxLocals := 11, code := code, exceptionTable := #[], attributes := #[] }
def k1m1 : Method := { name := "law", desc := "(JJJ)Z", sig := { parameters := [.long, .long, .long], returnType := some .boolean }, accessFlags := 9, code := some k1c1 }
def k1c2 : Code := { maxStack := 6, maxLocals := 8, code := method_3_code, exceptionTable := #[], attributes := #[] }
def k1m2 : Method := { name := "agrees", desc := "(Lcom/example/quotienta/quotienta/io/JaniStates$Slot;JJJ)Z", sig := { parameters := [(.object "com/example/quotienta/quotienta/io/JaniStates$Slot"), .long, .long, .long], returnType := some .boolean }, accessFlags := 10, code := some k1c2 }
/-- com/example/quotienta/quotienta/io/SlotHoldsPinLaw -/
def k1 : Class := { plain "com/example/quotienta/quotienta/io/SlotHoldsPinLaw" (some 0) with
  accessFlags := 49
  interfaces := #[]
  cf := some (fileOf pool1 24 #[] #[{ accessFlags := 1, nameIndex := 5, descriptorIndex := 6, attributes := #[] }, { accessFlags := 9, nameIndex := 35, descriptorIndex := 36, attributes := #[] }, { accessFlags := 10, nameIndex := 27, descriptorIndex := 28, attributes := #[] }] 49 2 #[] #[])
  fields := #[]
  methods := #[k1m0, k1m1, k1m2]
  instanceTypes := #[]
  staticTypes := #[]
  resolved := Array.replicate 44 none
  statics := none }

def pool2 : Array CpInfo := pool [(1, .class_ 2), (0, u "java/lang/Math"), (1, .class_ 6), (1, u "java/lang/Object"), (0, u "<init>"), (0, u "()V"), (89, .class_ 100), (1, u "java/lang/Math$RandomNumberGeneratorHolder"), (20, u "(JJ)J"), (50, u "negativeZeroFloatBits"), (0, u "J"), (2, u "negativeZeroDoubleBits"), (21, u "max"), (2, u "min"), (43, u "$assertionsDisabled"), (0, u "Z"), (91, u "twoToTheDoubleScaleDown"), (0, u "D"), (4, u "twoToTheDoubleScaleUp"), (9, u "E"), (3, u "PI"), (2, u "TAU"), (2, u "DEGREES_TO_RADIANS"), (0, u "RADIANS_TO_DEGREES")] 94

def k2m0 : Method := { name := "<init>", desc := "()V", sig := { parameters := [], returnType := none }, accessFlags := 2, code := none }
def k2c1 : Code := { maxStack := 4, maxLocals := 4, code := jdk_29_method_66_code, exceptionTable := #[], attributes := #[] }
def k2m1 : Method := { name := "max", desc := "(JJ)J", sig := { parameters := [.long, .long], returnType := some .long }, accessFlags := 9, code := some k2c1 }
def k2c2 : Code := { maxStack := 4, maxLocals := 4, code := jdk_29_method_70_code, exceptionTable := #[], attributes := #[] }
def k2m2 : Method := { name := "min", desc := "(JJ)J", sig := { parameters := [.long, .long], returnType := some .long }, accessFlags := 9, code := some k2c2 }
/-- java/lang/Math -/
def k2 : Class := { plain "java/lang/Math" (some 0) with
  accessFlags := 49
  interfaces := #[]
  cf := some (fileOf pool2 1 #[.nestMembers #[98]] #[{ accessFlags := 2, nameIndex := 7, descriptorIndex := 8, attributes := #[] }, { accessFlags := 9, nameIndex := 198, descriptorIndex := 121, attributes := #[] }, { accessFlags := 9, nameIndex := 201, descriptorIndex := 121, attributes := #[] }] 49 4 #[] #[{ accessFlags := 25, nameIndex := 354, descriptorIndex := 339, attributes := #[] }, { accessFlags := 25, nameIndex := 358, descriptorIndex := 339, attributes := #[] }, { accessFlags := 25, nameIndex := 361, descriptorIndex := 339, attributes := #[] }, { accessFlags := 26, nameIndex := 364, descriptorIndex := 339, attributes := #[] }, { accessFlags := 26, nameIndex := 365, descriptorIndex := 339, attributes := #[] }, { accessFlags := 26, nameIndex := 172, descriptorIndex := 173, attributes := #[] }, { accessFlags := 26, nameIndex := 176, descriptorIndex := 173, attributes := #[] }, { accessFlags := 8, nameIndex := 344, descriptorIndex := 339, attributes := #[] }, { accessFlags := 8, nameIndex := 338, descriptorIndex := 339, attributes := #[] }, { accessFlags := 4120, nameIndex := 245, descriptorIndex := 246, attributes := #[] }])
  fields := #[{ name := "E", type := .double, accessFlags := 25, slot := 0, constantValue := 0 }, { name := "PI", type := .double, accessFlags := 25, slot := 1, constantValue := 0 }, { name := "TAU", type := .double, accessFlags := 25, slot := 2, constantValue := 0 }, { name := "DEGREES_TO_RADIANS", type := .double, accessFlags := 26, slot := 3, constantValue := 0 }, { name := "RADIANS_TO_DEGREES", type := .double, accessFlags := 26, slot := 4, constantValue := 0 }, { name := "negativeZeroFloatBits", type := .long, accessFlags := 26, slot := 5, constantValue := 0 }, { name := "negativeZeroDoubleBits", type := .long, accessFlags := 26, slot := 6, constantValue := 0 }, { name := "twoToTheDoubleScaleUp", type := .double, accessFlags := 8, slot := 7, constantValue := 0 }, { name := "twoToTheDoubleScaleDown", type := .double, accessFlags := 8, slot := 8, constantValue := 0 }, { name := "$assertionsDisabled", type := .boolean, accessFlags := 4120, slot := 9, constantValue := 0 }]
  methods := #[k2m0, k2m1, k2m2]
  instanceTypes := #[]
  staticTypes := #[.double, .double, .double, .double, .double, .long, .long, .double, .double, .boolean]
  resolved := Array.replicate 460 none
  statics := none }

def pool3 : Array CpInfo := pool [(1, .methodref 2 3), (0, .class_ 4), (0, .nameAndType 5 6), (0, u "java/lang/Object"), (0, u "<init>"), (0, u "()V"), (0, .fieldref 8 9), (0, .class_ 10), (0, .nameAndType 11 12), (0, u "com/example/quotienta/quotienta/io/JaniStates$Slot"), (0, u "name"), (0, u "Ljava/lang/String;"), (0, .fieldref 8 14), (0, .nameAndType 15 16), (0, u "lower"), (0, u "J"), (0, .fieldref 8 18), (0, .nameAndType 19 16), (0, u "upper"), (0, .fieldref 8 21), (0, .nameAndType 22 23), (0, u "valueNames"), (0, u "[Ljava/lang/String;"), (10, u "(Ljava/lang/String;JJ[Ljava/lang/String;)V"), (2, u "holds"), (0, u "(J)Z"), (10, .class_ 50), (0, u "com/example/quotienta/quotienta/io/JaniStates")] 16

def k3c0 : Code := { maxStack := 3, maxLocals := 7, code := prog_16_method_1_code, exceptionTable := #[], attributes := #[] }
def k3m0 : Method := { name := "<init>", desc := "(Ljava/lang/String;JJ[Ljava/lang/String;)V", sig := { parameters := [(.object "java/lang/String"), .long, .long, (.array (.object "java/lang/String"))], returnType := none }, accessFlags := 0, code := some k3c0 }
def k3c1 : Code := { maxStack := 4, maxLocals := 3, code := prog_16_method_2_code, exceptionTable := #[], attributes := #[] }
def k3m1 : Method := { name := "holds", desc := "(J)Z", sig := { parameters := [.long], returnType := some .boolean }, accessFlags := 0, code := some k3c1 }
/-- com/example/quotienta/quotienta/io/JaniStates$Slot -/
def k3 : Class := { plain "com/example/quotienta/quotienta/io/JaniStates$Slot" (some 0) with
  accessFlags := 48
  interfaces := #[]
  cf := some (fileOf pool3 8 #[.nestHost 49] #[{ accessFlags := 0, nameIndex := 5, descriptorIndex := 34, attributes := #[] }, { accessFlags := 0, nameIndex := 37, descriptorIndex := 38, attributes := #[] }] 48 2 #[] #[{ accessFlags := 18, nameIndex := 11, descriptorIndex := 12, attributes := #[] }, { accessFlags := 18, nameIndex := 15, descriptorIndex := 16, attributes := #[] }, { accessFlags := 18, nameIndex := 19, descriptorIndex := 16, attributes := #[] }, { accessFlags := 18, nameIndex := 22, descriptorIndex := 23, attributes := #[] }])
  fields := #[{ name := "name", type := (.object "java/lang/String"), accessFlags := 18, slot := 0, constantValue := 0 }, { name := "lower", type := .long, accessFlags := 18, slot := 1, constantValue := 0 }, { name := "upper", type := .long, accessFlags := 18, slot := 2, constantValue := 0 }, { name := "valueNames", type := (.array (.object "java/lang/String")), accessFlags := 18, slot := 3, constantValue := 0 }]
  methods := #[k3m0, k3m1]
  instanceTypes := #[(.object "java/lang/String"), .long, .long, (.array (.object "java/lang/String"))]
  staticTypes := #[]
  resolved := Array.replicate 67 none
  statics := none }

def pool4 : Array CpInfo := pool [(1, .class_ 2), (0, u "java/io/Serializable"), (0, .class_ 4), (0, u "java/lang/Object")] 2

/-- java/io/Serializable -/
def k4 : Class := { plain "java/io/Serializable" (some 0) with
  accessFlags := 1537
  interfaces := #[]
  cf := some (fileOf pool4 1 #[] #[] 1537 3 #[] #[])
  fields := #[]
  methods := #[]
  instanceTypes := #[]
  staticTypes := #[]
  resolved := Array.replicate 7 none
  statics := none }

def pool5 : Array CpInfo := pool [(1, .class_ 2), (0, u "java/lang/Comparable"), (0, .class_ 4), (0, u "java/lang/Object")] 7

/-- java/lang/Comparable -/
def k5 : Class := { plain "java/lang/Comparable" (some 0) with
  accessFlags := 1537
  interfaces := #[]
  cf := some (fileOf pool5 1 #[] #[] 1537 3 #[] #[])
  fields := #[]
  methods := #[]
  instanceTypes := #[]
  staticTypes := #[]
  resolved := Array.replicate 12 none
  statics := none }

def pool6 : Array CpInfo := pool [(2, .class_ 4), (1, u "java/lang/CharSequence"), (42, .class_ 48), (0, u "java/lang/CharSequence$1CodePointIterator"), (10, .class_ 60), (0, u "java/lang/CharSequence$1CharIterator"), (5, .class_ 67), (0, u "java/lang/Object")] 63

/-- java/lang/CharSequence -/
def k6 : Class := { plain "java/lang/CharSequence" (some 0) with
  accessFlags := 1537
  interfaces := #[]
  cf := some (fileOf pool6 2 #[.nestMembers #[47, 59]] #[] 1537 66 #[] #[])
  fields := #[]
  methods := #[]
  instanceTypes := #[]
  staticTypes := #[]
  resolved := Array.replicate 131 none
  statics := none }

def pool7 : Array CpInfo := pool [(1, .class_ 2), (0, u "java/lang/constant/Constable"), (0, .class_ 4), (0, u "java/lang/Object")] 6

/-- java/lang/constant/Constable -/
def k7 : Class := { plain "java/lang/constant/Constable" (some 0) with
  accessFlags := 1537
  interfaces := #[]
  cf := some (fileOf pool7 1 #[] #[] 1537 3 #[] #[])
  fields := #[]
  methods := #[]
  instanceTypes := #[]
  staticTypes := #[]
  resolved := Array.replicate 11 none
  statics := none }

def pool8 : Array CpInfo := pool [(1, .class_ 2), (0, u "java/lang/constant/ConstantDesc"), (0, .class_ 4), (0, u "java/lang/Object")] 32

/-- java/lang/constant/ConstantDesc -/
def k8 : Class := { plain "java/lang/constant/ConstantDesc" (some 0) with
  accessFlags := 1537
  interfaces := #[]
  cf := some (fileOf pool8 1 #[] #[] 1537 3 #[] #[])
  fields := #[]
  methods := #[]
  instanceTypes := #[]
  staticTypes := #[]
  resolved := Array.replicate 37 none
  statics := none }

def pool9 : Array CpInfo := pool [(2, .class_ 4), (1, u "java/lang/Object"), (0, u "<init>"), (0, u "()V"), (3, .class_ 12), (1, u "java/lang/String"), (0, u "value"), (0, u "[B"), (2, u "coder"), (0, u "B"), (2, u "hash"), (0, u "I"), (2, u "hashIsZero"), (0, u "Z"), (13, u "COMPACT_STRINGS"), (534, .class_ 576), (0, u "java/lang/CharSequence"), (22, u "CASE_INSENSITIVE_ORDER"), (0, u "Ljava/util/Comparator;"), (500, u "serialPersistentFields"), (0, u "[Ljava/io/ObjectStreamField;"), (0, .class_ 1104), (0, u "java/lang/String$CaseInsensitiveComparator"), (1, .class_ 1107), (0, u "java/io/Serializable"), (0, .class_ 1109), (0, u "java/lang/Comparable"), (0, .class_ 1111), (0, u "java/lang/constant/Constable"), (0, .class_ 1113), (0, u "java/lang/constant/ConstantDesc"), (2, u "serialVersionUID"), (0, u "J"), (3, u "REPL"), (0, u "C"), (2, u "LATIN1"), (1, u "UTF16")] 323

def k9m0 : Method := { name := "<init>", desc := "()V", sig := { parameters := [], returnType := none }, accessFlags := 1, code := none }
/-- java/lang/String -/
def k9 : Class := { plain "java/lang/String" (some 0) with
  accessFlags := 49
  interfaces := #[4, 5, 6, 7, 8]
  cf := some (fileOf pool9 10 #[.nestMembers #[1103]] #[{ accessFlags := 1, nameIndex := 5, descriptorIndex := 6, attributes := #[] }] 49 2 #[1106, 1108, 575, 1110, 1112] #[{ accessFlags := 18, nameIndex := 13, descriptorIndex := 14, attributes := #[] }, { accessFlags := 18, nameIndex := 17, descriptorIndex := 18, attributes := #[] }, { accessFlags := 2, nameIndex := 21, descriptorIndex := 22, attributes := #[] }, { accessFlags := 2, nameIndex := 25, descriptorIndex := 26, attributes := #[] }, { accessFlags := 26, nameIndex := 1116, descriptorIndex := 1117, attributes := #[] }, { accessFlags := 24, nameIndex := 40, descriptorIndex := 26, attributes := #[] }, { accessFlags := 26, nameIndex := 1101, descriptorIndex := 1102, attributes := #[] }, { accessFlags := 26, nameIndex := 1121, descriptorIndex := 1122, attributes := #[] }, { accessFlags := 25, nameIndex := 599, descriptorIndex := 600, attributes := #[] }, { accessFlags := 24, nameIndex := 1125, descriptorIndex := 18, attributes := #[] }, { accessFlags := 24, nameIndex := 1127, descriptorIndex := 18, attributes := #[] }])
  fields := #[{ name := "value", type := (.array .byte), accessFlags := 18, slot := 0, constantValue := 0 }, { name := "coder", type := .byte, accessFlags := 18, slot := 1, constantValue := 0 }, { name := "hash", type := .int, accessFlags := 2, slot := 2, constantValue := 0 }, { name := "hashIsZero", type := .boolean, accessFlags := 2, slot := 3, constantValue := 0 }, { name := "serialVersionUID", type := .long, accessFlags := 26, slot := 0, constantValue := 0 }, { name := "COMPACT_STRINGS", type := .boolean, accessFlags := 24, slot := 1, constantValue := 0 }, { name := "serialPersistentFields", type := (.array (.object "java/io/ObjectStreamField")), accessFlags := 26, slot := 2, constantValue := 0 }, { name := "REPL", type := .char, accessFlags := 26, slot := 3, constantValue := 0 }, { name := "CASE_INSENSITIVE_ORDER", type := (.object "java/util/Comparator"), accessFlags := 25, slot := 4, constantValue := 0 }, { name := "LATIN1", type := .byte, accessFlags := 24, slot := 5, constantValue := 0 }, { name := "UTF16", type := .byte, accessFlags := 24, slot := 6, constantValue := 0 }]
  methods := #[k9m0]
  instanceTypes := #[(.array .byte), .byte, .int, .boolean]
  staticTypes := #[.long, .boolean, (.array (.object "java/io/ObjectStreamField")), .char, (.object "java/util/Comparator"), .byte, .byte]
  resolved := Array.replicate 1451 none
  statics := none }

def pool10 : Array CpInfo := pool [(1, u "java/lang/Cloneable"), (0, .class_ 1), (0, u "java/lang/Object"), (0, .class_ 3)] 3

/-- java/lang/Cloneable -/
def k10 : Class := { plain "java/lang/Cloneable" (some 0) with
  accessFlags := 1537
  interfaces := #[]
  cf := some (fileOf pool10 2 #[] #[] 1537 4 #[] #[])
  fields := #[]
  methods := #[]
  instanceTypes := #[]
  staticTypes := #[]
  resolved := Array.replicate 8 none
  statics := none }

/-- the primitive byte -/
def k11 : Class := { plain "byte" none with kind := .primitive 'B', accessFlags := 0x411 }
/-- [B -/
def k12 : Class := { plain "[B" (some 0) with kind := .array 11 .byte, interfaces := #[10, 4], accessFlags := 1041 }

/-- the primitive int -/
def k13 : Class := { plain "int" none with kind := .primitive 'I', accessFlags := 0x411 }
/-- [I -/
def k14 : Class := { plain "[I" (some 0) with kind := .array 13 .int, interfaces := #[10, 4], accessFlags := 1041 }

def heap : Heap := #[]
def classes : Array Class := #[k0, k1, k2, k3, k4, k5, k6, k7, k8, k9, k10, k11, k12, k13, k14]
def interned : List (Array UInt16 × Addr) := []
def slotsUsed : Nat := 0
def theMethod : MethodId := ⟨1, 1⟩
def args0 : Array Value := #[.long 7, .long 7, .long 7]
def aboutOver (below : List Frame) : State where
  vm := { classes := classes, interned := interned.toArray }
  heap := heap
  slotsUsed := slotsUsed
  threads := #[{ frames := .invoking theMethod args0 :: below }]
def below0 : List Frame := [.native { method := ⟨0, 0⟩, args := #[] }]
def about1 : State := aboutOver below0
def p0 : Program := .bare "" "" ""
def e0 : Env := launch0.env 0 0 0
theorem w_frames : about1.frames = Frame.invoking theMethod args0 :: below0 := rfl
set_option maxRecDepth 65536 in
theorem w_args : argsFit about1.vm theMethod args0 = true := by decide +kernel
set_option maxRecDepth 65536 in
theorem w_heap : heapFits about1 = true := by decide +kernel
set_option maxRecDepth 65536 in
theorem w_runnable : about1.curStatus? = some .runnable := by decide +kernel
set_option maxRecDepth 65536 in
theorem w_alone : about1.alone = true := by decide +kernel
set_option maxRecDepth 65536 in
theorem w_named : about1.methodNamed? x = some theMethod := by decide +kernel
set_option maxRecDepth 65536 in
theorem w_hears : about1.hears theMethod below0 = true := by decide +kernel
set_option maxRecDepth 65536 in
theorem w_ripe : about1.ripe theMethod args0 below0 = true := by decide +kernel
theorem w_running : about1.status = .running := rfl
set_option maxRecDepth 65536 in
theorem w_room : about1.hasRoom e0.platform room_1 = true :=
  launch0.hasRoom_least _ room_1 (by decide +kernel) (by decide +kernel) (by decide +kernel) (by decide +kernel) (by decide +kernel) (by decide +kernel)
theorem allAtoms_all (ts : List Jvm.Cond) (a : Array Jvm.Value) (st : Jvm.State) : (allAtoms ts).before a st = ts.all (fun c => c.before a st) := by
  induction ts with
  | nil => rfl
  | cons c t ih =>
    show (Jvm.Cond.and c (allAtoms t)).before a st = _
    rw [Jvm.Cond.before_and, ih, List.all_cons]
def words1 : List Jvm.Cond := Jvm.Cond.code x code maxLocals ret :: tables_1
/-- a 'code' word, met by the world's own term for the bytes: nothing is compared byte by byte -/
theorem code_word {y : MethodName} {bytes : ByteArray} {mx : Nat} {rt : Option FieldType} {a : Array Value} {s : State} {m : MethodId} {meth : Method} {c : Code} (h1 : s.methodNamed? y = some m) (h2 : s.vm.method? m = some meth) (h3 : meth.code = some c) (h4 : c.code = bytes)
    (h5 : (c.maxLocals == mx && c.exceptionTable.isEmpty && decide (c.maxStack ≤ mostOperands) && decide (meth.sig.returnType = rt) && !meth.locks && decide (parseMethodDescriptor y.desc = some meth.sig)) = true) : (Jvm.Cond.code y bytes mx rt).before a s = true := by
  simp only [Bool.and_eq_true, beq_iff_eq, Bool.not_eq_true', decide_eq_true_eq] at h5
  obtain ⟨⟨⟨⟨⟨g1, g2⟩, g3⟩, g4⟩, g5⟩, g6⟩ := h5
  simp [Cond.before, Cond.holds, Cond.value, h1, h2, h3, h4, g1, g2, g3, g4, g5, g6]
def isCode : Jvm.Cond → Bool
  | .code _ _ _ _ => true
  | _ => false
theorem all_split {L : List Jvm.Cond} {P : Jvm.Cond → Bool} (h1 : L.all (fun c => isCode c || P c) = true) (h2 : ∀ c ∈ L.filter isCode, P c = true) : L.all P = true := by
  refine List.all_eq_true.mpr fun c hc => ?_
  have h := List.all_eq_true.mp h1 c hc
  rcases Bool.eq_false_or_eq_true (isCode c) with hi | hi
  · exact h2 c (List.mem_filter.mpr ⟨hc, hi⟩)
  · simpa [hi] using h
set_option maxRecDepth 65536 in
theorem w_c0 : (Jvm.Cond.code x code maxLocals ret).before args0 about1 = true := code_word (m := ⟨1, 1⟩) (meth := k1m1) (c := k1c1) (by decide +kernel) rfl rfl rfl (by decide +kernel)
set_option maxRecDepth 65536 in
theorem w_c1 : (Jvm.Cond.code ({ cls := "java/lang/Math", name := "min", desc := "(JJ)J" } : Jvm.MethodName) jdk_29_method_70_code (4 : Nat) (Option.some Jvm.ClassFile.FieldType.long)).before args0 about1 = true := code_word (m := ⟨2, 2⟩) (meth := k2m2) (c := k2c2) (by decide +kernel) rfl rfl rfl (by decide +kernel)
set_option maxRecDepth 65536 in
theorem w_c2 : (Jvm.Cond.code ({ cls := "java/lang/Math", name := "max", desc := "(JJ)J" } : Jvm.MethodName) jdk_29_method_66_code (4 : Nat) (Option.some Jvm.ClassFile.FieldType.long)).before args0 about1 = true := code_word (m := ⟨2, 1⟩) (meth := k2m1) (c := k2c1) (by decide +kernel) rfl rfl rfl (by decide +kernel)
set_option maxRecDepth 65536 in
theorem w_c3 : (Jvm.Cond.code ({ cls := "com/example/quotienta/quotienta/io/JaniStates$Slot", name := "<init>", desc := "(Ljava/lang/String;JJ[Ljava/lang/String;)V" } : Jvm.MethodName) prog_16_method_1_code (7 : Nat) (Option.none : Option Jvm.ClassFile.FieldType)).before args0 about1 = true := code_word (m := ⟨3, 0⟩) (meth := k3m0) (c := k3c0) (by decide +kernel) rfl rfl rfl (by decide +kernel)
set_option maxRecDepth 65536 in
theorem w_c4 : (Jvm.Cond.code ({ cls := "java/lang/Object", name := "<init>", desc := "()V" } : Jvm.MethodName) object_method_1_code (1 : Nat) (Option.none : Option Jvm.ClassFile.FieldType)).before args0 about1 = true := code_word (m := ⟨0, 0⟩) (meth := k0m0) (c := k0c0) (by decide +kernel) rfl rfl rfl (by decide +kernel)
set_option maxRecDepth 65536 in
theorem w_c5 : (Jvm.Cond.code ({ cls := "com/example/quotienta/quotienta/io/SlotHoldsPinLaw", name := "agrees", desc := "(Lcom/example/quotienta/quotienta/io/JaniStates$Slot;JJJ)Z" } : Jvm.MethodName) method_3_code (8 : Nat) (Option.some Jvm.ClassFile.FieldType.boolean)).before args0 about1 = true := code_word (m := ⟨1, 2⟩) (meth := k1m2) (c := k1c2) (by decide +kernel) rfl rfl rfl (by decide +kernel)
set_option maxRecDepth 65536 in
theorem w_c6 : (Jvm.Cond.code ({ cls := "com/example/quotienta/quotienta/io/JaniStates$Slot", name := "holds", desc := "(J)Z" } : Jvm.MethodName) prog_16_method_2_code (3 : Nat) (Option.some Jvm.ClassFile.FieldType.boolean)).before args0 about1 = true := code_word (m := ⟨3, 1⟩) (meth := k3m1) (c := k3c1) (by decide +kernel) rfl rfl rfl (by decide +kernel)
def codes1 : List Jvm.Cond := [Jvm.Cond.code x code maxLocals ret, Jvm.Cond.code ({ cls := "java/lang/Math", name := "min", desc := "(JJ)J" } : Jvm.MethodName) jdk_29_method_70_code (4 : Nat) (Option.some Jvm.ClassFile.FieldType.long), Jvm.Cond.code ({ cls := "java/lang/Math", name := "max", desc := "(JJ)J" } : Jvm.MethodName) jdk_29_method_66_code (4 : Nat) (Option.some Jvm.ClassFile.FieldType.long), Jvm.Cond.code ({ cls := "com/example/quotienta/quotienta/io/JaniStates$Slot", name := "<init>", desc := "(Ljava/lang/String;JJ[Ljava/lang/String;)V" } : Jvm.MethodName) prog_16_method_1_code (7 : Nat) (Option.none : Option Jvm.ClassFile.FieldType), Jvm.Cond.code ({ cls := "java/lang/Object", name := "<init>", desc := "()V" } : Jvm.MethodName) object_method_1_code (1 : Nat) (Option.none : Option Jvm.ClassFile.FieldType), Jvm.Cond.code ({ cls := "com/example/quotienta/quotienta/io/SlotHoldsPinLaw", name := "agrees", desc := "(Lcom/example/quotienta/quotienta/io/JaniStates$Slot;JJJ)Z" } : Jvm.MethodName) method_3_code (8 : Nat) (Option.some Jvm.ClassFile.FieldType.boolean), Jvm.Cond.code ({ cls := "com/example/quotienta/quotienta/io/JaniStates$Slot", name := "holds", desc := "(J)Z" } : Jvm.MethodName) prog_16_method_2_code (3 : Nat) (Option.some Jvm.ClassFile.FieldType.boolean)]
set_option maxRecDepth 65536 in
theorem codes_eq : words1.filter isCode = codes1 := rfl
theorem w_codes : ∀ c ∈ words1.filter isCode, c.before args0 about1 = true := by
  rw [codes_eq]
  intro c hc
  simp only [codes1, List.mem_cons, List.not_mem_nil, or_false] at hc
  rcases hc with rfl | rfl | rfl | rfl | rfl | rfl | rfl
  · exact w_c0
  · exact w_c1
  · exact w_c2
  · exact w_c3
  · exact w_c4
  · exact w_c5
  · exact w_c6
set_option maxRecDepth 65536 in
theorem w_t1 : (words1.take 24).all (fun c => isCode c || c.before args0 about1) = true := by decide +kernel
set_option maxRecDepth 65536 in
theorem w_t2 : (words1.drop 24).all (fun c => isCode c || c.before args0 about1) = true := by decide +kernel
theorem w_tables : (allAtoms (Jvm.Cond.code x code maxLocals ret :: tables_1)).before args0 about1 = true := by
  rw [allAtoms_all]
  show words1.all (fun c => c.before args0 about1) = true
  refine all_split ?_ w_codes
  rw [← List.take_append_drop 24 words1, List.all_append, w_t1, w_t2]
  rfl
set_option maxRecDepth 65536 in
theorem w_case : (Jvm.Cond.and given_1 narrow_1).before args0 about1 = true := by decide +kernel
theorem w_applies : (headSpec (Jvm.Cond.code x code maxLocals ret :: tables_1) room_1).applies x e0.platform about1 = true :=
  (Spec.applies_iff w_frames).mpr ⟨w_running, w_runnable, w_alone, w_named, w_hears, w_ripe, w_room, w_tables⟩
theorem atStart : AtStart classFile x code maxLocals ret World_1 tables_1 room_1 Calls_1 rest_1 Pre_1 launch0 p0 e0 about1 theMethod args0 below0 :=
  ⟨lists_1, trivial, launch0.admits_env _ _ _, launch0.least_env, fairChoices_fair.cas, fairChoices_fair.clock, w_frames, w_args, w_heap, w_applies, trivial, trivial, w_case⟩
end start1
theorem witness_1 : WitnessClaimed_1 := ⟨start1.p0, start1.e0, start1.about1, start1.theMethod, start1.args0, start1.below0, start1.atStart⟩
end Jvm.Pilot.@@N@@
