import JvmDerived
import JvmDerived.Pilot.@@N@@Statement
import JvmDerived.Pilot.@@N@@Code
set_option linter.unusedVariables false
set_option linter.unusedSimpArgs false
namespace Jvm.RoadKit
open Sem ClassFile Op Lib Jvm.Stand Jvm.Free Jvm.LawKit
section New
variable {p : Program} {l : Launch} {e : Env} {R : Room} {s : State} {m : MethodId} {args : Array Value} {below : List Frame} {meth : Method} {c : Code} {T : State} {locs : List Loc} {cells slots : Nat}
theorem retI (X : Stand p l e R s m args below meth c T locs cells slots) (hx : p.tables.exec = Jvm.exec) {pc : Nat} {Ls : Array Slot} {z : Int32} {rest : List Value} (hret : meth.sig.returnType = some .int) (hd : decode c.code pc = .ok (.ireturn, 1)) {fs : List Frame}
    (hl : ∀ (f : JFrame) (acts : List Action), f.method = m → f.locked = none → f.entered = [] → (doReturn e (T.setTop f) acts (some (.int z))).1 = T.setFrames fs) : Steps p.tables e below (T.setTop (mkF m pc Ls (.int z :: rest))) (T.setFrames fs) := by
  have hm' : T.vm.method? m = some meth := X.method'
  have hn : narrow .int (.int z) = .int z := rfl
  show Steps p.tables e below (T.setTop { method := m, pc := pc, locals := Ls, stack := _ :: rest, locked := none }) _
  jvm_step X.here [X.here.top, hx, hd, hm', hret, hn]
  first | (intro acts; rw [hl _ acts rfl rfl rfl]) | rw [hl _ _ rfl rfl rfl]
  exact Steps.refl _
end New
end Jvm.RoadKit
namespace Jvm.Pilot.@@N@@
open Jvm Jvm.ClassFile Sem Op Lib Jvm.Free Jvm.Stand Jvm.LawKit Jvm.RoadKit Bundle Jvm.Pilot.@@N@@.Jvm.D
section OwnKit
variable {p : Program} {l : Launch} {e : Env} {R : Room} {s : State} {m : MethodId} {args : Array Value} {below : List Frame} {meth : Method} {c : Code} {T : State} {locs : List Loc} {cells slots : Nat}
def own_Rch (tb : Tables) (e : Env) (below : List Frame) (S : State) (Φ : Outcome → State → Prop) : Prop := ∃ s₂ o, Steps tb e below S s₂ ∧ s₂.status = .running ∧ Ended s₂ below o ∧ Φ o s₂
theorem own_via {tb : Tables} {S S' : State} {Φ : Outcome → State → Prop} (h : ∀ t, Steps tb e below S' t → Steps tb e below S t) (k : own_Rch tb e below S' Φ) : own_Rch tb e below S Φ := by
  obtain ⟨s₂, o, k1, k2⟩ := k
  exact ⟨s₂, o, h _ k1, k2⟩
abbrev own_End (s : State) (Q : Option Value → Heap → List Loc → Prop) (k n : Nat) : Outcome → State → Prop := fun o U' => ∃ v L, o = .returned v ∧ Q v U'.heap L ∧ FrameEnd s o U' L k n
theorem own_fin (X : Stand p l e R s m args below meth c T locs cells slots) (hx : p.tables.exec = Jvm.exec) {pc : Nat} {Ls : Array Slot} {w : Value} {t : FieldType} {i : Instr} {rest : List Value} (hret : meth.sig.returnType = some t) (hlk : meth.locks = false) (hnw : narrow t w = w)
    (hi : (i = .ireturn ∧ (t = .int ∨ t = .boolean ∨ t = .byte ∨ t = .char ∨ t = .short) ∧ ∃ z, w = .int z) ∨ (i = .lreturn ∧ t = .long ∧ ∃ z, w = .long z) ∨ (i = .dreturn ∧ t = .double ∧ ∃ z, w = .double z) ∨ (i = .freturn ∧ t = .float ∧ ∃ z, w = .float z) ∨ (i = .areturn ∧ t.isReference = true ∧ w.isRef = true))
    (hd : decode c.code pc = .ok (i, 1)) {Q : Option Value → Heap → List Loc → Prop} {k n : Nat} (hk : cells ≤ k) (hn : slots ≤ n) (hQ : Q (some w) T.heap locs) : own_Rch p.tables e below (T.setTop (mkF m pc Ls (w :: rest))) (own_End s Q k n) := by
  obtain ⟨fs, hr, hrun, hended, hW, hsame⟩ := X.leave (v := some w) (fun h => by rw [hret] at h; cases h) hlk
  exact ⟨_, _, retOut X hx hret hnw hi hd hr, hrun, hended, _, _, rfl, hQ, ⟨_, rfl⟩, hW, hsame.mono hk hn⟩
theorem own_fin0 (X : Stand p l e R s m args below meth c T locs cells slots) (hx : p.tables.exec = Jvm.exec) {pc : Nat} {Ls : Array Slot} (hret : meth.sig.returnType = none) (hlk : meth.locks = false)
    (hd : decode c.code pc = .ok (.return_, 1)) {Q : Option Value → Heap → List Loc → Prop} {k n : Nat} (hk : cells ≤ k) (hn : slots ≤ n) (hQ : Q none T.heap locs) : own_Rch p.tables e below (T.setTop (mkF m pc Ls [])) (own_End s Q k n) := by
  obtain ⟨fs, hr, hrun, hended, hW, hsame⟩ := X.leave (v := none) (fun _ => rfl) hlk
  exact ⟨_, _, X.returnOut hx hret hd hr, hrun, hended, _, _, rfl, hQ, ⟨_, rfl⟩, hW, hsame.mono hk hn⟩
theorem own_lrem {g : JFrame} {target : State} (X : Stand p l e R s m args below meth c T locs cells slots) (hx : p.tables.exec = Jvm.exec) (hg : g.method = m) {x y : Int64} {rest : List Value} (hd : decode c.code g.pc = .ok (.lrem, 1)) (hs : g.stack = .long y :: .long x :: rest) (hy : y ≠ 0)
    (hr : Steps p.tables e below (T.setTop { g with pc := g.pc + 1, stack := .long (x % y) :: rest }) target) : Steps p.tables e below (T.setTop g) target := by
  have q : x - x / y * y = x % y := lrem_mod x y
  exact XS.lrem X.here hx hg hd hs hy (by rw [q]; exact hr)
end OwnKit
def own_Pure (r : Value) (h0 : Heap) (n0 : Nat) (v : Option Value) (h : Heap) (L : List Loc) : Prop := v = some r ∧ Fr n0 L ∧ h = h0
def own_min (a b : Int32) : Int32 := if b < a then b else a
def own_max (a b : Int32) : Int32 := if a < b then b else a
def own_x45 (c : Int32) : Int32 := if c < (65536 : Int32) then 0 else 1
def own_x31 (c : Int32) : Int32 := if c < (57344 : Int32) then own_x45 c else if (65533 : Int32) < c then own_x45 c else 1
def own_isXml (c : Int32) : Int32 := if c = (9 : Int32) then 1 else if c = (10 : Int32) then 1 else if c = (13 : Int32) then 1 else if c < (32 : Int32) then own_x31 c else if (55295 : Int32) < c then own_x31 c else 1
def own_e44 (c : Int32) : Int32 := if c = (65534 : Int32) then 0 else if c = (65535 : Int32) then 0 else 1
def own_exp (c : Int32) : Int32 := if c < (32 : Int32) then (if c = (9 : Int32) then 1 else if c = (10 : Int32) then 1 else if c = (13 : Int32) then 1 else 0) else if c < (55296 : Int32) then own_e44 c else if (57343 : Int32) < c then own_e44 c else 0
theorem own_same (c : Int32) (h0 : 0 ≤ c.toInt) (h1 : c.toInt ≤ 1114111) : own_isXml c = own_exp c := by
  simp only [own_isXml, own_exp, own_x31, own_x45, own_e44, Int32.lt_iff_toInt_lt, ← Int32.toInt_inj]
  have a1 : (9 : Int32).toInt = 9 := rfl
  have a2 : (10 : Int32).toInt = 10 := rfl
  have a3 : (13 : Int32).toInt = 13 := rfl
  have a4 : (32 : Int32).toInt = 32 := rfl
  have a5 : (65536 : Int32).toInt = 65536 := rfl
  have a6 : (57344 : Int32).toInt = 57344 := rfl
  have a7 : (65533 : Int32).toInt = 65533 := rfl
  have a8 : (55295 : Int32).toInt = 55295 := rfl
  have a9 : (65534 : Int32).toInt = 65534 := rfl
  have b1 : (65535 : Int32).toInt = 65535 := rfl
  have b2 : (55296 : Int32).toInt = 55296 := rfl
  have b3 : (57343 : Int32).toInt = 57343 := rfl
  rw [a1, a2, a3, a4, a5, a6, a7, a8, a9, b1, b2, b3]
  generalize c.toInt = z at *
  repeat' split
  all_goals first | rfl | (exfalso; omega)
theorem own_r1 (x : Int32) : 0 ≤ ((x &&& (2147483647 : Int32)) % (1114112 : Int32)).toInt ∧ ((x &&& (2147483647 : Int32)) % (1114112 : Int32)).toInt ≤ 1114111 := by
  have h := c_and x 2147483647 (by decide)
  have q := (c_irem (x &&& (2147483647 : Int32)) 1114112 1114112 rfl).1 h.1
  rw [q]; omega
theorem own_r2 (z : Int32) : 0 ≤ (own_max (0 : Int32) (own_min (1114111 : Int32) z)).toInt ∧ (own_max (0 : Int32) (own_min (1114111 : Int32) z)).toInt ≤ 1114111 := by
  have a1 : (1114111 : Int32).toInt = 1114111 := rfl
  have a2 : (0 : Int32).toInt = 0 := rfl
  simp only [own_max, own_min, Int32.lt_iff_toInt_lt]
  repeat' split
  all_goals omega
theorem own_ix (s : Int32) : ¬ (((s.toUInt32 >>> ((1 : Int32) &&& 31).toUInt32).toInt32) % (15 : Int32)) < 0 ∧ (((s.toUInt32 >>> ((1 : Int32) &&& 31).toUInt32).toInt32) % (15 : Int32)) < (15 : Int32) := by
  have h := c_iushr s 1 1 rfl (by decide)
  have q := (c_irem ((s.toUInt32 >>> ((1 : Int32) &&& 31).toUInt32).toInt32) 15 15 rfl).1 (by rw [h]; omega)
  have a1 : (15 : Int32).toInt = 15 := rfl
  have a2 : (0 : Int32).toInt = 0 := rfl
  simp only [Int32.lt_iff_toInt_lt, q, a1, a2]
  omega
theorem own_getI (l : List Int32) : ∀ k : Nat, (l.map Value.int).getD k (.int 0) = .int (l.getD k 0) := by
  induction l with
  | nil => intro k; rfl
  | cons a t ih => intro k; cases k with
    | zero => rfl
    | succ k => exact ih k
theorem ef_1 (m : MethodId) (x0 : Int32) (x1 : Int32) : entryFrame m #[(.int x0), (.int x1)] 2 = mkF m 0 #[.val (.int x0), .val (.int x1)] [] := by first | (simp [entryFrame, mkF, argsToLocals, Value.category]; done) | rfl
theorem d1_0 : decode jdk_29_method_69_code 0 = .ok (.iload_n 0, 1) := by decide +kernel
theorem d1_1 : decode jdk_29_method_69_code 1 = .ok (.iload_n 1, 1) := by decide +kernel
theorem d1_2 : decode jdk_29_method_69_code 2 = .ok (.if_icmp .gt 7, 3) := by decide +kernel
theorem d1_9 : decode jdk_29_method_69_code 9 = .ok (.iload_n 1, 1) := by decide +kernel
theorem d1_10 : decode jdk_29_method_69_code 10 = .ok (.ireturn, 1) := by decide +kernel
theorem d1_5 : decode jdk_29_method_69_code 5 = .ok (.iload_n 0, 1) := by decide +kernel
theorem d1_6 : decode jdk_29_method_69_code 6 = .ok (.goto 4, 3) := by decide +kernel
set_option maxRecDepth 65536 in
set_option maxHeartbeats 40000000 in
theorem rm1 (l : Launch) (Z : State) (a0 : Array Value) (hw : ∀ d ∈ tables_1, d.before a0 Z = true) (ws : List Jvm.Cond) (p1 : Int32) (p2 : Int32) (h0 : Heap) (n0 : Nat) :
    MetFree l (⟨"java/lang/Math", "min", "(II)I"⟩ : MethodName) (head1 (Jvm.Cond.code (⟨"java/lang/Math", "min", "(II)I"⟩ : MethodName) jdk_29_method_69_code 2 (some .int) :: ws) ({ frames := 0, cells := 0, slots := 0, locals := 0 } : Room)) (fun a U => a = #[(.int p1), (.int p2)] ∧ Z.Warmed39 U.vm ∧ U.heap = h0) (fun _ _ _ _ _ => True) (fun _ U o U' => ∃ v L, o = .returned v ∧ own_Pure (.int (own_min p1 p2)) h0 n0 v U'.heap L ∧ FrameEnd U o U' L ({ frames := 0, cells := 0, slots := 0, locals := 0 } : Room).cells ({ frames := 0, cells := 0, slots := 0, locals := 0 } : Room).slots) := by
  refine MetFree.of_bodySF (Jvm.Free.JP.mathPlain rfl (by decide +kernel)) hisR ?_
  intro p e s m args below meth c s₁ Bd hml0 hP hK
  obtain ⟨rfl, hZ, hh⟩ := hP
  have hx := Bd.exec
  have hby := Bd.bytes
  have hml : c.maxLocals = 2 := hml0
  have hown : s.vm.findClass "java/lang/Math" = some m.cls := findClass_of_methodNamed Bd.named
  have hnm := (name_of_methodNamed Bd.named Bd.method).1
  have X0 : Stand p l e ({ frames := 0, cells := 0, slots := 0, locals := 0 } : Room) s m #[(.int p1), (.int p2)] below meth c s₁ [] 0 0 := Stand.of_body Bd
  have e0 : s₁.heap = h0 := by rw [← hh, Bd.state]; rfl
  have N0 := Fr.nil n0
  show own_Rch p.tables e below (s₁.setTop (entryFrame m #[(.int p1), (.int p2)] 2)) (own_End s (own_Pure (.int (own_min p1 p2)) h0 n0) ({ frames := 0, cells := 0, slots := 0, locals := 0 } : Room).cells ({ frames := 0, cells := 0, slots := 0, locals := 0 } : Room).slots)
  refine own_via (fun t k => castTop (ef_1 m p1 p2) k) ?_
  show own_Rch p.tables e below (s₁.setTop (mkF m 0 #[.val (.int p1), .val (.int p2)] [])) _
  refine own_via (fun t k => XS.iloadN X0.here hx rfl (hb hby d1_0) rfl k) ?_
  show own_Rch p.tables e below (s₁.setTop (mkF m 1 #[.val (.int p1), .val (.int p2)] [(.int p1)])) _
  refine own_via (fun t k => XS.iloadN X0.here hx rfl (hb hby d1_1) rfl k) ?_
  show own_Rch p.tables e below (s₁.setTop (mkF m 2 #[.val (.int p1), .val (.int p2)] [(.int p2), (.int p1)])) _
  by_cases c2 : p2 < p1
  · refine own_via (fun t k => XS.icmpYes X0.here hx rfl (pc0 := 2) (pc' := 9) rfl (hb hby d1_2) rfl (tlt c2).2.2.1 (by decide) (by decide) k) ?_
    show own_Rch p.tables e below (s₁.setTop (mkF m 9 #[.val (.int p1), .val (.int p2)] [])) _
    refine own_via (fun t k => XS.iloadN X0.here hx rfl (hb hby d1_9) rfl k) ?_
    show own_Rch p.tables e below (s₁.setTop (mkF m 10 #[.val (.int p1), .val (.int p2)] [(.int p2)])) _
    exact own_fin X0 hx (t := .int) (i := .ireturn) Bd.returns Bd.notSynchronized rfl (Or.inl ⟨rfl, by simp, _, rfl⟩) (hb hby d1_10) (by decide) (by decide) ⟨by simp only [own_min, if_pos c2], N0, e0⟩
  · refine own_via (fun t k => XS.icmpNo X0.here hx rfl (hb hby d1_2) rfl (flt c2).2.2.1 k) ?_
    show own_Rch p.tables e below (s₁.setTop (mkF m 5 #[.val (.int p1), .val (.int p2)] [])) _
    refine own_via (fun t k => XS.iloadN X0.here hx rfl (hb hby d1_5) rfl k) ?_
    show own_Rch p.tables e below (s₁.setTop (mkF m 6 #[.val (.int p1), .val (.int p2)] [(.int p1)])) _
    refine own_via (fun t k => XS.goto X0.here hx rfl (pc0 := 6) (pc' := 10) rfl (hb hby d1_6) (by decide) (by decide) k) ?_
    show own_Rch p.tables e below (s₁.setTop (mkF m 10 #[.val (.int p1), .val (.int p2)] [(.int p1)])) _
    exact own_fin X0 hx (t := .int) (i := .ireturn) Bd.returns Bd.notSynchronized rfl (Or.inl ⟨rfl, by simp, _, rfl⟩) (hb hby d1_10) (by decide) (by decide) ⟨by simp only [own_min, if_neg c2], N0, e0⟩
theorem ef_2 (m : MethodId) (x0 : Int32) (x1 : Int32) : entryFrame m #[(.int x0), (.int x1)] 2 = mkF m 0 #[.val (.int x0), .val (.int x1)] [] := by first | (simp [entryFrame, mkF, argsToLocals, Value.category]; done) | rfl
theorem d2_0 : decode jdk_29_method_65_code 0 = .ok (.iload_n 0, 1) := by decide +kernel
theorem d2_1 : decode jdk_29_method_65_code 1 = .ok (.iload_n 1, 1) := by decide +kernel
theorem d2_2 : decode jdk_29_method_65_code 2 = .ok (.if_icmp .lt 7, 3) := by decide +kernel
theorem d2_9 : decode jdk_29_method_65_code 9 = .ok (.iload_n 1, 1) := by decide +kernel
theorem d2_10 : decode jdk_29_method_65_code 10 = .ok (.ireturn, 1) := by decide +kernel
theorem d2_5 : decode jdk_29_method_65_code 5 = .ok (.iload_n 0, 1) := by decide +kernel
theorem d2_6 : decode jdk_29_method_65_code 6 = .ok (.goto 4, 3) := by decide +kernel
set_option maxRecDepth 65536 in
set_option maxHeartbeats 40000000 in
theorem rm2 (l : Launch) (Z : State) (a0 : Array Value) (hw : ∀ d ∈ tables_1, d.before a0 Z = true) (ws : List Jvm.Cond) (p1 : Int32) (p2 : Int32) (h0 : Heap) (n0 : Nat) :
    MetFree l (⟨"java/lang/Math", "max", "(II)I"⟩ : MethodName) (head1 (Jvm.Cond.code (⟨"java/lang/Math", "max", "(II)I"⟩ : MethodName) jdk_29_method_65_code 2 (some .int) :: ws) ({ frames := 0, cells := 0, slots := 0, locals := 0 } : Room)) (fun a U => a = #[(.int p1), (.int p2)] ∧ Z.Warmed39 U.vm ∧ U.heap = h0) (fun _ _ _ _ _ => True) (fun _ U o U' => ∃ v L, o = .returned v ∧ own_Pure (.int (own_max p1 p2)) h0 n0 v U'.heap L ∧ FrameEnd U o U' L ({ frames := 0, cells := 0, slots := 0, locals := 0 } : Room).cells ({ frames := 0, cells := 0, slots := 0, locals := 0 } : Room).slots) := by
  refine MetFree.of_bodySF (Jvm.Free.JP.mathPlain rfl (by decide +kernel)) hisR ?_
  intro p e s m args below meth c s₁ Bd hml0 hP hK
  obtain ⟨rfl, hZ, hh⟩ := hP
  have hx := Bd.exec
  have hby := Bd.bytes
  have hml : c.maxLocals = 2 := hml0
  have hown : s.vm.findClass "java/lang/Math" = some m.cls := findClass_of_methodNamed Bd.named
  have hnm := (name_of_methodNamed Bd.named Bd.method).1
  have X0 : Stand p l e ({ frames := 0, cells := 0, slots := 0, locals := 0 } : Room) s m #[(.int p1), (.int p2)] below meth c s₁ [] 0 0 := Stand.of_body Bd
  have e0 : s₁.heap = h0 := by rw [← hh, Bd.state]; rfl
  have N0 := Fr.nil n0
  show own_Rch p.tables e below (s₁.setTop (entryFrame m #[(.int p1), (.int p2)] 2)) (own_End s (own_Pure (.int (own_max p1 p2)) h0 n0) ({ frames := 0, cells := 0, slots := 0, locals := 0 } : Room).cells ({ frames := 0, cells := 0, slots := 0, locals := 0 } : Room).slots)
  refine own_via (fun t k => castTop (ef_2 m p1 p2) k) ?_
  show own_Rch p.tables e below (s₁.setTop (mkF m 0 #[.val (.int p1), .val (.int p2)] [])) _
  refine own_via (fun t k => XS.iloadN X0.here hx rfl (hb hby d2_0) rfl k) ?_
  show own_Rch p.tables e below (s₁.setTop (mkF m 1 #[.val (.int p1), .val (.int p2)] [(.int p1)])) _
  refine own_via (fun t k => XS.iloadN X0.here hx rfl (hb hby d2_1) rfl k) ?_
  show own_Rch p.tables e below (s₁.setTop (mkF m 2 #[.val (.int p1), .val (.int p2)] [(.int p2), (.int p1)])) _
  by_cases c2 : p1 < p2
  · refine own_via (fun t k => XS.icmpYes X0.here hx rfl (pc0 := 2) (pc' := 9) rfl (hb hby d2_2) rfl (tlt c2).1 (by decide) (by decide) k) ?_
    show own_Rch p.tables e below (s₁.setTop (mkF m 9 #[.val (.int p1), .val (.int p2)] [])) _
    refine own_via (fun t k => XS.iloadN X0.here hx rfl (hb hby d2_9) rfl k) ?_
    show own_Rch p.tables e below (s₁.setTop (mkF m 10 #[.val (.int p1), .val (.int p2)] [(.int p2)])) _
    exact own_fin X0 hx (t := .int) (i := .ireturn) Bd.returns Bd.notSynchronized rfl (Or.inl ⟨rfl, by simp, _, rfl⟩) (hb hby d2_10) (by decide) (by decide) ⟨by simp only [own_max, if_pos c2], N0, e0⟩
  · refine own_via (fun t k => XS.icmpNo X0.here hx rfl (hb hby d2_2) rfl (flt c2).1 k) ?_
    show own_Rch p.tables e below (s₁.setTop (mkF m 5 #[.val (.int p1), .val (.int p2)] [])) _
    refine own_via (fun t k => XS.iloadN X0.here hx rfl (hb hby d2_5) rfl k) ?_
    show own_Rch p.tables e below (s₁.setTop (mkF m 6 #[.val (.int p1), .val (.int p2)] [(.int p1)])) _
    refine own_via (fun t k => XS.goto X0.here hx rfl (pc0 := 6) (pc' := 10) rfl (hb hby d2_6) (by decide) (by decide) k) ?_
    show own_Rch p.tables e below (s₁.setTop (mkF m 10 #[.val (.int p1), .val (.int p2)] [(.int p1)])) _
    exact own_fin X0 hx (t := .int) (i := .ireturn) Bd.returns Bd.notSynchronized rfl (Or.inl ⟨rfl, by simp, _, rfl⟩) (hb hby d2_10) (by decide) (by decide) ⟨by simp only [own_max, if_neg c2], N0, e0⟩
theorem ef_3 (m : MethodId) (x0 : Int32) : entryFrame m #[(.int x0)] 1 = mkF m 0 #[.val (.int x0)] [] := by first | (simp [entryFrame, mkF, argsToLocals, Value.category]; done) | rfl
theorem pn_org_rolepath_io_HierarchyWriter : plainName "org/rolepath/io/HierarchyWriter" = true := by first | (simp [plainName, overriddenIn]; done) | decide +kernel
theorem d3_0 : decode prog_34_method_16_code 0 = .ok (.iload_n 0, 1) := by decide +kernel
theorem d3_1 : decode prog_34_method_16_code 1 = .ok (.bipush 9, 2) := by decide +kernel
theorem d3_3 : decode prog_34_method_16_code 3 = .ok (.if_icmp .eq 49, 3) := by decide +kernel
theorem d3_52 : decode prog_34_method_16_code 52 = .ok (.iconst 1, 1) := by decide +kernel
theorem d3_53 : decode prog_34_method_16_code 53 = .ok (.goto 4, 3) := by decide +kernel
theorem d3_57 : decode prog_34_method_16_code 57 = .ok (.ireturn, 1) := by decide +kernel
theorem d3_6 : decode prog_34_method_16_code 6 = .ok (.iload_n 0, 1) := by decide +kernel
theorem d3_7 : decode prog_34_method_16_code 7 = .ok (.bipush 10, 2) := by decide +kernel
theorem d3_9 : decode prog_34_method_16_code 9 = .ok (.if_icmp .eq 43, 3) := by decide +kernel
theorem d3_12 : decode prog_34_method_16_code 12 = .ok (.iload_n 0, 1) := by decide +kernel
theorem d3_13 : decode prog_34_method_16_code 13 = .ok (.bipush 13, 2) := by decide +kernel
theorem d3_15 : decode prog_34_method_16_code 15 = .ok (.if_icmp .eq 37, 3) := by decide +kernel
theorem d3_18 : decode prog_34_method_16_code 18 = .ok (.iload_n 0, 1) := by decide +kernel
theorem d3_19 : decode prog_34_method_16_code 19 = .ok (.bipush 32, 2) := by decide +kernel
theorem d3_21 : decode prog_34_method_16_code 21 = .ok (.if_icmp .lt 10, 3) := by decide +kernel
theorem d3_31 : decode prog_34_method_16_code 31 = .ok (.iload_n 0, 1) := by decide +kernel
theorem d3_32 : decode prog_34_method_16_code 32 = .ok (.ldc_w 457, 3) := by decide +kernel
theorem d3_35 : decode prog_34_method_16_code 35 = .ok (.if_icmp .lt 10, 3) := by decide +kernel
theorem d3_45 : decode prog_34_method_16_code 45 = .ok (.iload_n 0, 1) := by decide +kernel
theorem d3_46 : decode prog_34_method_16_code 46 = .ok (.ldc_w 459, 3) := by decide +kernel
theorem d3_49 : decode prog_34_method_16_code 49 = .ok (.if_icmp .lt 7, 3) := by decide +kernel
theorem d3_56 : decode prog_34_method_16_code 56 = .ok (.iconst 0, 1) := by decide +kernel
theorem d3_24 : decode prog_34_method_16_code 24 = .ok (.iload_n 0, 1) := by decide +kernel
theorem d3_25 : decode prog_34_method_16_code 25 = .ok (.ldc_w 456, 3) := by decide +kernel
theorem d3_28 : decode prog_34_method_16_code 28 = .ok (.if_icmp .le 24, 3) := by decide +kernel
theorem d3_38 : decode prog_34_method_16_code 38 = .ok (.iload_n 0, 1) := by decide +kernel
theorem d3_39 : decode prog_34_method_16_code 39 = .ok (.ldc_w 458, 3) := by decide +kernel
theorem d3_42 : decode prog_34_method_16_code 42 = .ok (.if_icmp .le 10, 3) := by decide +kernel
set_option maxRecDepth 65536 in
set_option maxHeartbeats 40000000 in
theorem rm3 (l : Launch) (Z : State) (a0 : Array Value) (hw : ∀ d ∈ tables_1, d.before a0 Z = true) (ws : List Jvm.Cond) (p1 : Int32) (h0 : Heap) (n0 : Nat) :
    MetFree l (⟨"org/rolepath/io/HierarchyWriter", "isXmlChar", "(I)Z"⟩ : MethodName) (head1 (Jvm.Cond.code (⟨"org/rolepath/io/HierarchyWriter", "isXmlChar", "(I)Z"⟩ : MethodName) prog_34_method_16_code 1 (some .boolean) :: ws) ({ frames := 0, cells := 0, slots := 0, locals := 0 } : Room)) (fun a U => a = #[(.int p1)] ∧ Z.Warmed39 U.vm ∧ U.heap = h0) (fun _ _ _ _ _ => True) (fun _ U o U' => ∃ v L, o = .returned v ∧ own_Pure (.int (own_isXml p1)) h0 n0 v U'.heap L ∧ FrameEnd U o U' L ({ frames := 0, cells := 0, slots := 0, locals := 0 } : Room).cells ({ frames := 0, cells := 0, slots := 0, locals := 0 } : Room).slots) := by
  refine MetFree.of_bodySF (plainFor_of_name pn_org_rolepath_io_HierarchyWriter) hisR ?_
  intro p e s m args below meth c s₁ Bd hml0 hP hK
  obtain ⟨rfl, hZ, hh⟩ := hP
  have hx := Bd.exec
  have hby := Bd.bytes
  have hml : c.maxLocals = 1 := hml0
  have hown : s.vm.findClass "org/rolepath/io/HierarchyWriter" = some m.cls := findClass_of_methodNamed Bd.named
  have hnm := (name_of_methodNamed Bd.named Bd.method).1
  have X0 : Stand p l e ({ frames := 0, cells := 0, slots := 0, locals := 0 } : Room) s m #[(.int p1)] below meth c s₁ [] 0 0 := Stand.of_body Bd
  have e0 : s₁.heap = h0 := by rw [← hh, Bd.state]; rfl
  have N0 := Fr.nil n0
  show own_Rch p.tables e below (s₁.setTop (entryFrame m #[(.int p1)] 1)) (own_End s (own_Pure (.int (own_isXml p1)) h0 n0) ({ frames := 0, cells := 0, slots := 0, locals := 0 } : Room).cells ({ frames := 0, cells := 0, slots := 0, locals := 0 } : Room).slots)
  refine own_via (fun t k => castTop (ef_3 m p1) k) ?_
  show own_Rch p.tables e below (s₁.setTop (mkF m 0 #[.val (.int p1)] [])) _
  refine own_via (fun t k => XS.iloadN X0.here hx rfl (hb hby d3_0) rfl k) ?_
  show own_Rch p.tables e below (s₁.setTop (mkF m 1 #[.val (.int p1)] [(.int p1)])) _
  refine own_via (fun t k => XS.bipush X0.here hx rfl (hb hby d3_1) k) ?_
  show own_Rch p.tables e below (s₁.setTop (mkF m 3 #[.val (.int p1)] [(.int (9 : Int32)), (.int p1)])) _
  by_cases c3 : p1 = (9 : Int32)
  · refine own_via (fun t k => XS.icmpYes X0.here hx rfl (pc0 := 3) (pc' := 52) rfl (hb hby d3_3) rfl (teq c3).1 (by decide) (by decide) k) ?_
    show own_Rch p.tables e below (s₁.setTop (mkF m 52 #[.val (.int p1)] [])) _
    refine own_via (fun t k => XS.iconst X0.here hx rfl (hb hby d3_52) k) ?_
    show own_Rch p.tables e below (s₁.setTop (mkF m 53 #[.val (.int p1)] [(.int (1 : Int32))])) _
    refine own_via (fun t k => XS.goto X0.here hx rfl (pc0 := 53) (pc' := 57) rfl (hb hby d3_53) (by decide) (by decide) k) ?_
    show own_Rch p.tables e below (s₁.setTop (mkF m 57 #[.val (.int p1)] [(.int (1 : Int32))])) _
    exact own_fin X0 hx (t := .boolean) (i := .ireturn) Bd.returns Bd.notSynchronized rfl (Or.inl ⟨rfl, by simp, _, rfl⟩) (hb hby d3_57) (by decide) (by decide) ⟨by simp only [own_isXml, own_x31, own_x45, if_pos c3], N0, e0⟩
  · refine own_via (fun t k => XS.icmpNo X0.here hx rfl (hb hby d3_3) rfl (feq c3).1 k) ?_
    show own_Rch p.tables e below (s₁.setTop (mkF m 6 #[.val (.int p1)] [])) _
    refine own_via (fun t k => XS.iloadN X0.here hx rfl (hb hby d3_6) rfl k) ?_
    show own_Rch p.tables e below (s₁.setTop (mkF m 7 #[.val (.int p1)] [(.int p1)])) _
    refine own_via (fun t k => XS.bipush X0.here hx rfl (hb hby d3_7) k) ?_
    show own_Rch p.tables e below (s₁.setTop (mkF m 9 #[.val (.int p1)] [(.int (10 : Int32)), (.int p1)])) _
    by_cases c9 : p1 = (10 : Int32)
    · refine own_via (fun t k => XS.icmpYes X0.here hx rfl (pc0 := 9) (pc' := 52) rfl (hb hby d3_9) rfl (teq c9).1 (by decide) (by decide) k) ?_
      show own_Rch p.tables e below (s₁.setTop (mkF m 52 #[.val (.int p1)] [])) _
      refine own_via (fun t k => XS.iconst X0.here hx rfl (hb hby d3_52) k) ?_
      show own_Rch p.tables e below (s₁.setTop (mkF m 53 #[.val (.int p1)] [(.int (1 : Int32))])) _
      refine own_via (fun t k => XS.goto X0.here hx rfl (pc0 := 53) (pc' := 57) rfl (hb hby d3_53) (by decide) (by decide) k) ?_
      show own_Rch p.tables e below (s₁.setTop (mkF m 57 #[.val (.int p1)] [(.int (1 : Int32))])) _
      exact own_fin X0 hx (t := .boolean) (i := .ireturn) Bd.returns Bd.notSynchronized rfl (Or.inl ⟨rfl, by simp, _, rfl⟩) (hb hby d3_57) (by decide) (by decide) ⟨by simp only [own_isXml, own_x31, own_x45, if_neg c3, if_pos c9], N0, e0⟩
    · refine own_via (fun t k => XS.icmpNo X0.here hx rfl (hb hby d3_9) rfl (feq c9).1 k) ?_
      show own_Rch p.tables e below (s₁.setTop (mkF m 12 #[.val (.int p1)] [])) _
      refine own_via (fun t k => XS.iloadN X0.here hx rfl (hb hby d3_12) rfl k) ?_
      show own_Rch p.tables e below (s₁.setTop (mkF m 13 #[.val (.int p1)] [(.int p1)])) _
      refine own_via (fun t k => XS.bipush X0.here hx rfl (hb hby d3_13) k) ?_
      show own_Rch p.tables e below (s₁.setTop (mkF m 15 #[.val (.int p1)] [(.int (13 : Int32)), (.int p1)])) _
      by_cases c15 : p1 = (13 : Int32)
      · refine own_via (fun t k => XS.icmpYes X0.here hx rfl (pc0 := 15) (pc' := 52) rfl (hb hby d3_15) rfl (teq c15).1 (by decide) (by decide) k) ?_
        show own_Rch p.tables e below (s₁.setTop (mkF m 52 #[.val (.int p1)] [])) _
        refine own_via (fun t k => XS.iconst X0.here hx rfl (hb hby d3_52) k) ?_
        show own_Rch p.tables e below (s₁.setTop (mkF m 53 #[.val (.int p1)] [(.int (1 : Int32))])) _
        refine own_via (fun t k => XS.goto X0.here hx rfl (pc0 := 53) (pc' := 57) rfl (hb hby d3_53) (by decide) (by decide) k) ?_
        show own_Rch p.tables e below (s₁.setTop (mkF m 57 #[.val (.int p1)] [(.int (1 : Int32))])) _
        exact own_fin X0 hx (t := .boolean) (i := .ireturn) Bd.returns Bd.notSynchronized rfl (Or.inl ⟨rfl, by simp, _, rfl⟩) (hb hby d3_57) (by decide) (by decide) ⟨by simp only [own_isXml, own_x31, own_x45, if_neg c3, if_neg c9, if_pos c15], N0, e0⟩
      · refine own_via (fun t k => XS.icmpNo X0.here hx rfl (hb hby d3_15) rfl (feq c15).1 k) ?_
        show own_Rch p.tables e below (s₁.setTop (mkF m 18 #[.val (.int p1)] [])) _
        refine own_via (fun t k => XS.iloadN X0.here hx rfl (hb hby d3_18) rfl k) ?_
        show own_Rch p.tables e below (s₁.setTop (mkF m 19 #[.val (.int p1)] [(.int p1)])) _
        refine own_via (fun t k => XS.bipush X0.here hx rfl (hb hby d3_19) k) ?_
        show own_Rch p.tables e below (s₁.setTop (mkF m 21 #[.val (.int p1)] [(.int (32 : Int32)), (.int p1)])) _
        by_cases c21 : p1 < (32 : Int32)
        · refine own_via (fun t k => XS.icmpYes X0.here hx rfl (pc0 := 21) (pc' := 31) rfl (hb hby d3_21) rfl (tlt c21).1 (by decide) (by decide) k) ?_
          show own_Rch p.tables e below (s₁.setTop (mkF m 31 #[.val (.int p1)] [])) _
          refine own_via (fun t k => XS.iloadN X0.here hx rfl (hb hby d3_31) rfl k) ?_
          show own_Rch p.tables e below (s₁.setTop (mkF m 32 #[.val (.int p1)] [(.int p1)])) _
          refine own_via (X0.ldcwInt hx hown (mvT hZ (hw _ (List.mem_of_getElem? (i := 21) rfl))) (g := (mkF m 32 #[.val (.int p1)] [(.int p1)])) rfl (hb hby d3_32)) ?_
          show own_Rch p.tables e below (s₁.setTop (mkF m 35 #[.val (.int p1)] [(.int (57344 : Int32)), (.int p1)])) _
          have c35 : p1 < (57344 : Int32) := (Int32.lt_iff_toInt_lt.mpr (by have z0_ : ¬ p1.toInt = 9 := fun q => c3 (Int32.toInt_inj.mp q); have z1_ : ¬ p1.toInt = 10 := fun q => c9 (Int32.toInt_inj.mp q); have z2_ : ¬ p1.toInt = 13 := fun q => c15 (Int32.toInt_inj.mp q); have z3_ : p1.toInt < 32 := Int32.lt_iff_toInt_lt.mp c21; exact (by omega : p1.toInt < 57344)))
          refine own_via (fun t k => XS.icmpYes X0.here hx rfl (pc0 := 35) (pc' := 45) rfl (hb hby d3_35) rfl (tlt c35).1 (by decide) (by decide) k) ?_
          show own_Rch p.tables e below (s₁.setTop (mkF m 45 #[.val (.int p1)] [])) _
          refine own_via (fun t k => XS.iloadN X0.here hx rfl (hb hby d3_45) rfl k) ?_
          show own_Rch p.tables e below (s₁.setTop (mkF m 46 #[.val (.int p1)] [(.int p1)])) _
          refine own_via (X0.ldcwInt hx hown (mvT hZ (hw _ (List.mem_of_getElem? (i := 22) rfl))) (g := (mkF m 46 #[.val (.int p1)] [(.int p1)])) rfl (hb hby d3_46)) ?_
          show own_Rch p.tables e below (s₁.setTop (mkF m 49 #[.val (.int p1)] [(.int (65536 : Int32)), (.int p1)])) _
          have c49 : p1 < (65536 : Int32) := (Int32.lt_iff_toInt_lt.mpr (by have z0_ : ¬ p1.toInt = 9 := fun q => c3 (Int32.toInt_inj.mp q); have z1_ : ¬ p1.toInt = 10 := fun q => c9 (Int32.toInt_inj.mp q); have z2_ : ¬ p1.toInt = 13 := fun q => c15 (Int32.toInt_inj.mp q); have z3_ : p1.toInt < 32 := Int32.lt_iff_toInt_lt.mp c21; have z4_ : p1.toInt < 57344 := Int32.lt_iff_toInt_lt.mp c35; exact (by omega : p1.toInt < 65536)))
          refine own_via (fun t k => XS.icmpYes X0.here hx rfl (pc0 := 49) (pc' := 56) rfl (hb hby d3_49) rfl (tlt c49).1 (by decide) (by decide) k) ?_
          show own_Rch p.tables e below (s₁.setTop (mkF m 56 #[.val (.int p1)] [])) _
          refine own_via (fun t k => XS.iconst X0.here hx rfl (hb hby d3_56) k) ?_
          show own_Rch p.tables e below (s₁.setTop (mkF m 57 #[.val (.int p1)] [(.int (0 : Int32))])) _
          exact own_fin X0 hx (t := .boolean) (i := .ireturn) Bd.returns Bd.notSynchronized rfl (Or.inl ⟨rfl, by simp, _, rfl⟩) (hb hby d3_57) (by decide) (by decide) ⟨by simp only [own_isXml, own_x31, own_x45, if_neg c3, if_neg c9, if_neg c15, if_pos c21, if_pos c35, if_pos c49], N0, e0⟩
        · refine own_via (fun t k => XS.icmpNo X0.here hx rfl (hb hby d3_21) rfl (flt c21).1 k) ?_
          show own_Rch p.tables e below (s₁.setTop (mkF m 24 #[.val (.int p1)] [])) _
          refine own_via (fun t k => XS.iloadN X0.here hx rfl (hb hby d3_24) rfl k) ?_
          show own_Rch p.tables e below (s₁.setTop (mkF m 25 #[.val (.int p1)] [(.int p1)])) _
          refine own_via (X0.ldcwInt hx hown (mvT hZ (hw _ (List.mem_of_getElem? (i := 27) rfl))) (g := (mkF m 25 #[.val (.int p1)] [(.int p1)])) rfl (hb hby d3_25)) ?_
          show own_Rch p.tables e below (s₁.setTop (mkF m 28 #[.val (.int p1)] [(.int (55295 : Int32)), (.int p1)])) _
          by_cases c28 : (55295 : Int32) < p1
          · refine own_via (fun t k => XS.icmpNo X0.here hx rfl (hb hby d3_28) rfl (tlt c28).2.2.2 k) ?_
            show own_Rch p.tables e below (s₁.setTop (mkF m 31 #[.val (.int p1)] [])) _
            refine own_via (fun t k => XS.iloadN X0.here hx rfl (hb hby d3_31) rfl k) ?_
            show own_Rch p.tables e below (s₁.setTop (mkF m 32 #[.val (.int p1)] [(.int p1)])) _
            refine own_via (X0.ldcwInt hx hown (mvT hZ (hw _ (List.mem_of_getElem? (i := 21) rfl))) (g := (mkF m 32 #[.val (.int p1)] [(.int p1)])) rfl (hb hby d3_32)) ?_
            show own_Rch p.tables e below (s₁.setTop (mkF m 35 #[.val (.int p1)] [(.int (57344 : Int32)), (.int p1)])) _
            by_cases c35 : p1 < (57344 : Int32)
            · refine own_via (fun t k => XS.icmpYes X0.here hx rfl (pc0 := 35) (pc' := 45) rfl (hb hby d3_35) rfl (tlt c35).1 (by decide) (by decide) k) ?_
              show own_Rch p.tables e below (s₁.setTop (mkF m 45 #[.val (.int p1)] [])) _
              refine own_via (fun t k => XS.iloadN X0.here hx rfl (hb hby d3_45) rfl k) ?_
              show own_Rch p.tables e below (s₁.setTop (mkF m 46 #[.val (.int p1)] [(.int p1)])) _
              refine own_via (X0.ldcwInt hx hown (mvT hZ (hw _ (List.mem_of_getElem? (i := 22) rfl))) (g := (mkF m 46 #[.val (.int p1)] [(.int p1)])) rfl (hb hby d3_46)) ?_
              show own_Rch p.tables e below (s₁.setTop (mkF m 49 #[.val (.int p1)] [(.int (65536 : Int32)), (.int p1)])) _
              have c49 : p1 < (65536 : Int32) := (Int32.lt_iff_toInt_lt.mpr (by have z0_ : ¬ p1.toInt = 9 := fun q => c3 (Int32.toInt_inj.mp q); have z1_ : ¬ p1.toInt = 10 := fun q => c9 (Int32.toInt_inj.mp q); have z2_ : ¬ p1.toInt = 13 := fun q => c15 (Int32.toInt_inj.mp q); have z3_ : ¬ p1.toInt < 32 := fun q => c21 (Int32.lt_iff_toInt_lt.mpr q); have z4_ : 55295 < p1.toInt := Int32.lt_iff_toInt_lt.mp c28; have z5_ : p1.toInt < 57344 := Int32.lt_iff_toInt_lt.mp c35; exact (by omega : p1.toInt < 65536)))
              refine own_via (fun t k => XS.icmpYes X0.here hx rfl (pc0 := 49) (pc' := 56) rfl (hb hby d3_49) rfl (tlt c49).1 (by decide) (by decide) k) ?_
              show own_Rch p.tables e below (s₁.setTop (mkF m 56 #[.val (.int p1)] [])) _
              refine own_via (fun t k => XS.iconst X0.here hx rfl (hb hby d3_56) k) ?_
              show own_Rch p.tables e below (s₁.setTop (mkF m 57 #[.val (.int p1)] [(.int (0 : Int32))])) _
              exact own_fin X0 hx (t := .boolean) (i := .ireturn) Bd.returns Bd.notSynchronized rfl (Or.inl ⟨rfl, by simp, _, rfl⟩) (hb hby d3_57) (by decide) (by decide) ⟨by simp only [own_isXml, own_x31, own_x45, if_neg c3, if_neg c9, if_neg c15, if_neg c21, if_pos c28, if_pos c35, if_pos c49], N0, e0⟩
            · refine own_via (fun t k => XS.icmpNo X0.here hx rfl (hb hby d3_35) rfl (flt c35).1 k) ?_
              show own_Rch p.tables e below (s₁.setTop (mkF m 38 #[.val (.int p1)] [])) _
              refine own_via (fun t k => XS.iloadN X0.here hx rfl (hb hby d3_38) rfl k) ?_
              show own_Rch p.tables e below (s₁.setTop (mkF m 39 #[.val (.int p1)] [(.int p1)])) _
              refine own_via (X0.ldcwInt hx hown (mvT hZ (hw _ (List.mem_of_getElem? (i := 30) rfl))) (g := (mkF m 39 #[.val (.int p1)] [(.int p1)])) rfl (hb hby d3_39)) ?_
              show own_Rch p.tables e below (s₁.setTop (mkF m 42 #[.val (.int p1)] [(.int (65533 : Int32)), (.int p1)])) _
              by_cases c42 : (65533 : Int32) < p1
              · refine own_via (fun t k => XS.icmpNo X0.here hx rfl (hb hby d3_42) rfl (tlt c42).2.2.2 k) ?_
                show own_Rch p.tables e below (s₁.setTop (mkF m 45 #[.val (.int p1)] [])) _
                refine own_via (fun t k => XS.iloadN X0.here hx rfl (hb hby d3_45) rfl k) ?_
                show own_Rch p.tables e below (s₁.setTop (mkF m 46 #[.val (.int p1)] [(.int p1)])) _
                refine own_via (X0.ldcwInt hx hown (mvT hZ (hw _ (List.mem_of_getElem? (i := 22) rfl))) (g := (mkF m 46 #[.val (.int p1)] [(.int p1)])) rfl (hb hby d3_46)) ?_
                show own_Rch p.tables e below (s₁.setTop (mkF m 49 #[.val (.int p1)] [(.int (65536 : Int32)), (.int p1)])) _
                by_cases c49 : p1 < (65536 : Int32)
                · refine own_via (fun t k => XS.icmpYes X0.here hx rfl (pc0 := 49) (pc' := 56) rfl (hb hby d3_49) rfl (tlt c49).1 (by decide) (by decide) k) ?_
                  show own_Rch p.tables e below (s₁.setTop (mkF m 56 #[.val (.int p1)] [])) _
                  refine own_via (fun t k => XS.iconst X0.here hx rfl (hb hby d3_56) k) ?_
                  show own_Rch p.tables e below (s₁.setTop (mkF m 57 #[.val (.int p1)] [(.int (0 : Int32))])) _
                  exact own_fin X0 hx (t := .boolean) (i := .ireturn) Bd.returns Bd.notSynchronized rfl (Or.inl ⟨rfl, by simp, _, rfl⟩) (hb hby d3_57) (by decide) (by decide) ⟨by simp only [own_isXml, own_x31, own_x45, if_neg c3, if_neg c9, if_neg c15, if_neg c21, if_pos c28, if_neg c35, if_pos c42, if_pos c49], N0, e0⟩
                · refine own_via (fun t k => XS.icmpNo X0.here hx rfl (hb hby d3_49) rfl (flt c49).1 k) ?_
                  show own_Rch p.tables e below (s₁.setTop (mkF m 52 #[.val (.int p1)] [])) _
                  refine own_via (fun t k => XS.iconst X0.here hx rfl (hb hby d3_52) k) ?_
                  show own_Rch p.tables e below (s₁.setTop (mkF m 53 #[.val (.int p1)] [(.int (1 : Int32))])) _
                  refine own_via (fun t k => XS.goto X0.here hx rfl (pc0 := 53) (pc' := 57) rfl (hb hby d3_53) (by decide) (by decide) k) ?_
                  show own_Rch p.tables e below (s₁.setTop (mkF m 57 #[.val (.int p1)] [(.int (1 : Int32))])) _
                  exact own_fin X0 hx (t := .boolean) (i := .ireturn) Bd.returns Bd.notSynchronized rfl (Or.inl ⟨rfl, by simp, _, rfl⟩) (hb hby d3_57) (by decide) (by decide) ⟨by simp only [own_isXml, own_x31, own_x45, if_neg c3, if_neg c9, if_neg c15, if_neg c21, if_pos c28, if_neg c35, if_pos c42, if_neg c49], N0, e0⟩
              · refine own_via (fun t k => XS.icmpYes X0.here hx rfl (pc0 := 42) (pc' := 52) rfl (hb hby d3_42) rfl (flt c42).2.2.2 (by decide) (by decide) k) ?_
                show own_Rch p.tables e below (s₁.setTop (mkF m 52 #[.val (.int p1)] [])) _
                refine own_via (fun t k => XS.iconst X0.here hx rfl (hb hby d3_52) k) ?_
                show own_Rch p.tables e below (s₁.setTop (mkF m 53 #[.val (.int p1)] [(.int (1 : Int32))])) _
                refine own_via (fun t k => XS.goto X0.here hx rfl (pc0 := 53) (pc' := 57) rfl (hb hby d3_53) (by decide) (by decide) k) ?_
                show own_Rch p.tables e below (s₁.setTop (mkF m 57 #[.val (.int p1)] [(.int (1 : Int32))])) _
                exact own_fin X0 hx (t := .boolean) (i := .ireturn) Bd.returns Bd.notSynchronized rfl (Or.inl ⟨rfl, by simp, _, rfl⟩) (hb hby d3_57) (by decide) (by decide) ⟨by simp only [own_isXml, own_x31, own_x45, if_neg c3, if_neg c9, if_neg c15, if_neg c21, if_pos c28, if_neg c35, if_neg c42], N0, e0⟩
          · refine own_via (fun t k => XS.icmpYes X0.here hx rfl (pc0 := 28) (pc' := 52) rfl (hb hby d3_28) rfl (flt c28).2.2.2 (by decide) (by decide) k) ?_
            show own_Rch p.tables e below (s₁.setTop (mkF m 52 #[.val (.int p1)] [])) _
            refine own_via (fun t k => XS.iconst X0.here hx rfl (hb hby d3_52) k) ?_
            show own_Rch p.tables e below (s₁.setTop (mkF m 53 #[.val (.int p1)] [(.int (1 : Int32))])) _
            refine own_via (fun t k => XS.goto X0.here hx rfl (pc0 := 53) (pc' := 57) rfl (hb hby d3_53) (by decide) (by decide) k) ?_
            show own_Rch p.tables e below (s₁.setTop (mkF m 57 #[.val (.int p1)] [(.int (1 : Int32))])) _
            exact own_fin X0 hx (t := .boolean) (i := .ireturn) Bd.returns Bd.notSynchronized rfl (Or.inl ⟨rfl, by simp, _, rfl⟩) (hb hby d3_57) (by decide) (by decide) ⟨by simp only [own_isXml, own_x31, own_x45, if_neg c3, if_neg c9, if_neg c15, if_neg c21, if_neg c28], N0, e0⟩
theorem ef_4 (m : MethodId) (x0 : Int32) : entryFrame m #[(.int x0)] 1 = mkF m 0 #[.val (.int x0)] [] := by first | (simp [entryFrame, mkF, argsToLocals, Value.category]; done) | rfl
theorem pn_org_rolepath_io_HierarchyWriterIsXmlCharPinLaw : plainName "org/rolepath/io/HierarchyWriterIsXmlCharPinLaw" = true := by first | (simp [plainName, overriddenIn]; done) | decide +kernel
theorem d4_0 : decode method_3_code 0 = .ok (.iload_n 0, 1) := by decide +kernel
theorem d4_1 : decode method_3_code 1 = .ok (.bipush 32, 2) := by decide +kernel
theorem d4_3 : decode method_3_code 3 = .ok (.if_icmp .ge 27, 3) := by decide +kernel
theorem d4_6 : decode method_3_code 6 = .ok (.iload_n 0, 1) := by decide +kernel
theorem d4_7 : decode method_3_code 7 = .ok (.bipush 9, 2) := by decide +kernel
theorem d4_9 : decode method_3_code 9 = .ok (.if_icmp .eq 15, 3) := by decide +kernel
theorem d4_24 : decode method_3_code 24 = .ok (.iconst 1, 1) := by decide +kernel
theorem d4_25 : decode method_3_code 25 = .ok (.goto 4, 3) := by decide +kernel
theorem d4_29 : decode method_3_code 29 = .ok (.ireturn, 1) := by decide +kernel
theorem d4_12 : decode method_3_code 12 = .ok (.iload_n 0, 1) := by decide +kernel
theorem d4_13 : decode method_3_code 13 = .ok (.bipush 10, 2) := by decide +kernel
theorem d4_15 : decode method_3_code 15 = .ok (.if_icmp .eq 9, 3) := by decide +kernel
theorem d4_18 : decode method_3_code 18 = .ok (.iload_n 0, 1) := by decide +kernel
theorem d4_19 : decode method_3_code 19 = .ok (.bipush 13, 2) := by decide +kernel
theorem d4_21 : decode method_3_code 21 = .ok (.if_icmp .ne 7, 3) := by decide +kernel
theorem d4_28 : decode method_3_code 28 = .ok (.iconst 0, 1) := by decide +kernel
theorem d4_30 : decode method_3_code 30 = .ok (.iload_n 0, 1) := by decide +kernel
theorem d4_31 : decode method_3_code 31 = .ok (.ldc 10, 2) := by decide +kernel
theorem d4_33 : decode method_3_code 33 = .ok (.if_icmp .lt 11, 3) := by decide +kernel
theorem d4_44 : decode method_3_code 44 = .ok (.iload_n 0, 1) := by decide +kernel
theorem d4_45 : decode method_3_code 45 = .ok (.ldc 14, 2) := by decide +kernel
theorem d4_47 : decode method_3_code 47 = .ok (.if_icmp .eq 9, 3) := by decide +kernel
theorem d4_50 : decode method_3_code 50 = .ok (.iload_n 0, 1) := by decide +kernel
theorem d4_51 : decode method_3_code 51 = .ok (.ldc 15, 2) := by decide +kernel
theorem d4_53 : decode method_3_code 53 = .ok (.if_icmp .ne 5, 3) := by decide +kernel
theorem d4_58 : decode method_3_code 58 = .ok (.iconst 1, 1) := by decide +kernel
theorem d4_59 : decode method_3_code 59 = .ok (.ireturn, 1) := by decide +kernel
theorem d4_36 : decode method_3_code 36 = .ok (.iload_n 0, 1) := by decide +kernel
theorem d4_37 : decode method_3_code 37 = .ok (.ldc 11, 2) := by decide +kernel
theorem d4_39 : decode method_3_code 39 = .ok (.if_icmp .gt 5, 3) := by decide +kernel
theorem d4_56 : decode method_3_code 56 = .ok (.iconst 0, 1) := by decide +kernel
theorem d4_57 : decode method_3_code 57 = .ok (.ireturn, 1) := by decide +kernel
theorem d4_42 : decode method_3_code 42 = .ok (.iconst 0, 1) := by decide +kernel
theorem d4_43 : decode method_3_code 43 = .ok (.ireturn, 1) := by decide +kernel
set_option maxRecDepth 65536 in
set_option maxHeartbeats 40000000 in
theorem rm4 (l : Launch) (Z : State) (a0 : Array Value) (hw : ∀ d ∈ tables_1, d.before a0 Z = true) (ws : List Jvm.Cond) (p1 : Int32) (h0 : Heap) (n0 : Nat) :
    MetFree l (⟨"org/rolepath/io/HierarchyWriterIsXmlCharPinLaw", "expected", "(I)Z"⟩ : MethodName) (head1 (Jvm.Cond.code (⟨"org/rolepath/io/HierarchyWriterIsXmlCharPinLaw", "expected", "(I)Z"⟩ : MethodName) method_3_code 1 (some .boolean) :: ws) ({ frames := 0, cells := 0, slots := 0, locals := 0 } : Room)) (fun a U => a = #[(.int p1)] ∧ Z.Warmed39 U.vm ∧ U.heap = h0) (fun _ _ _ _ _ => True) (fun _ U o U' => ∃ v L, o = .returned v ∧ own_Pure (.int (own_exp p1)) h0 n0 v U'.heap L ∧ FrameEnd U o U' L ({ frames := 0, cells := 0, slots := 0, locals := 0 } : Room).cells ({ frames := 0, cells := 0, slots := 0, locals := 0 } : Room).slots) := by
  refine MetFree.of_bodySF (plainFor_of_name pn_org_rolepath_io_HierarchyWriterIsXmlCharPinLaw) hisR ?_
  intro p e s m args below meth c s₁ Bd hml0 hP hK
  obtain ⟨rfl, hZ, hh⟩ := hP
  have hx := Bd.exec
  have hby := Bd.bytes
  have hml : c.maxLocals = 1 := hml0
  have hown : s.vm.findClass "org/rolepath/io/HierarchyWriterIsXmlCharPinLaw" = some m.cls := findClass_of_methodNamed Bd.named
  have hnm := (name_of_methodNamed Bd.named Bd.method).1
  have X0 : Stand p l e ({ frames := 0, cells := 0, slots := 0, locals := 0 } : Room) s m #[(.int p1)] below meth c s₁ [] 0 0 := Stand.of_body Bd
  have e0 : s₁.heap = h0 := by rw [← hh, Bd.state]; rfl
  have N0 := Fr.nil n0
  show own_Rch p.tables e below (s₁.setTop (entryFrame m #[(.int p1)] 1)) (own_End s (own_Pure (.int (own_exp p1)) h0 n0) ({ frames := 0, cells := 0, slots := 0, locals := 0 } : Room).cells ({ frames := 0, cells := 0, slots := 0, locals := 0 } : Room).slots)
  refine own_via (fun t k => castTop (ef_4 m p1) k) ?_
  show own_Rch p.tables e below (s₁.setTop (mkF m 0 #[.val (.int p1)] [])) _
  refine own_via (fun t k => XS.iloadN X0.here hx rfl (hb hby d4_0) rfl k) ?_
  show own_Rch p.tables e below (s₁.setTop (mkF m 1 #[.val (.int p1)] [(.int p1)])) _
  refine own_via (fun t k => XS.bipush X0.here hx rfl (hb hby d4_1) k) ?_
  show own_Rch p.tables e below (s₁.setTop (mkF m 3 #[.val (.int p1)] [(.int (32 : Int32)), (.int p1)])) _
  by_cases c3 : p1 < (32 : Int32)
  · refine own_via (fun t k => XS.icmpNo X0.here hx rfl (hb hby d4_3) rfl (tlt c3).2.1 k) ?_
    show own_Rch p.tables e below (s₁.setTop (mkF m 6 #[.val (.int p1)] [])) _
    refine own_via (fun t k => XS.iloadN X0.here hx rfl (hb hby d4_6) rfl k) ?_
    show own_Rch p.tables e below (s₁.setTop (mkF m 7 #[.val (.int p1)] [(.int p1)])) _
    refine own_via (fun t k => XS.bipush X0.here hx rfl (hb hby d4_7) k) ?_
    show own_Rch p.tables e below (s₁.setTop (mkF m 9 #[.val (.int p1)] [(.int (9 : Int32)), (.int p1)])) _
    by_cases c9 : p1 = (9 : Int32)
    · refine own_via (fun t k => XS.icmpYes X0.here hx rfl (pc0 := 9) (pc' := 24) rfl (hb hby d4_9) rfl (teq c9).1 (by decide) (by decide) k) ?_
      show own_Rch p.tables e below (s₁.setTop (mkF m 24 #[.val (.int p1)] [])) _
      refine own_via (fun t k => XS.iconst X0.here hx rfl (hb hby d4_24) k) ?_
      show own_Rch p.tables e below (s₁.setTop (mkF m 25 #[.val (.int p1)] [(.int (1 : Int32))])) _
      refine own_via (fun t k => XS.goto X0.here hx rfl (pc0 := 25) (pc' := 29) rfl (hb hby d4_25) (by decide) (by decide) k) ?_
      show own_Rch p.tables e below (s₁.setTop (mkF m 29 #[.val (.int p1)] [(.int (1 : Int32))])) _
      exact own_fin X0 hx (t := .boolean) (i := .ireturn) Bd.returns Bd.notSynchronized rfl (Or.inl ⟨rfl, by simp, _, rfl⟩) (hb hby d4_29) (by decide) (by decide) ⟨by simp only [own_exp, own_e44, if_pos c3, if_pos c9], N0, e0⟩
    · refine own_via (fun t k => XS.icmpNo X0.here hx rfl (hb hby d4_9) rfl (feq c9).1 k) ?_
      show own_Rch p.tables e below (s₁.setTop (mkF m 12 #[.val (.int p1)] [])) _
      refine own_via (fun t k => XS.iloadN X0.here hx rfl (hb hby d4_12) rfl k) ?_
      show own_Rch p.tables e below (s₁.setTop (mkF m 13 #[.val (.int p1)] [(.int p1)])) _
      refine own_via (fun t k => XS.bipush X0.here hx rfl (hb hby d4_13) k) ?_
      show own_Rch p.tables e below (s₁.setTop (mkF m 15 #[.val (.int p1)] [(.int (10 : Int32)), (.int p1)])) _
      by_cases c15 : p1 = (10 : Int32)
      · refine own_via (fun t k => XS.icmpYes X0.here hx rfl (pc0 := 15) (pc' := 24) rfl (hb hby d4_15) rfl (teq c15).1 (by decide) (by decide) k) ?_
        show own_Rch p.tables e below (s₁.setTop (mkF m 24 #[.val (.int p1)] [])) _
        refine own_via (fun t k => XS.iconst X0.here hx rfl (hb hby d4_24) k) ?_
        show own_Rch p.tables e below (s₁.setTop (mkF m 25 #[.val (.int p1)] [(.int (1 : Int32))])) _
        refine own_via (fun t k => XS.goto X0.here hx rfl (pc0 := 25) (pc' := 29) rfl (hb hby d4_25) (by decide) (by decide) k) ?_
        show own_Rch p.tables e below (s₁.setTop (mkF m 29 #[.val (.int p1)] [(.int (1 : Int32))])) _
        exact own_fin X0 hx (t := .boolean) (i := .ireturn) Bd.returns Bd.notSynchronized rfl (Or.inl ⟨rfl, by simp, _, rfl⟩) (hb hby d4_29) (by decide) (by decide) ⟨by simp only [own_exp, own_e44, if_pos c3, if_neg c9, if_pos c15], N0, e0⟩
      · refine own_via (fun t k => XS.icmpNo X0.here hx rfl (hb hby d4_15) rfl (feq c15).1 k) ?_
        show own_Rch p.tables e below (s₁.setTop (mkF m 18 #[.val (.int p1)] [])) _
        refine own_via (fun t k => XS.iloadN X0.here hx rfl (hb hby d4_18) rfl k) ?_
        show own_Rch p.tables e below (s₁.setTop (mkF m 19 #[.val (.int p1)] [(.int p1)])) _
        refine own_via (fun t k => XS.bipush X0.here hx rfl (hb hby d4_19) k) ?_
        show own_Rch p.tables e below (s₁.setTop (mkF m 21 #[.val (.int p1)] [(.int (13 : Int32)), (.int p1)])) _
        by_cases c21 : p1 = (13 : Int32)
        · refine own_via (fun t k => XS.icmpNo X0.here hx rfl (hb hby d4_21) rfl (teq c21).2 k) ?_
          show own_Rch p.tables e below (s₁.setTop (mkF m 24 #[.val (.int p1)] [])) _
          refine own_via (fun t k => XS.iconst X0.here hx rfl (hb hby d4_24) k) ?_
          show own_Rch p.tables e below (s₁.setTop (mkF m 25 #[.val (.int p1)] [(.int (1 : Int32))])) _
          refine own_via (fun t k => XS.goto X0.here hx rfl (pc0 := 25) (pc' := 29) rfl (hb hby d4_25) (by decide) (by decide) k) ?_
          show own_Rch p.tables e below (s₁.setTop (mkF m 29 #[.val (.int p1)] [(.int (1 : Int32))])) _
          exact own_fin X0 hx (t := .boolean) (i := .ireturn) Bd.returns Bd.notSynchronized rfl (Or.inl ⟨rfl, by simp, _, rfl⟩) (hb hby d4_29) (by decide) (by decide) ⟨by simp only [own_exp, own_e44, if_pos c3, if_neg c9, if_neg c15, if_pos c21], N0, e0⟩
        · refine own_via (fun t k => XS.icmpYes X0.here hx rfl (pc0 := 21) (pc' := 28) rfl (hb hby d4_21) rfl (feq c21).2 (by decide) (by decide) k) ?_
          show own_Rch p.tables e below (s₁.setTop (mkF m 28 #[.val (.int p1)] [])) _
          refine own_via (fun t k => XS.iconst X0.here hx rfl (hb hby d4_28) k) ?_
          show own_Rch p.tables e below (s₁.setTop (mkF m 29 #[.val (.int p1)] [(.int (0 : Int32))])) _
          exact own_fin X0 hx (t := .boolean) (i := .ireturn) Bd.returns Bd.notSynchronized rfl (Or.inl ⟨rfl, by simp, _, rfl⟩) (hb hby d4_29) (by decide) (by decide) ⟨by simp only [own_exp, own_e44, if_pos c3, if_neg c9, if_neg c15, if_neg c21], N0, e0⟩
  · refine own_via (fun t k => XS.icmpYes X0.here hx rfl (pc0 := 3) (pc' := 30) rfl (hb hby d4_3) rfl (flt c3).2.1 (by decide) (by decide) k) ?_
    show own_Rch p.tables e below (s₁.setTop (mkF m 30 #[.val (.int p1)] [])) _
    refine own_via (fun t k => XS.iloadN X0.here hx rfl (hb hby d4_30) rfl k) ?_
    show own_Rch p.tables e below (s₁.setTop (mkF m 31 #[.val (.int p1)] [(.int p1)])) _
    refine own_via (X0.ldcInt hx hown (mvT hZ (hw _ (List.mem_of_getElem? (i := 2) rfl))) (g := (mkF m 31 #[.val (.int p1)] [(.int p1)])) rfl (hb hby d4_31)) ?_
    show own_Rch p.tables e below (s₁.setTop (mkF m 33 #[.val (.int p1)] [(.int (55296 : Int32)), (.int p1)])) _
    by_cases c33 : p1 < (55296 : Int32)
    · refine own_via (fun t k => XS.icmpYes X0.here hx rfl (pc0 := 33) (pc' := 44) rfl (hb hby d4_33) rfl (tlt c33).1 (by decide) (by decide) k) ?_
      show own_Rch p.tables e below (s₁.setTop (mkF m 44 #[.val (.int p1)] [])) _
      refine own_via (fun t k => XS.iloadN X0.here hx rfl (hb hby d4_44) rfl k) ?_
      show own_Rch p.tables e below (s₁.setTop (mkF m 45 #[.val (.int p1)] [(.int p1)])) _
      refine own_via (X0.ldcInt hx hown (mvT hZ (hw _ (List.mem_of_getElem? (i := 6) rfl))) (g := (mkF m 45 #[.val (.int p1)] [(.int p1)])) rfl (hb hby d4_45)) ?_
      show own_Rch p.tables e below (s₁.setTop (mkF m 47 #[.val (.int p1)] [(.int (65534 : Int32)), (.int p1)])) _
      have c47 : ¬ (p1 = (65534 : Int32)) := (fun q => by have z0_ : ¬ p1.toInt < 32 := fun q => c3 (Int32.lt_iff_toInt_lt.mpr q); have z1_ : p1.toInt < 55296 := Int32.lt_iff_toInt_lt.mp c33; have zq : p1.toInt = 65534 := congrArg Int32.toInt q; omega)
      refine own_via (fun t k => XS.icmpNo X0.here hx rfl (hb hby d4_47) rfl (feq c47).1 k) ?_
      show own_Rch p.tables e below (s₁.setTop (mkF m 50 #[.val (.int p1)] [])) _
      refine own_via (fun t k => XS.iloadN X0.here hx rfl (hb hby d4_50) rfl k) ?_
      show own_Rch p.tables e below (s₁.setTop (mkF m 51 #[.val (.int p1)] [(.int p1)])) _
      refine own_via (X0.ldcInt hx hown (mvT hZ (hw _ (List.mem_of_getElem? (i := 7) rfl))) (g := (mkF m 51 #[.val (.int p1)] [(.int p1)])) rfl (hb hby d4_51)) ?_
      show own_Rch p.tables e below (s₁.setTop (mkF m 53 #[.val (.int p1)] [(.int (65535 : Int32)), (.int p1)])) _
      have c53 : ¬ (p1 = (65535 : Int32)) := (fun q => by have z0_ : ¬ p1.toInt < 32 := fun q => c3 (Int32.lt_iff_toInt_lt.mpr q); have z1_ : p1.toInt < 55296 := Int32.lt_iff_toInt_lt.mp c33; have z2_ : ¬ p1.toInt = 65534 := fun q => c47 (Int32.toInt_inj.mp q); have zq : p1.toInt = 65535 := congrArg Int32.toInt q; omega)
      refine own_via (fun t k => XS.icmpYes X0.here hx rfl (pc0 := 53) (pc' := 58) rfl (hb hby d4_53) rfl (feq c53).2 (by decide) (by decide) k) ?_
      show own_Rch p.tables e below (s₁.setTop (mkF m 58 #[.val (.int p1)] [])) _
      refine own_via (fun t k => XS.iconst X0.here hx rfl (hb hby d4_58) k) ?_
      show own_Rch p.tables e below (s₁.setTop (mkF m 59 #[.val (.int p1)] [(.int (1 : Int32))])) _
      exact own_fin X0 hx (t := .boolean) (i := .ireturn) Bd.returns Bd.notSynchronized rfl (Or.inl ⟨rfl, by simp, _, rfl⟩) (hb hby d4_59) (by decide) (by decide) ⟨by simp only [own_exp, own_e44, if_neg c3, if_pos c33, if_neg c47, if_neg c53], N0, e0⟩
    · refine own_via (fun t k => XS.icmpNo X0.here hx rfl (hb hby d4_33) rfl (flt c33).1 k) ?_
      show own_Rch p.tables e below (s₁.setTop (mkF m 36 #[.val (.int p1)] [])) _
      refine own_via (fun t k => XS.iloadN X0.here hx rfl (hb hby d4_36) rfl k) ?_
      show own_Rch p.tables e below (s₁.setTop (mkF m 37 #[.val (.int p1)] [(.int p1)])) _
      refine own_via (X0.ldcInt hx hown (mvT hZ (hw _ (List.mem_of_getElem? (i := 3) rfl))) (g := (mkF m 37 #[.val (.int p1)] [(.int p1)])) rfl (hb hby d4_37)) ?_
      show own_Rch p.tables e below (s₁.setTop (mkF m 39 #[.val (.int p1)] [(.int (57343 : Int32)), (.int p1)])) _
      by_cases c39 : (57343 : Int32) < p1
      · refine own_via (fun t k => XS.icmpYes X0.here hx rfl (pc0 := 39) (pc' := 44) rfl (hb hby d4_39) rfl (tlt c39).2.2.1 (by decide) (by decide) k) ?_
        show own_Rch p.tables e below (s₁.setTop (mkF m 44 #[.val (.int p1)] [])) _
        refine own_via (fun t k => XS.iloadN X0.here hx rfl (hb hby d4_44) rfl k) ?_
        show own_Rch p.tables e below (s₁.setTop (mkF m 45 #[.val (.int p1)] [(.int p1)])) _
        refine own_via (X0.ldcInt hx hown (mvT hZ (hw _ (List.mem_of_getElem? (i := 6) rfl))) (g := (mkF m 45 #[.val (.int p1)] [(.int p1)])) rfl (hb hby d4_45)) ?_
        show own_Rch p.tables e below (s₁.setTop (mkF m 47 #[.val (.int p1)] [(.int (65534 : Int32)), (.int p1)])) _
        by_cases c47 : p1 = (65534 : Int32)
        · refine own_via (fun t k => XS.icmpYes X0.here hx rfl (pc0 := 47) (pc' := 56) rfl (hb hby d4_47) rfl (teq c47).1 (by decide) (by decide) k) ?_
          show own_Rch p.tables e below (s₁.setTop (mkF m 56 #[.val (.int p1)] [])) _
          refine own_via (fun t k => XS.iconst X0.here hx rfl (hb hby d4_56) k) ?_
          show own_Rch p.tables e below (s₁.setTop (mkF m 57 #[.val (.int p1)] [(.int (0 : Int32))])) _
          exact own_fin X0 hx (t := .boolean) (i := .ireturn) Bd.returns Bd.notSynchronized rfl (Or.inl ⟨rfl, by simp, _, rfl⟩) (hb hby d4_57) (by decide) (by decide) ⟨by simp only [own_exp, own_e44, if_neg c3, if_neg c33, if_pos c39, if_pos c47], N0, e0⟩
        · refine own_via (fun t k => XS.icmpNo X0.here hx rfl (hb hby d4_47) rfl (feq c47).1 k) ?_
          show own_Rch p.tables e below (s₁.setTop (mkF m 50 #[.val (.int p1)] [])) _
          refine own_via (fun t k => XS.iloadN X0.here hx rfl (hb hby d4_50) rfl k) ?_
          show own_Rch p.tables e below (s₁.setTop (mkF m 51 #[.val (.int p1)] [(.int p1)])) _
          refine own_via (X0.ldcInt hx hown (mvT hZ (hw _ (List.mem_of_getElem? (i := 7) rfl))) (g := (mkF m 51 #[.val (.int p1)] [(.int p1)])) rfl (hb hby d4_51)) ?_
          show own_Rch p.tables e below (s₁.setTop (mkF m 53 #[.val (.int p1)] [(.int (65535 : Int32)), (.int p1)])) _
          by_cases c53 : p1 = (65535 : Int32)
          · refine own_via (fun t k => XS.icmpNo X0.here hx rfl (hb hby d4_53) rfl (teq c53).2 k) ?_
            show own_Rch p.tables e below (s₁.setTop (mkF m 56 #[.val (.int p1)] [])) _
            refine own_via (fun t k => XS.iconst X0.here hx rfl (hb hby d4_56) k) ?_
            show own_Rch p.tables e below (s₁.setTop (mkF m 57 #[.val (.int p1)] [(.int (0 : Int32))])) _
            exact own_fin X0 hx (t := .boolean) (i := .ireturn) Bd.returns Bd.notSynchronized rfl (Or.inl ⟨rfl, by simp, _, rfl⟩) (hb hby d4_57) (by decide) (by decide) ⟨by simp only [own_exp, own_e44, if_neg c3, if_neg c33, if_pos c39, if_neg c47, if_pos c53], N0, e0⟩
          · refine own_via (fun t k => XS.icmpYes X0.here hx rfl (pc0 := 53) (pc' := 58) rfl (hb hby d4_53) rfl (feq c53).2 (by decide) (by decide) k) ?_
            show own_Rch p.tables e below (s₁.setTop (mkF m 58 #[.val (.int p1)] [])) _
            refine own_via (fun t k => XS.iconst X0.here hx rfl (hb hby d4_58) k) ?_
            show own_Rch p.tables e below (s₁.setTop (mkF m 59 #[.val (.int p1)] [(.int (1 : Int32))])) _
            exact own_fin X0 hx (t := .boolean) (i := .ireturn) Bd.returns Bd.notSynchronized rfl (Or.inl ⟨rfl, by simp, _, rfl⟩) (hb hby d4_59) (by decide) (by decide) ⟨by simp only [own_exp, own_e44, if_neg c3, if_neg c33, if_pos c39, if_neg c47, if_neg c53], N0, e0⟩
      · refine own_via (fun t k => XS.icmpNo X0.here hx rfl (hb hby d4_39) rfl (flt c39).2.2.1 k) ?_
        show own_Rch p.tables e below (s₁.setTop (mkF m 42 #[.val (.int p1)] [])) _
        refine own_via (fun t k => XS.iconst X0.here hx rfl (hb hby d4_42) k) ?_
        show own_Rch p.tables e below (s₁.setTop (mkF m 43 #[.val (.int p1)] [(.int (0 : Int32))])) _
        exact own_fin X0 hx (t := .boolean) (i := .ireturn) Bd.returns Bd.notSynchronized rfl (Or.inl ⟨rfl, by simp, _, rfl⟩) (hb hby d4_43) (by decide) (by decide) ⟨by simp only [own_exp, own_e44, if_neg c3, if_neg c33, if_neg c39], N0, e0⟩
def Q0 (n0 : Nat) (v : Option Value) (h : Heap) (L : List Loc) : Prop := v = some (.int (1 : Int32)) ∧ Fr n0 L
theorem ef_0 (m : MethodId) (x0 : Int32) (x1 : Int32) : entryFrame m #[(.int x0), (.int x1)] maxLocals = mkF m 0 #[.val (.int x0), .val (.int x1), .unset, .unset, .unset] [] := by first | (simp [entryFrame, mkF, argsToLocals, Value.category, maxLocals]; done) | rfl
theorem pd_0 : parseMethodDescriptor "(I)Z" = some ⟨[.int], some .boolean⟩ := by decide +kernel
theorem pd_1 : parseMethodDescriptor "(II)I" = some ⟨[.int, .int], some .int⟩ := by decide +kernel
set_option maxRecDepth 65536 in
set_option maxHeartbeats 40000000 in
theorem rm0 (l : Launch) (Z : State) (a0 : Array Value) (hw : ∀ d ∈ tables_1, d.before a0 Z = true) (ws : List Jvm.Cond) (p1 : Int32) (p2 : Int32) (h0 : Heap) (n0 : Nat) (Z0 : n0 ≤ h0.size) :
    MetFree l x (head1 (Jvm.Cond.code x code maxLocals ret :: ws) room_1) (fun a U => a = #[(.int p1), (.int p2)] ∧ Z.Warmed39 U.vm ∧ U.heap = h0) (fun _ _ _ _ _ => True) (fun _ U o U' => ∃ v L, o = .returned v ∧ Q0 n0 v U'.heap L ∧ FrameEnd U o U' L room_1.cells room_1.slots) := by
  refine MetFree.of_bodySF (plainFor_of_name pn_org_rolepath_io_HierarchyWriterIsXmlCharPinLaw) hisR ?_
  intro p e s m args below meth c s₁ Bd hml0 hP hK
  obtain ⟨rfl, hZ, hh⟩ := hP
  have hx := Bd.exec
  have hby := Bd.bytes
  have hml : c.maxLocals = 5 := hml0
  have hown : s.vm.findClass "org/rolepath/io/HierarchyWriterIsXmlCharPinLaw" = some m.cls := findClass_of_methodNamed Bd.named
  have hnm := (name_of_methodNamed Bd.named Bd.method).1
  have X0 : Stand p l e room_1 s m #[(.int p1), (.int p2)] below meth c s₁ [] 0 0 := Stand.of_body Bd
  have e0 : s₁.heap = h0 := by rw [← hh, Bd.state]; rfl
  have N0 := Fr.nil n0
  show own_Rch p.tables e below (s₁.setTop (entryFrame m #[(.int p1), (.int p2)] maxLocals)) (own_End s (Q0 n0) room_1.cells room_1.slots)
  refine own_via (fun t k => castTop (ef_0 m p1 p2) k) ?_
  show own_Rch p.tables e below (s₁.setTop (mkF m 0 #[.val (.int p1), .val (.int p2), .unset, .unset, .unset] [])) _
  refine own_via (fun t k => XS.iloadN X0.here hx rfl (hb hby at_0) rfl k) ?_
  show own_Rch p.tables e below (s₁.setTop (mkF m 1 #[.val (.int p1), .val (.int p2), .unset, .unset, .unset] [(.int p2)])) _
  refine own_via (fun t k => XS.iconst X0.here hx rfl (hb hby at_1) k) ?_
  show own_Rch p.tables e below (s₁.setTop (mkF m 2 #[.val (.int p1), .val (.int p2), .unset, .unset, .unset] [(.int (1 : Int32)), (.int p2)])) _
  refine own_via (fun t k => XS.iand X0.here hx rfl (hb hby at_2) rfl k) ?_
  show own_Rch p.tables e below (s₁.setTop (mkF m 3 #[.val (.int p1), .val (.int p2), .unset, .unset, .unset] [(.int (p2 &&& (1 : Int32)))])) _
  by_cases c3 : (p2 &&& (1 : Int32)) = (0 : Int32)
  · refine own_via (fun t k => XS.ifNo X0.here hx rfl (hb hby at_3) rfl ((if0 _ _).trans (teq c3).2) k) ?_
    show own_Rch p.tables e below (s₁.setTop (mkF m 6 #[.val (.int p1), .val (.int p2), .unset, .unset, .unset] [])) _
    refine own_via (fun t k => XS.iloadN X0.here hx rfl (hb hby at_6) rfl k) ?_
    show own_Rch p.tables e below (s₁.setTop (mkF m 7 #[.val (.int p1), .val (.int p2), .unset, .unset, .unset] [(.int p1)])) _
    refine own_via (X0.ldcInt hx hown (mvT hZ (hw _ (List.mem_of_getElem? (i := 28) rfl))) (g := (mkF m 7 #[.val (.int p1), .val (.int p2), .unset, .unset, .unset] [(.int p1)])) rfl (hb hby at_7)) ?_
    show own_Rch p.tables e below (s₁.setTop (mkF m 9 #[.val (.int p1), .val (.int p2), .unset, .unset, .unset] [(.int (2147483647 : Int32)), (.int p1)])) _
    refine own_via (fun t k => XS.iand X0.here hx rfl (hb hby at_9) rfl k) ?_
    show own_Rch p.tables e below (s₁.setTop (mkF m 10 #[.val (.int p1), .val (.int p2), .unset, .unset, .unset] [(.int (p1 &&& (2147483647 : Int32)))])) _
    refine own_via (X0.ldcInt hx hown (mvT hZ (hw _ (List.mem_of_getElem? (i := 29) rfl))) (g := (mkF m 10 #[.val (.int p1), .val (.int p2), .unset, .unset, .unset] [(.int (p1 &&& (2147483647 : Int32)))])) rfl (hb hby at_10)) ?_
    show own_Rch p.tables e below (s₁.setTop (mkF m 12 #[.val (.int p1), .val (.int p2), .unset, .unset, .unset] [(.int (1114112 : Int32)), (.int (p1 &&& (2147483647 : Int32)))])) _
    refine own_via (fun t k => iremM X0 hx rfl (hb hby at_12) rfl (by decide) k) ?_
    show own_Rch p.tables e below (s₁.setTop (mkF m 13 #[.val (.int p1), .val (.int p2), .unset, .unset, .unset] [(.int ((p1 &&& (2147483647 : Int32)) % (1114112 : Int32)))])) _
    refine own_via (fun t k => XS.istoreN X0.here hx rfl (hb hby at_13) rfl (l' := #[.val (.int p1), .val (.int p2), .val (.int ((p1 &&& (2147483647 : Int32)) % (1114112 : Int32))), .unset, .unset]) rfl k) ?_
    show own_Rch p.tables e below (s₁.setTop (mkF m 14 #[.val (.int p1), .val (.int p2), .val (.int ((p1 &&& (2147483647 : Int32)) % (1114112 : Int32))), .unset, .unset] [])) _
    refine own_via (fun t k => XS.goto X0.here hx rfl (pc0 := 14) (pc' := 136) rfl (hb hby at_14) (by decide) (by decide) k) ?_
    show own_Rch p.tables e below (s₁.setTop (mkF m 136 #[.val (.int p1), .val (.int p2), .val (.int ((p1 &&& (2147483647 : Int32)) % (1114112 : Int32))), .unset, .unset] [])) _
    refine own_via (fun t k => XS.iloadN X0.here hx rfl (hb hby at_136) rfl k) ?_
    show own_Rch p.tables e below (s₁.setTop (mkF m 137 #[.val (.int p1), .val (.int p2), .val (.int ((p1 &&& (2147483647 : Int32)) % (1114112 : Int32))), .unset, .unset] [(.int ((p1 &&& (2147483647 : Int32)) % (1114112 : Int32)))])) _
    obtain ⟨_, _, ⟨T1, L1, k1, n1⟩, -, X1, ⟨Lc1, hQ1, l1, y1, z1⟩, st1⟩ := Jvm.LawKit.callS X0 hx (y := (⟨"org/rolepath/io/HierarchyWriter", "isXmlChar", "(I)Z"⟩ : MethodName)) hown (mvT hZ (hw _ (List.mem_of_getElem? (i := 17) rfl))) (mvT hZ (hw _ (List.mem_of_getElem? (i := 18) rfl))) (mvT hZ (hw _ (List.mem_of_getElem? (i := 19) rfl))) (mvT hZ (hw _ (List.mem_of_getElem? (i := 20) rfl))) (by decide) (backOf (W := 0) (rm3 l Z a0 hw [] ((p1 &&& (2147483647 : Int32)) % (1114112 : Int32)) h0 n0) hZ (hw _ (List.mem_of_getElem? (i := 20) rfl)) (hw _ (List.mem_of_getElem? (i := 19) rfl)) (by decide) (by decide)) (g := (mkF m 137 #[.val (.int p1), .val (.int p2), .val (.int ((p1 &&& (2147483647 : Int32)) % (1114112 : Int32))), .unset, .unset] [(.int ((p1 &&& (2147483647 : Int32)) % (1114112 : Int32)))])) rfl (by rw [hml]; rfl) (argsL := [(.int ((p1 &&& (2147483647 : Int32)) % (1114112 : Int32)))]) (rest := []) (lenOf pd_0 rfl) rfl (by show 2 * 0 + _ ≤ _; exact Nat.le_of_eq rfl) (hb hby at_137) (fun _ _ => ⟨rfl, e0, (by decide : 0 + 0 ≤ _), (by decide : 0 + 0 ≤ _)⟩)
    dsimp only [Pt.U, Pt.locs, Pt.cells, Pt.slots] at X1 l1 y1 z1 st1 hQ1
    subst l1 y1 z1
    obtain ⟨rfl, N1q, eh1⟩ := hQ1
    have N1 := Fr.app N0 N1q
    refine own_via st1 ?_
    show own_Rch p.tables e below (T1.setTop (mkF m 140 #[.val (.int p1), .val (.int p2), .val (.int ((p1 &&& (2147483647 : Int32)) % (1114112 : Int32))), .unset, .unset] [(.int (own_isXml ((p1 &&& (2147483647 : Int32)) % (1114112 : Int32))))])) _
    refine own_via (fun t k => XS.iloadN X1.here hx rfl (hb hby at_140) rfl k) ?_
    show own_Rch p.tables e below (T1.setTop (mkF m 141 #[.val (.int p1), .val (.int p2), .val (.int ((p1 &&& (2147483647 : Int32)) % (1114112 : Int32))), .unset, .unset] [(.int ((p1 &&& (2147483647 : Int32)) % (1114112 : Int32))), (.int (own_isXml ((p1 &&& (2147483647 : Int32)) % (1114112 : Int32))))])) _
    obtain ⟨_, _, ⟨T2, L2, k2, n2⟩, -, X2, ⟨Lc2, hQ2, l2, y2, z2⟩, st2⟩ := Jvm.LawKit.callS X1 hx (y := (⟨"org/rolepath/io/HierarchyWriterIsXmlCharPinLaw", "expected", "(I)Z"⟩ : MethodName)) hown (mvT hZ (hw _ (List.mem_of_getElem? (i := 23) rfl))) (mvT hZ (hw _ (List.mem_of_getElem? (i := 24) rfl))) (mvT hZ (hw _ (List.mem_of_getElem? (i := 25) rfl))) (mvT hZ (hw _ (List.mem_of_getElem? (i := 26) rfl))) (by decide) (backOf (W := 1) (rm4 l Z a0 hw [] ((p1 &&& (2147483647 : Int32)) % (1114112 : Int32)) h0 n0) hZ (hw _ (List.mem_of_getElem? (i := 26) rfl)) (hw _ (List.mem_of_getElem? (i := 25) rfl)) (by decide) (by decide)) (g := (mkF m 141 #[.val (.int p1), .val (.int p2), .val (.int ((p1 &&& (2147483647 : Int32)) % (1114112 : Int32))), .unset, .unset] [(.int ((p1 &&& (2147483647 : Int32)) % (1114112 : Int32))), (.int (own_isXml ((p1 &&& (2147483647 : Int32)) % (1114112 : Int32))))])) rfl (by rw [hml]; rfl) (argsL := [(.int ((p1 &&& (2147483647 : Int32)) % (1114112 : Int32)))]) (rest := [(.int (own_isXml ((p1 &&& (2147483647 : Int32)) % (1114112 : Int32))))]) (lenOf pd_0 rfl) rfl (by show 2 * 0 + _ ≤ _; exact Nat.le_of_eq rfl) (hb hby at_141) (fun _ _ => ⟨rfl, eh1, (by decide : 0 + 0 ≤ _), (by decide : 0 + 0 ≤ _)⟩)
    dsimp only [Pt.U, Pt.locs, Pt.cells, Pt.slots] at X2 l2 y2 z2 st2 hQ2
    subst l2 y2 z2
    obtain ⟨rfl, N2q, eh2⟩ := hQ2
    have N2 := Fr.app N1 N2q
    refine own_via st2 ?_
    show own_Rch p.tables e below (T2.setTop (mkF m 144 #[.val (.int p1), .val (.int p2), .val (.int ((p1 &&& (2147483647 : Int32)) % (1114112 : Int32))), .unset, .unset] [(.int (own_exp ((p1 &&& (2147483647 : Int32)) % (1114112 : Int32)))), (.int (own_isXml ((p1 &&& (2147483647 : Int32)) % (1114112 : Int32))))])) _
    have hq : (own_isXml ((p1 &&& (2147483647 : Int32)) % (1114112 : Int32))) = (own_exp ((p1 &&& (2147483647 : Int32)) % (1114112 : Int32))) := own_same _ (own_r1 p1).1 (own_r1 p1).2
    refine own_via (fun t k => XS.icmpNo X2.here hx rfl (hb hby at_144) rfl (teq hq).2 k) ?_
    show own_Rch p.tables e below (T2.setTop (mkF m 147 #[.val (.int p1), .val (.int p2), .val (.int ((p1 &&& (2147483647 : Int32)) % (1114112 : Int32))), .unset, .unset] [])) _
    refine own_via (fun t k => XS.iconst X2.here hx rfl (hb hby at_147) k) ?_
    show own_Rch p.tables e below (T2.setTop (mkF m 148 #[.val (.int p1), .val (.int p2), .val (.int ((p1 &&& (2147483647 : Int32)) % (1114112 : Int32))), .unset, .unset] [(.int (1 : Int32))])) _
    refine own_via (fun t k => XS.goto X2.here hx rfl (pc0 := 148) (pc' := 152) rfl (hb hby at_148) (by decide) (by decide) k) ?_
    show own_Rch p.tables e below (T2.setTop (mkF m 152 #[.val (.int p1), .val (.int p2), .val (.int ((p1 &&& (2147483647 : Int32)) % (1114112 : Int32))), .unset, .unset] [(.int (1 : Int32))])) _
    exact own_fin X2 hx (t := .boolean) (i := .ireturn) Bd.returns Bd.notSynchronized rfl (Or.inl ⟨rfl, by simp, _, rfl⟩) (hb hby at_152) (by decide) (by decide) ⟨rfl, N2⟩
  · refine own_via (fun t k => XS.ifYes X0.here hx rfl (pc0 := 3) (pc' := 17) rfl (hb hby at_3) rfl ((if0 _ _).trans (feq c3).2) (by decide) (by decide) k) ?_
    show own_Rch p.tables e below (s₁.setTop (mkF m 17 #[.val (.int p1), .val (.int p2), .unset, .unset, .unset] [])) _
    refine own_via (fun t k => XS.bipush X0.here hx rfl (hb hby at_17) k) ?_
    show own_Rch p.tables e below (s₁.setTop (mkF m 19 #[.val (.int p1), .val (.int p2), .unset, .unset, .unset] [(.int (15 : Int32))])) _
    obtain ⟨T3, h3, k3, X3, e3, E3, A3, st3⟩ := newP X0 hx hZ (hw _ (List.mem_of_getElem? (i := 0) rfl)) e0 (g := (mkF m 19 #[.val (.int p1), .val (.int p2), .unset, .unset, .unset] [(.int (15 : Int32))])) rfl (hb hby at_19) rfl (by decide) (cap := 15) (by decide) (by decide) (by decide) (by decide)
    obtain ⟨b3, g3⟩ : ∃ z, z = h0.size := ⟨_, rfl⟩
    rw [← g3] at A3 st3
    have g_b3 : n0 ≤ b3 := Nat.le_trans Z0 (Nat.le_of_eq g3.symm)
    have V3 : Arv Z h3 b3 k3 .int (15 : Int32) [(.int (0 : Int32)), (.int (0 : Int32)), (.int (0 : Int32)), (.int (0 : Int32)), (.int (0 : Int32)), (.int (0 : Int32)), (.int (0 : Int32)), (.int (0 : Int32)), (.int (0 : Int32)), (.int (0 : Int32)), (.int (0 : Int32)), (.int (0 : Int32)), (.int (0 : Int32)), (.int (0 : Int32)), (.int (0 : Int32))] (.int (0 : Int32)) := (Arv.new A3 (by decide)).pad (pad_rep [] (.int (0 : Int32)) 15)
    refine own_via st3 ?_
    show own_Rch p.tables e below (T3.setTop (mkF m 21 #[.val (.int p1), .val (.int p2), .unset, .unset, .unset] [(.ref b3)])) _
    refine own_via (fun t k => XS.dup X3.here hx rfl (hb hby at_21) rfl rfl k) ?_
    show own_Rch p.tables e below (T3.setTop (mkF m 22 #[.val (.int p1), .val (.int p2), .unset, .unset, .unset] [(.ref b3), (.ref b3)])) _
    refine own_via (fun t k => XS.iconst X3.here hx rfl (hb hby at_22) k) ?_
    show own_Rch p.tables e below (T3.setTop (mkF m 23 #[.val (.int p1), .val (.int p2), .unset, .unset, .unset] [(.int (0 : Int32)), (.ref b3), (.ref b3)])) _
    refine own_via (fun t k => XS.iconst X3.here hx rfl (hb hby at_23) k) ?_
    show own_Rch p.tables e below (T3.setTop (mkF m 24 #[.val (.int p1), .val (.int p2), .unset, .unset, .unset] [(.int (0 : Int32)), (.int (0 : Int32)), (.ref b3), (.ref b3)])) _
    obtain ⟨cl4, Ar4, q4, S4, M4, H4, G4⟩ := V3
    have hin4 : ¬ ((0 : Int32) < 0 ∨ cl4.slots.size ≤ ((0 : Int32)).toNatClampNeg) := inb_of S4 ⟨by decide, by decide⟩
    obtain ⟨T4, h4, X4, e4, W4, st4⟩ := stI X3 hx hZ e3 Ar4 (j := (0 : Int32)) hin4 (g := (mkF m 24 #[.val (.int p1), .val (.int p2), .unset, .unset, .unset] [(.int (0 : Int32)), (.int (0 : Int32)), (.ref b3), (.ref b3)])) rfl rfl (hb hby at_24)
    have V4 := Arv.set Ar4 q4 S4 M4 H4 G4 rfl W4 0 rfl (Nat.le_of_ble_eq_true rfl)
    have V4' : Arv Z h4 b3 k3 .int (15 : Int32) [(.int (0 : Int32)), (.int (0 : Int32)), (.int (0 : Int32)), (.int (0 : Int32)), (.int (0 : Int32)), (.int (0 : Int32)), (.int (0 : Int32)), (.int (0 : Int32)), (.int (0 : Int32)), (.int (0 : Int32)), (.int (0 : Int32)), (.int (0 : Int32)), (.int (0 : Int32)), (.int (0 : Int32)), (.int (0 : Int32))] (.int (0 : Int32)) := V4
    have N4 := Fr.snoc X4 N0 g_b3
    refine own_via st4 ?_
    show own_Rch p.tables e below (T4.setTop (mkF m 25 #[.val (.int p1), .val (.int p2), .unset, .unset, .unset] [(.ref b3)])) _
    refine own_via (fun t k => XS.dup X4.here hx rfl (hb hby at_25) rfl rfl k) ?_
    show own_Rch p.tables e below (T4.setTop (mkF m 26 #[.val (.int p1), .val (.int p2), .unset, .unset, .unset] [(.ref b3), (.ref b3)])) _
    refine own_via (fun t k => XS.iconst X4.here hx rfl (hb hby at_26) k) ?_
    show own_Rch p.tables e below (T4.setTop (mkF m 27 #[.val (.int p1), .val (.int p2), .unset, .unset, .unset] [(.int (1 : Int32)), (.ref b3), (.ref b3)])) _
    refine own_via (fun t k => XS.bipush X4.here hx rfl (hb hby at_27) k) ?_
    show own_Rch p.tables e below (T4.setTop (mkF m 29 #[.val (.int p1), .val (.int p2), .unset, .unset, .unset] [(.int (9 : Int32)), (.int (1 : Int32)), (.ref b3), (.ref b3)])) _
    obtain ⟨cl5, Ar5, q5, S5, M5, H5, G5⟩ := V4'
    have hin5 : ¬ ((1 : Int32) < 0 ∨ cl5.slots.size ≤ ((1 : Int32)).toNatClampNeg) := inb_of S5 ⟨by decide, by decide⟩
    obtain ⟨T5, h5, X5, e5, W5, st5⟩ := stI X4 hx hZ e4 Ar5 (j := (1 : Int32)) hin5 (g := (mkF m 29 #[.val (.int p1), .val (.int p2), .unset, .unset, .unset] [(.int (9 : Int32)), (.int (1 : Int32)), (.ref b3), (.ref b3)])) rfl rfl (hb hby at_29)
    have V5 := Arv.set Ar5 q5 S5 M5 H5 G5 rfl W5 1 rfl (Nat.le_of_ble_eq_true rfl)
    have V5' : Arv Z h5 b3 k3 .int (15 : Int32) [(.int (0 : Int32)), (.int (9 : Int32)), (.int (0 : Int32)), (.int (0 : Int32)), (.int (0 : Int32)), (.int (0 : Int32)), (.int (0 : Int32)), (.int (0 : Int32)), (.int (0 : Int32)), (.int (0 : Int32)), (.int (0 : Int32)), (.int (0 : Int32)), (.int (0 : Int32)), (.int (0 : Int32)), (.int (0 : Int32))] (.int (0 : Int32)) := V5
    have N5 := Fr.snoc X5 N4 g_b3
    refine own_via st5 ?_
    show own_Rch p.tables e below (T5.setTop (mkF m 30 #[.val (.int p1), .val (.int p2), .unset, .unset, .unset] [(.ref b3)])) _
    refine own_via (fun t k => XS.dup X5.here hx rfl (hb hby at_30) rfl rfl k) ?_
    show own_Rch p.tables e below (T5.setTop (mkF m 31 #[.val (.int p1), .val (.int p2), .unset, .unset, .unset] [(.ref b3), (.ref b3)])) _
    refine own_via (fun t k => XS.iconst X5.here hx rfl (hb hby at_31) k) ?_
    show own_Rch p.tables e below (T5.setTop (mkF m 32 #[.val (.int p1), .val (.int p2), .unset, .unset, .unset] [(.int (2 : Int32)), (.ref b3), (.ref b3)])) _
    refine own_via (fun t k => XS.bipush X5.here hx rfl (hb hby at_32) k) ?_
    show own_Rch p.tables e below (T5.setTop (mkF m 34 #[.val (.int p1), .val (.int p2), .unset, .unset, .unset] [(.int (10 : Int32)), (.int (2 : Int32)), (.ref b3), (.ref b3)])) _
    obtain ⟨cl6, Ar6, q6, S6, M6, H6, G6⟩ := V5'
    have hin6 : ¬ ((2 : Int32) < 0 ∨ cl6.slots.size ≤ ((2 : Int32)).toNatClampNeg) := inb_of S6 ⟨by decide, by decide⟩
    obtain ⟨T6, h6, X6, e6, W6, st6⟩ := stI X5 hx hZ e5 Ar6 (j := (2 : Int32)) hin6 (g := (mkF m 34 #[.val (.int p1), .val (.int p2), .unset, .unset, .unset] [(.int (10 : Int32)), (.int (2 : Int32)), (.ref b3), (.ref b3)])) rfl rfl (hb hby at_34)
    have V6 := Arv.set Ar6 q6 S6 M6 H6 G6 rfl W6 2 rfl (Nat.le_of_ble_eq_true rfl)
    have V6' : Arv Z h6 b3 k3 .int (15 : Int32) [(.int (0 : Int32)), (.int (9 : Int32)), (.int (10 : Int32)), (.int (0 : Int32)), (.int (0 : Int32)), (.int (0 : Int32)), (.int (0 : Int32)), (.int (0 : Int32)), (.int (0 : Int32)), (.int (0 : Int32)), (.int (0 : Int32)), (.int (0 : Int32)), (.int (0 : Int32)), (.int (0 : Int32)), (.int (0 : Int32))] (.int (0 : Int32)) := V6
    have N6 := Fr.snoc X6 N5 g_b3
    refine own_via st6 ?_
    show own_Rch p.tables e below (T6.setTop (mkF m 35 #[.val (.int p1), .val (.int p2), .unset, .unset, .unset] [(.ref b3)])) _
    refine own_via (fun t k => XS.dup X6.here hx rfl (hb hby at_35) rfl rfl k) ?_
    show own_Rch p.tables e below (T6.setTop (mkF m 36 #[.val (.int p1), .val (.int p2), .unset, .unset, .unset] [(.ref b3), (.ref b3)])) _
    refine own_via (fun t k => XS.iconst X6.here hx rfl (hb hby at_36) k) ?_
    show own_Rch p.tables e below (T6.setTop (mkF m 37 #[.val (.int p1), .val (.int p2), .unset, .unset, .unset] [(.int (3 : Int32)), (.ref b3), (.ref b3)])) _
    refine own_via (fun t k => XS.bipush X6.here hx rfl (hb hby at_37) k) ?_
    show own_Rch p.tables e below (T6.setTop (mkF m 39 #[.val (.int p1), .val (.int p2), .unset, .unset, .unset] [(.int (13 : Int32)), (.int (3 : Int32)), (.ref b3), (.ref b3)])) _
    obtain ⟨cl7, Ar7, q7, S7, M7, H7, G7⟩ := V6'
    have hin7 : ¬ ((3 : Int32) < 0 ∨ cl7.slots.size ≤ ((3 : Int32)).toNatClampNeg) := inb_of S7 ⟨by decide, by decide⟩
    obtain ⟨T7, h7, X7, e7, W7, st7⟩ := stI X6 hx hZ e6 Ar7 (j := (3 : Int32)) hin7 (g := (mkF m 39 #[.val (.int p1), .val (.int p2), .unset, .unset, .unset] [(.int (13 : Int32)), (.int (3 : Int32)), (.ref b3), (.ref b3)])) rfl rfl (hb hby at_39)
    have V7 := Arv.set Ar7 q7 S7 M7 H7 G7 rfl W7 3 rfl (Nat.le_of_ble_eq_true rfl)
    have V7' : Arv Z h7 b3 k3 .int (15 : Int32) [(.int (0 : Int32)), (.int (9 : Int32)), (.int (10 : Int32)), (.int (13 : Int32)), (.int (0 : Int32)), (.int (0 : Int32)), (.int (0 : Int32)), (.int (0 : Int32)), (.int (0 : Int32)), (.int (0 : Int32)), (.int (0 : Int32)), (.int (0 : Int32)), (.int (0 : Int32)), (.int (0 : Int32)), (.int (0 : Int32))] (.int (0 : Int32)) := V7
    have N7 := Fr.snoc X7 N6 g_b3
    refine own_via st7 ?_
    show own_Rch p.tables e below (T7.setTop (mkF m 40 #[.val (.int p1), .val (.int p2), .unset, .unset, .unset] [(.ref b3)])) _
    refine own_via (fun t k => XS.dup X7.here hx rfl (hb hby at_40) rfl rfl k) ?_
    show own_Rch p.tables e below (T7.setTop (mkF m 41 #[.val (.int p1), .val (.int p2), .unset, .unset, .unset] [(.ref b3), (.ref b3)])) _
    refine own_via (fun t k => XS.iconst X7.here hx rfl (hb hby at_41) k) ?_
    show own_Rch p.tables e below (T7.setTop (mkF m 42 #[.val (.int p1), .val (.int p2), .unset, .unset, .unset] [(.int (4 : Int32)), (.ref b3), (.ref b3)])) _
    refine own_via (fun t k => XS.bipush X7.here hx rfl (hb hby at_42) k) ?_
    show own_Rch p.tables e below (T7.setTop (mkF m 44 #[.val (.int p1), .val (.int p2), .unset, .unset, .unset] [(.int (31 : Int32)), (.int (4 : Int32)), (.ref b3), (.ref b3)])) _
    obtain ⟨cl8, Ar8, q8, S8, M8, H8, G8⟩ := V7'
    have hin8 : ¬ ((4 : Int32) < 0 ∨ cl8.slots.size ≤ ((4 : Int32)).toNatClampNeg) := inb_of S8 ⟨by decide, by decide⟩
    obtain ⟨T8, h8, X8, e8, W8, st8⟩ := stI X7 hx hZ e7 Ar8 (j := (4 : Int32)) hin8 (g := (mkF m 44 #[.val (.int p1), .val (.int p2), .unset, .unset, .unset] [(.int (31 : Int32)), (.int (4 : Int32)), (.ref b3), (.ref b3)])) rfl rfl (hb hby at_44)
    have V8 := Arv.set Ar8 q8 S8 M8 H8 G8 rfl W8 4 rfl (Nat.le_of_ble_eq_true rfl)
    have V8' : Arv Z h8 b3 k3 .int (15 : Int32) [(.int (0 : Int32)), (.int (9 : Int32)), (.int (10 : Int32)), (.int (13 : Int32)), (.int (31 : Int32)), (.int (0 : Int32)), (.int (0 : Int32)), (.int (0 : Int32)), (.int (0 : Int32)), (.int (0 : Int32)), (.int (0 : Int32)), (.int (0 : Int32)), (.int (0 : Int32)), (.int (0 : Int32)), (.int (0 : Int32))] (.int (0 : Int32)) := V8
    have N8 := Fr.snoc X8 N7 g_b3
    refine own_via st8 ?_
    show own_Rch p.tables e below (T8.setTop (mkF m 45 #[.val (.int p1), .val (.int p2), .unset, .unset, .unset] [(.ref b3)])) _
    refine own_via (fun t k => XS.dup X8.here hx rfl (hb hby at_45) rfl rfl k) ?_
    show own_Rch p.tables e below (T8.setTop (mkF m 46 #[.val (.int p1), .val (.int p2), .unset, .unset, .unset] [(.ref b3), (.ref b3)])) _
    refine own_via (fun t k => XS.iconst X8.here hx rfl (hb hby at_46) k) ?_
    show own_Rch p.tables e below (T8.setTop (mkF m 47 #[.val (.int p1), .val (.int p2), .unset, .unset, .unset] [(.int (5 : Int32)), (.ref b3), (.ref b3)])) _
    refine own_via (fun t k => XS.bipush X8.here hx rfl (hb hby at_47) k) ?_
    show own_Rch p.tables e below (T8.setTop (mkF m 49 #[.val (.int p1), .val (.int p2), .unset, .unset, .unset] [(.int (32 : Int32)), (.int (5 : Int32)), (.ref b3), (.ref b3)])) _
    obtain ⟨cl9, Ar9, q9, S9, M9, H9, G9⟩ := V8'
    have hin9 : ¬ ((5 : Int32) < 0 ∨ cl9.slots.size ≤ ((5 : Int32)).toNatClampNeg) := inb_of S9 ⟨by decide, by decide⟩
    obtain ⟨T9, h9, X9, e9, W9, st9⟩ := stI X8 hx hZ e8 Ar9 (j := (5 : Int32)) hin9 (g := (mkF m 49 #[.val (.int p1), .val (.int p2), .unset, .unset, .unset] [(.int (32 : Int32)), (.int (5 : Int32)), (.ref b3), (.ref b3)])) rfl rfl (hb hby at_49)
    have V9 := Arv.set Ar9 q9 S9 M9 H9 G9 rfl W9 5 rfl (Nat.le_of_ble_eq_true rfl)
    have V9' : Arv Z h9 b3 k3 .int (15 : Int32) [(.int (0 : Int32)), (.int (9 : Int32)), (.int (10 : Int32)), (.int (13 : Int32)), (.int (31 : Int32)), (.int (32 : Int32)), (.int (0 : Int32)), (.int (0 : Int32)), (.int (0 : Int32)), (.int (0 : Int32)), (.int (0 : Int32)), (.int (0 : Int32)), (.int (0 : Int32)), (.int (0 : Int32)), (.int (0 : Int32))] (.int (0 : Int32)) := V9
    have N9 := Fr.snoc X9 N8 g_b3
    refine own_via st9 ?_
    show own_Rch p.tables e below (T9.setTop (mkF m 50 #[.val (.int p1), .val (.int p2), .unset, .unset, .unset] [(.ref b3)])) _
    refine own_via (fun t k => XS.dup X9.here hx rfl (hb hby at_50) rfl rfl k) ?_
    show own_Rch p.tables e below (T9.setTop (mkF m 51 #[.val (.int p1), .val (.int p2), .unset, .unset, .unset] [(.ref b3), (.ref b3)])) _
    refine own_via (fun t k => XS.bipush X9.here hx rfl (hb hby at_51) k) ?_
    show own_Rch p.tables e below (T9.setTop (mkF m 53 #[.val (.int p1), .val (.int p2), .unset, .unset, .unset] [(.int (6 : Int32)), (.ref b3), (.ref b3)])) _
    refine own_via (X9.ldcInt hx hown (mvT hZ (hw _ (List.mem_of_getElem? (i := 1) rfl))) (g := (mkF m 53 #[.val (.int p1), .val (.int p2), .unset, .unset, .unset] [(.int (6 : Int32)), (.ref b3), (.ref b3)])) rfl (hb hby at_53)) ?_
    show own_Rch p.tables e below (T9.setTop (mkF m 55 #[.val (.int p1), .val (.int p2), .unset, .unset, .unset] [(.int (55295 : Int32)), (.int (6 : Int32)), (.ref b3), (.ref b3)])) _
    obtain ⟨cl10, Ar10, q10, S10, M10, H10, G10⟩ := V9'
    have hin10 : ¬ ((6 : Int32) < 0 ∨ cl10.slots.size ≤ ((6 : Int32)).toNatClampNeg) := inb_of S10 ⟨by decide, by decide⟩
    obtain ⟨T10, h10, X10, e10, W10, st10⟩ := stI X9 hx hZ e9 Ar10 (j := (6 : Int32)) hin10 (g := (mkF m 55 #[.val (.int p1), .val (.int p2), .unset, .unset, .unset] [(.int (55295 : Int32)), (.int (6 : Int32)), (.ref b3), (.ref b3)])) rfl rfl (hb hby at_55)
    have V10 := Arv.set Ar10 q10 S10 M10 H10 G10 rfl W10 6 rfl (Nat.le_of_ble_eq_true rfl)
    have V10' : Arv Z h10 b3 k3 .int (15 : Int32) [(.int (0 : Int32)), (.int (9 : Int32)), (.int (10 : Int32)), (.int (13 : Int32)), (.int (31 : Int32)), (.int (32 : Int32)), (.int (55295 : Int32)), (.int (0 : Int32)), (.int (0 : Int32)), (.int (0 : Int32)), (.int (0 : Int32)), (.int (0 : Int32)), (.int (0 : Int32)), (.int (0 : Int32)), (.int (0 : Int32))] (.int (0 : Int32)) := V10
    have N10 := Fr.snoc X10 N9 g_b3
    refine own_via st10 ?_
    show own_Rch p.tables e below (T10.setTop (mkF m 56 #[.val (.int p1), .val (.int p2), .unset, .unset, .unset] [(.ref b3)])) _
    refine own_via (fun t k => XS.dup X10.here hx rfl (hb hby at_56) rfl rfl k) ?_
    show own_Rch p.tables e below (T10.setTop (mkF m 57 #[.val (.int p1), .val (.int p2), .unset, .unset, .unset] [(.ref b3), (.ref b3)])) _
    refine own_via (fun t k => XS.bipush X10.here hx rfl (hb hby at_57) k) ?_
    show own_Rch p.tables e below (T10.setTop (mkF m 59 #[.val (.int p1), .val (.int p2), .unset, .unset, .unset] [(.int (7 : Int32)), (.ref b3), (.ref b3)])) _
    refine own_via (X10.ldcInt hx hown (mvT hZ (hw _ (List.mem_of_getElem? (i := 2) rfl))) (g := (mkF m 59 #[.val (.int p1), .val (.int p2), .unset, .unset, .unset] [(.int (7 : Int32)), (.ref b3), (.ref b3)])) rfl (hb hby at_59)) ?_
    show own_Rch p.tables e below (T10.setTop (mkF m 61 #[.val (.int p1), .val (.int p2), .unset, .unset, .unset] [(.int (55296 : Int32)), (.int (7 : Int32)), (.ref b3), (.ref b3)])) _
    obtain ⟨cl11, Ar11, q11, S11, M11, H11, G11⟩ := V10'
    have hin11 : ¬ ((7 : Int32) < 0 ∨ cl11.slots.size ≤ ((7 : Int32)).toNatClampNeg) := inb_of S11 ⟨by decide, by decide⟩
    obtain ⟨T11, h11, X11, e11, W11, st11⟩ := stI X10 hx hZ e10 Ar11 (j := (7 : Int32)) hin11 (g := (mkF m 61 #[.val (.int p1), .val (.int p2), .unset, .unset, .unset] [(.int (55296 : Int32)), (.int (7 : Int32)), (.ref b3), (.ref b3)])) rfl rfl (hb hby at_61)
    have V11 := Arv.set Ar11 q11 S11 M11 H11 G11 rfl W11 7 rfl (Nat.le_of_ble_eq_true rfl)
    have V11' : Arv Z h11 b3 k3 .int (15 : Int32) [(.int (0 : Int32)), (.int (9 : Int32)), (.int (10 : Int32)), (.int (13 : Int32)), (.int (31 : Int32)), (.int (32 : Int32)), (.int (55295 : Int32)), (.int (55296 : Int32)), (.int (0 : Int32)), (.int (0 : Int32)), (.int (0 : Int32)), (.int (0 : Int32)), (.int (0 : Int32)), (.int (0 : Int32)), (.int (0 : Int32))] (.int (0 : Int32)) := V11
    have N11 := Fr.snoc X11 N10 g_b3
    refine own_via st11 ?_
    show own_Rch p.tables e below (T11.setTop (mkF m 62 #[.val (.int p1), .val (.int p2), .unset, .unset, .unset] [(.ref b3)])) _
    refine own_via (fun t k => XS.dup X11.here hx rfl (hb hby at_62) rfl rfl k) ?_
    show own_Rch p.tables e below (T11.setTop (mkF m 63 #[.val (.int p1), .val (.int p2), .unset, .unset, .unset] [(.ref b3), (.ref b3)])) _
    refine own_via (fun t k => XS.bipush X11.here hx rfl (hb hby at_63) k) ?_
    show own_Rch p.tables e below (T11.setTop (mkF m 65 #[.val (.int p1), .val (.int p2), .unset, .unset, .unset] [(.int (8 : Int32)), (.ref b3), (.ref b3)])) _
    refine own_via (X11.ldcInt hx hown (mvT hZ (hw _ (List.mem_of_getElem? (i := 3) rfl))) (g := (mkF m 65 #[.val (.int p1), .val (.int p2), .unset, .unset, .unset] [(.int (8 : Int32)), (.ref b3), (.ref b3)])) rfl (hb hby at_65)) ?_
    show own_Rch p.tables e below (T11.setTop (mkF m 67 #[.val (.int p1), .val (.int p2), .unset, .unset, .unset] [(.int (57343 : Int32)), (.int (8 : Int32)), (.ref b3), (.ref b3)])) _
    obtain ⟨cl12, Ar12, q12, S12, M12, H12, G12⟩ := V11'
    have hin12 : ¬ ((8 : Int32) < 0 ∨ cl12.slots.size ≤ ((8 : Int32)).toNatClampNeg) := inb_of S12 ⟨by decide, by decide⟩
    obtain ⟨T12, h12, X12, e12, W12, st12⟩ := stI X11 hx hZ e11 Ar12 (j := (8 : Int32)) hin12 (g := (mkF m 67 #[.val (.int p1), .val (.int p2), .unset, .unset, .unset] [(.int (57343 : Int32)), (.int (8 : Int32)), (.ref b3), (.ref b3)])) rfl rfl (hb hby at_67)
    have V12 := Arv.set Ar12 q12 S12 M12 H12 G12 rfl W12 8 rfl (Nat.le_of_ble_eq_true rfl)
    have V12' : Arv Z h12 b3 k3 .int (15 : Int32) [(.int (0 : Int32)), (.int (9 : Int32)), (.int (10 : Int32)), (.int (13 : Int32)), (.int (31 : Int32)), (.int (32 : Int32)), (.int (55295 : Int32)), (.int (55296 : Int32)), (.int (57343 : Int32)), (.int (0 : Int32)), (.int (0 : Int32)), (.int (0 : Int32)), (.int (0 : Int32)), (.int (0 : Int32)), (.int (0 : Int32))] (.int (0 : Int32)) := V12
    have N12 := Fr.snoc X12 N11 g_b3
    refine own_via st12 ?_
    show own_Rch p.tables e below (T12.setTop (mkF m 68 #[.val (.int p1), .val (.int p2), .unset, .unset, .unset] [(.ref b3)])) _
    refine own_via (fun t k => XS.dup X12.here hx rfl (hb hby at_68) rfl rfl k) ?_
    show own_Rch p.tables e below (T12.setTop (mkF m 69 #[.val (.int p1), .val (.int p2), .unset, .unset, .unset] [(.ref b3), (.ref b3)])) _
    refine own_via (fun t k => XS.bipush X12.here hx rfl (hb hby at_69) k) ?_
    show own_Rch p.tables e below (T12.setTop (mkF m 71 #[.val (.int p1), .val (.int p2), .unset, .unset, .unset] [(.int (9 : Int32)), (.ref b3), (.ref b3)])) _
    refine own_via (X12.ldcInt hx hown (mvT hZ (hw _ (List.mem_of_getElem? (i := 4) rfl))) (g := (mkF m 71 #[.val (.int p1), .val (.int p2), .unset, .unset, .unset] [(.int (9 : Int32)), (.ref b3), (.ref b3)])) rfl (hb hby at_71)) ?_
    show own_Rch p.tables e below (T12.setTop (mkF m 73 #[.val (.int p1), .val (.int p2), .unset, .unset, .unset] [(.int (57344 : Int32)), (.int (9 : Int32)), (.ref b3), (.ref b3)])) _
    obtain ⟨cl13, Ar13, q13, S13, M13, H13, G13⟩ := V12'
    have hin13 : ¬ ((9 : Int32) < 0 ∨ cl13.slots.size ≤ ((9 : Int32)).toNatClampNeg) := inb_of S13 ⟨by decide, by decide⟩
    obtain ⟨T13, h13, X13, e13, W13, st13⟩ := stI X12 hx hZ e12 Ar13 (j := (9 : Int32)) hin13 (g := (mkF m 73 #[.val (.int p1), .val (.int p2), .unset, .unset, .unset] [(.int (57344 : Int32)), (.int (9 : Int32)), (.ref b3), (.ref b3)])) rfl rfl (hb hby at_73)
    have V13 := Arv.set Ar13 q13 S13 M13 H13 G13 rfl W13 9 rfl (Nat.le_of_ble_eq_true rfl)
    have V13' : Arv Z h13 b3 k3 .int (15 : Int32) [(.int (0 : Int32)), (.int (9 : Int32)), (.int (10 : Int32)), (.int (13 : Int32)), (.int (31 : Int32)), (.int (32 : Int32)), (.int (55295 : Int32)), (.int (55296 : Int32)), (.int (57343 : Int32)), (.int (57344 : Int32)), (.int (0 : Int32)), (.int (0 : Int32)), (.int (0 : Int32)), (.int (0 : Int32)), (.int (0 : Int32))] (.int (0 : Int32)) := V13
    have N13 := Fr.snoc X13 N12 g_b3
    refine own_via st13 ?_
    show own_Rch p.tables e below (T13.setTop (mkF m 74 #[.val (.int p1), .val (.int p2), .unset, .unset, .unset] [(.ref b3)])) _
    refine own_via (fun t k => XS.dup X13.here hx rfl (hb hby at_74) rfl rfl k) ?_
    show own_Rch p.tables e below (T13.setTop (mkF m 75 #[.val (.int p1), .val (.int p2), .unset, .unset, .unset] [(.ref b3), (.ref b3)])) _
    refine own_via (fun t k => XS.bipush X13.here hx rfl (hb hby at_75) k) ?_
    show own_Rch p.tables e below (T13.setTop (mkF m 77 #[.val (.int p1), .val (.int p2), .unset, .unset, .unset] [(.int (10 : Int32)), (.ref b3), (.ref b3)])) _
    refine own_via (X13.ldcInt hx hown (mvT hZ (hw _ (List.mem_of_getElem? (i := 5) rfl))) (g := (mkF m 77 #[.val (.int p1), .val (.int p2), .unset, .unset, .unset] [(.int (10 : Int32)), (.ref b3), (.ref b3)])) rfl (hb hby at_77)) ?_
    show own_Rch p.tables e below (T13.setTop (mkF m 79 #[.val (.int p1), .val (.int p2), .unset, .unset, .unset] [(.int (65533 : Int32)), (.int (10 : Int32)), (.ref b3), (.ref b3)])) _
    obtain ⟨cl14, Ar14, q14, S14, M14, H14, G14⟩ := V13'
    have hin14 : ¬ ((10 : Int32) < 0 ∨ cl14.slots.size ≤ ((10 : Int32)).toNatClampNeg) := inb_of S14 ⟨by decide, by decide⟩
    obtain ⟨T14, h14, X14, e14, W14, st14⟩ := stI X13 hx hZ e13 Ar14 (j := (10 : Int32)) hin14 (g := (mkF m 79 #[.val (.int p1), .val (.int p2), .unset, .unset, .unset] [(.int (65533 : Int32)), (.int (10 : Int32)), (.ref b3), (.ref b3)])) rfl rfl (hb hby at_79)
    have V14 := Arv.set Ar14 q14 S14 M14 H14 G14 rfl W14 10 rfl (Nat.le_of_ble_eq_true rfl)
    have V14' : Arv Z h14 b3 k3 .int (15 : Int32) [(.int (0 : Int32)), (.int (9 : Int32)), (.int (10 : Int32)), (.int (13 : Int32)), (.int (31 : Int32)), (.int (32 : Int32)), (.int (55295 : Int32)), (.int (55296 : Int32)), (.int (57343 : Int32)), (.int (57344 : Int32)), (.int (65533 : Int32)), (.int (0 : Int32)), (.int (0 : Int32)), (.int (0 : Int32)), (.int (0 : Int32))] (.int (0 : Int32)) := V14
    have N14 := Fr.snoc X14 N13 g_b3
    refine own_via st14 ?_
    show own_Rch p.tables e below (T14.setTop (mkF m 80 #[.val (.int p1), .val (.int p2), .unset, .unset, .unset] [(.ref b3)])) _
    refine own_via (fun t k => XS.dup X14.here hx rfl (hb hby at_80) rfl rfl k) ?_
    show own_Rch p.tables e below (T14.setTop (mkF m 81 #[.val (.int p1), .val (.int p2), .unset, .unset, .unset] [(.ref b3), (.ref b3)])) _
    refine own_via (fun t k => XS.bipush X14.here hx rfl (hb hby at_81) k) ?_
    show own_Rch p.tables e below (T14.setTop (mkF m 83 #[.val (.int p1), .val (.int p2), .unset, .unset, .unset] [(.int (11 : Int32)), (.ref b3), (.ref b3)])) _
    refine own_via (X14.ldcInt hx hown (mvT hZ (hw _ (List.mem_of_getElem? (i := 6) rfl))) (g := (mkF m 83 #[.val (.int p1), .val (.int p2), .unset, .unset, .unset] [(.int (11 : Int32)), (.ref b3), (.ref b3)])) rfl (hb hby at_83)) ?_
    show own_Rch p.tables e below (T14.setTop (mkF m 85 #[.val (.int p1), .val (.int p2), .unset, .unset, .unset] [(.int (65534 : Int32)), (.int (11 : Int32)), (.ref b3), (.ref b3)])) _
    obtain ⟨cl15, Ar15, q15, S15, M15, H15, G15⟩ := V14'
    have hin15 : ¬ ((11 : Int32) < 0 ∨ cl15.slots.size ≤ ((11 : Int32)).toNatClampNeg) := inb_of S15 ⟨by decide, by decide⟩
    obtain ⟨T15, h15, X15, e15, W15, st15⟩ := stI X14 hx hZ e14 Ar15 (j := (11 : Int32)) hin15 (g := (mkF m 85 #[.val (.int p1), .val (.int p2), .unset, .unset, .unset] [(.int (65534 : Int32)), (.int (11 : Int32)), (.ref b3), (.ref b3)])) rfl rfl (hb hby at_85)
    have V15 := Arv.set Ar15 q15 S15 M15 H15 G15 rfl W15 11 rfl (Nat.le_of_ble_eq_true rfl)
    have V15' : Arv Z h15 b3 k3 .int (15 : Int32) [(.int (0 : Int32)), (.int (9 : Int32)), (.int (10 : Int32)), (.int (13 : Int32)), (.int (31 : Int32)), (.int (32 : Int32)), (.int (55295 : Int32)), (.int (55296 : Int32)), (.int (57343 : Int32)), (.int (57344 : Int32)), (.int (65533 : Int32)), (.int (65534 : Int32)), (.int (0 : Int32)), (.int (0 : Int32)), (.int (0 : Int32))] (.int (0 : Int32)) := V15
    have N15 := Fr.snoc X15 N14 g_b3
    refine own_via st15 ?_
    show own_Rch p.tables e below (T15.setTop (mkF m 86 #[.val (.int p1), .val (.int p2), .unset, .unset, .unset] [(.ref b3)])) _
    refine own_via (fun t k => XS.dup X15.here hx rfl (hb hby at_86) rfl rfl k) ?_
    show own_Rch p.tables e below (T15.setTop (mkF m 87 #[.val (.int p1), .val (.int p2), .unset, .unset, .unset] [(.ref b3), (.ref b3)])) _
    refine own_via (fun t k => XS.bipush X15.here hx rfl (hb hby at_87) k) ?_
    show own_Rch p.tables e below (T15.setTop (mkF m 89 #[.val (.int p1), .val (.int p2), .unset, .unset, .unset] [(.int (12 : Int32)), (.ref b3), (.ref b3)])) _
    refine own_via (X15.ldcInt hx hown (mvT hZ (hw _ (List.mem_of_getElem? (i := 7) rfl))) (g := (mkF m 89 #[.val (.int p1), .val (.int p2), .unset, .unset, .unset] [(.int (12 : Int32)), (.ref b3), (.ref b3)])) rfl (hb hby at_89)) ?_
    show own_Rch p.tables e below (T15.setTop (mkF m 91 #[.val (.int p1), .val (.int p2), .unset, .unset, .unset] [(.int (65535 : Int32)), (.int (12 : Int32)), (.ref b3), (.ref b3)])) _
    obtain ⟨cl16, Ar16, q16, S16, M16, H16, G16⟩ := V15'
    have hin16 : ¬ ((12 : Int32) < 0 ∨ cl16.slots.size ≤ ((12 : Int32)).toNatClampNeg) := inb_of S16 ⟨by decide, by decide⟩
    obtain ⟨T16, h16, X16, e16, W16, st16⟩ := stI X15 hx hZ e15 Ar16 (j := (12 : Int32)) hin16 (g := (mkF m 91 #[.val (.int p1), .val (.int p2), .unset, .unset, .unset] [(.int (65535 : Int32)), (.int (12 : Int32)), (.ref b3), (.ref b3)])) rfl rfl (hb hby at_91)
    have V16 := Arv.set Ar16 q16 S16 M16 H16 G16 rfl W16 12 rfl (Nat.le_of_ble_eq_true rfl)
    have V16' : Arv Z h16 b3 k3 .int (15 : Int32) [(.int (0 : Int32)), (.int (9 : Int32)), (.int (10 : Int32)), (.int (13 : Int32)), (.int (31 : Int32)), (.int (32 : Int32)), (.int (55295 : Int32)), (.int (55296 : Int32)), (.int (57343 : Int32)), (.int (57344 : Int32)), (.int (65533 : Int32)), (.int (65534 : Int32)), (.int (65535 : Int32)), (.int (0 : Int32)), (.int (0 : Int32))] (.int (0 : Int32)) := V16
    have N16 := Fr.snoc X16 N15 g_b3
    refine own_via st16 ?_
    show own_Rch p.tables e below (T16.setTop (mkF m 92 #[.val (.int p1), .val (.int p2), .unset, .unset, .unset] [(.ref b3)])) _
    refine own_via (fun t k => XS.dup X16.here hx rfl (hb hby at_92) rfl rfl k) ?_
    show own_Rch p.tables e below (T16.setTop (mkF m 93 #[.val (.int p1), .val (.int p2), .unset, .unset, .unset] [(.ref b3), (.ref b3)])) _
    refine own_via (fun t k => XS.bipush X16.here hx rfl (hb hby at_93) k) ?_
    show own_Rch p.tables e below (T16.setTop (mkF m 95 #[.val (.int p1), .val (.int p2), .unset, .unset, .unset] [(.int (13 : Int32)), (.ref b3), (.ref b3)])) _
    refine own_via (X16.ldcInt hx hown (mvT hZ (hw _ (List.mem_of_getElem? (i := 8) rfl))) (g := (mkF m 95 #[.val (.int p1), .val (.int p2), .unset, .unset, .unset] [(.int (13 : Int32)), (.ref b3), (.ref b3)])) rfl (hb hby at_95)) ?_
    show own_Rch p.tables e below (T16.setTop (mkF m 97 #[.val (.int p1), .val (.int p2), .unset, .unset, .unset] [(.int (65536 : Int32)), (.int (13 : Int32)), (.ref b3), (.ref b3)])) _
    obtain ⟨cl17, Ar17, q17, S17, M17, H17, G17⟩ := V16'
    have hin17 : ¬ ((13 : Int32) < 0 ∨ cl17.slots.size ≤ ((13 : Int32)).toNatClampNeg) := inb_of S17 ⟨by decide, by decide⟩
    obtain ⟨T17, h17, X17, e17, W17, st17⟩ := stI X16 hx hZ e16 Ar17 (j := (13 : Int32)) hin17 (g := (mkF m 97 #[.val (.int p1), .val (.int p2), .unset, .unset, .unset] [(.int (65536 : Int32)), (.int (13 : Int32)), (.ref b3), (.ref b3)])) rfl rfl (hb hby at_97)
    have V17 := Arv.set Ar17 q17 S17 M17 H17 G17 rfl W17 13 rfl (Nat.le_of_ble_eq_true rfl)
    have V17' : Arv Z h17 b3 k3 .int (15 : Int32) [(.int (0 : Int32)), (.int (9 : Int32)), (.int (10 : Int32)), (.int (13 : Int32)), (.int (31 : Int32)), (.int (32 : Int32)), (.int (55295 : Int32)), (.int (55296 : Int32)), (.int (57343 : Int32)), (.int (57344 : Int32)), (.int (65533 : Int32)), (.int (65534 : Int32)), (.int (65535 : Int32)), (.int (65536 : Int32)), (.int (0 : Int32))] (.int (0 : Int32)) := V17
    have N17 := Fr.snoc X17 N16 g_b3
    refine own_via st17 ?_
    show own_Rch p.tables e below (T17.setTop (mkF m 98 #[.val (.int p1), .val (.int p2), .unset, .unset, .unset] [(.ref b3)])) _
    refine own_via (fun t k => XS.dup X17.here hx rfl (hb hby at_98) rfl rfl k) ?_
    show own_Rch p.tables e below (T17.setTop (mkF m 99 #[.val (.int p1), .val (.int p2), .unset, .unset, .unset] [(.ref b3), (.ref b3)])) _
    refine own_via (fun t k => XS.bipush X17.here hx rfl (hb hby at_99) k) ?_
    show own_Rch p.tables e below (T17.setTop (mkF m 101 #[.val (.int p1), .val (.int p2), .unset, .unset, .unset] [(.int (14 : Int32)), (.ref b3), (.ref b3)])) _
    refine own_via (X17.ldcInt hx hown (mvT hZ (hw _ (List.mem_of_getElem? (i := 9) rfl))) (g := (mkF m 101 #[.val (.int p1), .val (.int p2), .unset, .unset, .unset] [(.int (14 : Int32)), (.ref b3), (.ref b3)])) rfl (hb hby at_101)) ?_
    show own_Rch p.tables e below (T17.setTop (mkF m 103 #[.val (.int p1), .val (.int p2), .unset, .unset, .unset] [(.int (1114111 : Int32)), (.int (14 : Int32)), (.ref b3), (.ref b3)])) _
    obtain ⟨cl18, Ar18, q18, S18, M18, H18, G18⟩ := V17'
    have hin18 : ¬ ((14 : Int32) < 0 ∨ cl18.slots.size ≤ ((14 : Int32)).toNatClampNeg) := inb_of S18 ⟨by decide, by decide⟩
    obtain ⟨T18, h18, X18, e18, W18, st18⟩ := stI X17 hx hZ e17 Ar18 (j := (14 : Int32)) hin18 (g := (mkF m 103 #[.val (.int p1), .val (.int p2), .unset, .unset, .unset] [(.int (1114111 : Int32)), (.int (14 : Int32)), (.ref b3), (.ref b3)])) rfl rfl (hb hby at_103)
    have V18 := Arv.set Ar18 q18 S18 M18 H18 G18 rfl W18 14 rfl (Nat.le_of_ble_eq_true rfl)
    have V18' : Arv Z h18 b3 k3 .int (15 : Int32) [(.int (0 : Int32)), (.int (9 : Int32)), (.int (10 : Int32)), (.int (13 : Int32)), (.int (31 : Int32)), (.int (32 : Int32)), (.int (55295 : Int32)), (.int (55296 : Int32)), (.int (57343 : Int32)), (.int (57344 : Int32)), (.int (65533 : Int32)), (.int (65534 : Int32)), (.int (65535 : Int32)), (.int (65536 : Int32)), (.int (1114111 : Int32))] (.int (0 : Int32)) := V18
    have N18 := Fr.snoc X18 N17 g_b3
    refine own_via st18 ?_
    show own_Rch p.tables e below (T18.setTop (mkF m 104 #[.val (.int p1), .val (.int p2), .unset, .unset, .unset] [(.ref b3)])) _
    refine own_via (fun t k => XS.astoreN X18.here hx rfl (hb hby at_104) rfl rfl (l' := #[.val (.int p1), .val (.int p2), .unset, .val (.ref b3), .unset]) rfl k) ?_
    show own_Rch p.tables e below (T18.setTop (mkF m 105 #[.val (.int p1), .val (.int p2), .unset, .val (.ref b3), .unset] [])) _
    refine own_via (fun t k => XS.aloadN X18.here hx rfl (hb hby at_105) rfl rfl k) ?_
    show own_Rch p.tables e below (T18.setTop (mkF m 106 #[.val (.int p1), .val (.int p2), .unset, .val (.ref b3), .unset] [(.ref b3)])) _
    refine own_via (fun t k => XS.iloadN X18.here hx rfl (hb hby at_106) rfl k) ?_
    show own_Rch p.tables e below (T18.setTop (mkF m 107 #[.val (.int p1), .val (.int p2), .unset, .val (.ref b3), .unset] [(.int p2), (.ref b3)])) _
    refine own_via (fun t k => XS.iconst X18.here hx rfl (hb hby at_107) k) ?_
    show own_Rch p.tables e below (T18.setTop (mkF m 108 #[.val (.int p1), .val (.int p2), .unset, .val (.ref b3), .unset] [(.int (1 : Int32)), (.int p2), (.ref b3)])) _
    refine own_via (fun t k => XS.iushr X18.here hx rfl (hb hby at_108) rfl k) ?_
    show own_Rch p.tables e below (T18.setTop (mkF m 109 #[.val (.int p1), .val (.int p2), .unset, .val (.ref b3), .unset] [(.int ((p2.toUInt32 >>> ((1 : Int32) &&& 31).toUInt32).toInt32)), (.ref b3)])) _
    refine own_via (fun t k => XS.bipush X18.here hx rfl (hb hby at_109) k) ?_
    show own_Rch p.tables e below (T18.setTop (mkF m 111 #[.val (.int p1), .val (.int p2), .unset, .val (.ref b3), .unset] [(.int (15 : Int32)), (.int ((p2.toUInt32 >>> ((1 : Int32) &&& 31).toUInt32).toInt32)), (.ref b3)])) _
    refine own_via (fun t k => iremM X18 hx rfl (hb hby at_111) rfl (by decide) k) ?_
    show own_Rch p.tables e below (T18.setTop (mkF m 112 #[.val (.int p1), .val (.int p2), .unset, .val (.ref b3), .unset] [(.int (((p2.toUInt32 >>> ((1 : Int32) &&& 31).toUInt32).toInt32) % (15 : Int32))), (.ref b3)])) _
    obtain ⟨cl19, Ar19, -, S19, M19, H19, -⟩ := V18'
    have hin19 : ¬ ((((p2.toUInt32 >>> ((1 : Int32) &&& 31).toUInt32).toInt32) % (15 : Int32)) < 0 ∨ cl19.slots.size ≤ ((((p2.toUInt32 >>> ((1 : Int32) &&& 31).toUInt32).toInt32) % (15 : Int32))).toNatClampNeg) := inb_of S19 (own_ix _)
    obtain ⟨w19, hat19⟩ : ∃ w : Int32, cl19.slots[((((p2.toUInt32 >>> ((1 : Int32) &&& 31).toUInt32).toInt32) % (15 : Int32))).toNatClampNeg]? = some (.int w) := ⟨_, Has.at H19 hin19 (own_getI [(0 : Int32), (9 : Int32), (10 : Int32), (13 : Int32), (31 : Int32), (32 : Int32), (55295 : Int32), (55296 : Int32), (57343 : Int32), (57344 : Int32), (65533 : Int32), (65534 : Int32), (65535 : Int32), (65536 : Int32), (1114111 : Int32)] _)⟩
    refine own_via (X18.iaload hx (j := (((p2.toUInt32 >>> ((1 : Int32) &&& 31).toUInt32).toInt32) % (15 : Int32))) (v := (.int w19)) (by rw [e18]; exact Ar19.1) (State.isArrayOf_alike hZ.alike Ar19.2.1) Ar19.2.2 hin19 hat19 (g := (mkF m 112 #[.val (.int p1), .val (.int p2), .unset, .val (.ref b3), .unset] [(.int (((p2.toUInt32 >>> ((1 : Int32) &&& 31).toUInt32).toInt32) % (15 : Int32))), (.ref b3)])) rfl rfl (hb hby at_112)) ?_
    show own_Rch p.tables e below (T18.setTop (mkF m 113 #[.val (.int p1), .val (.int p2), .unset, .val (.ref b3), .unset] [(.int w19)])) _
    refine own_via (fun t k => XS.istore X18.here hx rfl (hb hby at_113) rfl (l' := #[.val (.int p1), .val (.int p2), .unset, .val (.ref b3), .val (.int w19)]) rfl k) ?_
    show own_Rch p.tables e below (T18.setTop (mkF m 115 #[.val (.int p1), .val (.int p2), .unset, .val (.ref b3), .val (.int w19)] [])) _
    refine own_via (fun t k => XS.iload X18.here hx rfl (hb hby at_115) rfl k) ?_
    show own_Rch p.tables e below (T18.setTop (mkF m 117 #[.val (.int p1), .val (.int p2), .unset, .val (.ref b3), .val (.int w19)] [(.int w19)])) _
    refine own_via (fun t k => XS.iloadN X18.here hx rfl (hb hby at_117) rfl k) ?_
    show own_Rch p.tables e below (T18.setTop (mkF m 118 #[.val (.int p1), .val (.int p2), .unset, .val (.ref b3), .val (.int w19)] [(.int p1), (.int w19)])) _
    refine own_via (fun t k => XS.bipush X18.here hx rfl (hb hby at_118) k) ?_
    show own_Rch p.tables e below (T18.setTop (mkF m 120 #[.val (.int p1), .val (.int p2), .unset, .val (.ref b3), .val (.int w19)] [(.int (7 : Int32)), (.int p1), (.int w19)])) _
    refine own_via (fun t k => XS.iand X18.here hx rfl (hb hby at_120) rfl k) ?_
    show own_Rch p.tables e below (T18.setTop (mkF m 121 #[.val (.int p1), .val (.int p2), .unset, .val (.ref b3), .val (.int w19)] [(.int (p1 &&& (7 : Int32))), (.int w19)])) _
    refine own_via (fun t k => XS.iconst X18.here hx rfl (hb hby at_121) k) ?_
    show own_Rch p.tables e below (T18.setTop (mkF m 122 #[.val (.int p1), .val (.int p2), .unset, .val (.ref b3), .val (.int w19)] [(.int (3 : Int32)), (.int (p1 &&& (7 : Int32))), (.int w19)])) _
    refine own_via (fun t k => XS.isub X18.here hx rfl (hb hby at_122) rfl k) ?_
    show own_Rch p.tables e below (T18.setTop (mkF m 123 #[.val (.int p1), .val (.int p2), .unset, .val (.ref b3), .val (.int w19)] [(.int ((p1 &&& (7 : Int32)) - (3 : Int32))), (.int w19)])) _
    refine own_via (fun t k => XS.iadd X18.here hx rfl (hb hby at_123) rfl k) ?_
    show own_Rch p.tables e below (T18.setTop (mkF m 124 #[.val (.int p1), .val (.int p2), .unset, .val (.ref b3), .val (.int w19)] [(.int (w19 + ((p1 &&& (7 : Int32)) - (3 : Int32))))])) _
    refine own_via (fun t k => XS.istoreN X18.here hx rfl (hb hby at_124) rfl (l' := #[.val (.int p1), .val (.int p2), .val (.int (w19 + ((p1 &&& (7 : Int32)) - (3 : Int32)))), .val (.ref b3), .val (.int w19)]) rfl k) ?_
    show own_Rch p.tables e below (T18.setTop (mkF m 125 #[.val (.int p1), .val (.int p2), .val (.int (w19 + ((p1 &&& (7 : Int32)) - (3 : Int32)))), .val (.ref b3), .val (.int w19)] [])) _
    refine own_via (fun t k => XS.iconst X18.here hx rfl (hb hby at_125) k) ?_
    show own_Rch p.tables e below (T18.setTop (mkF m 126 #[.val (.int p1), .val (.int p2), .val (.int (w19 + ((p1 &&& (7 : Int32)) - (3 : Int32)))), .val (.ref b3), .val (.int w19)] [(.int (0 : Int32))])) _
    refine own_via (X18.ldcInt hx hown (mvT hZ (hw _ (List.mem_of_getElem? (i := 9) rfl))) (g := (mkF m 126 #[.val (.int p1), .val (.int p2), .val (.int (w19 + ((p1 &&& (7 : Int32)) - (3 : Int32)))), .val (.ref b3), .val (.int w19)] [(.int (0 : Int32))])) rfl (hb hby at_126)) ?_
    show own_Rch p.tables e below (T18.setTop (mkF m 128 #[.val (.int p1), .val (.int p2), .val (.int (w19 + ((p1 &&& (7 : Int32)) - (3 : Int32)))), .val (.ref b3), .val (.int w19)] [(.int (1114111 : Int32)), (.int (0 : Int32))])) _
    refine own_via (fun t k => XS.iloadN X18.here hx rfl (hb hby at_128) rfl k) ?_
    show own_Rch p.tables e below (T18.setTop (mkF m 129 #[.val (.int p1), .val (.int p2), .val (.int (w19 + ((p1 &&& (7 : Int32)) - (3 : Int32)))), .val (.ref b3), .val (.int w19)] [(.int (w19 + ((p1 &&& (7 : Int32)) - (3 : Int32)))), (.int (1114111 : Int32)), (.int (0 : Int32))])) _
    obtain ⟨_, _, ⟨T20, L20, k20, n20⟩, -, X20, ⟨Lc20, hQ20, l20, y20, z20⟩, st20⟩ := Jvm.LawKit.callS X18 hx (y := (⟨"java/lang/Math", "min", "(II)I"⟩ : MethodName)) hown (mvT hZ (hw _ (List.mem_of_getElem? (i := 10) rfl))) (mvT hZ (hw _ (List.mem_of_getElem? (i := 11) rfl))) (mvT hZ (hw _ (List.mem_of_getElem? (i := 12) rfl))) (mvT hZ (hw _ (List.mem_of_getElem? (i := 13) rfl))) (by decide) (backOf (W := 1) (rm1 l Z a0 hw [] (1114111 : Int32) (w19 + ((p1 &&& (7 : Int32)) - (3 : Int32))) h18 n0) hZ (hw _ (List.mem_of_getElem? (i := 13) rfl)) (hw _ (List.mem_of_getElem? (i := 12) rfl)) (by decide) (by decide)) (g := (mkF m 129 #[.val (.int p1), .val (.int p2), .val (.int (w19 + ((p1 &&& (7 : Int32)) - (3 : Int32)))), .val (.ref b3), .val (.int w19)] [(.int (w19 + ((p1 &&& (7 : Int32)) - (3 : Int32)))), (.int (1114111 : Int32)), (.int (0 : Int32))])) rfl (by rw [hml]; rfl) (argsL := [(.int (1114111 : Int32)), (.int (w19 + ((p1 &&& (7 : Int32)) - (3 : Int32))))]) (rest := [(.int (0 : Int32))]) (lenOf pd_1 rfl) rfl (by show 2 * 0 + _ ≤ _; exact Nat.le_of_eq rfl) (hb hby at_129) (fun _ _ => ⟨rfl, e18, (by decide : 1 + 0 ≤ _), (by decide : 15 + 0 ≤ _)⟩)
    dsimp only [Pt.U, Pt.locs, Pt.cells, Pt.slots] at X20 l20 y20 z20 st20 hQ20
    subst l20 y20 z20
    obtain ⟨rfl, N20q, eh20⟩ := hQ20
    have N20 := Fr.app N18 N20q
    refine own_via st20 ?_
    show own_Rch p.tables e below (T20.setTop (mkF m 132 #[.val (.int p1), .val (.int p2), .val (.int (w19 + ((p1 &&& (7 : Int32)) - (3 : Int32)))), .val (.ref b3), .val (.int w19)] [(.int (own_min (1114111 : Int32) (w19 + ((p1 &&& (7 : Int32)) - (3 : Int32))))), (.int (0 : Int32))])) _
    obtain ⟨_, _, ⟨T21, L21, k21, n21⟩, -, X21, ⟨Lc21, hQ21, l21, y21, z21⟩, st21⟩ := Jvm.LawKit.callS X20 hx (y := (⟨"java/lang/Math", "max", "(II)I"⟩ : MethodName)) hown (mvT hZ (hw _ (List.mem_of_getElem? (i := 14) rfl))) (mvT hZ (hw _ (List.mem_of_getElem? (i := 15) rfl))) (mvT hZ (hw _ (List.mem_of_getElem? (i := 12) rfl))) (mvT hZ (hw _ (List.mem_of_getElem? (i := 16) rfl))) (by decide) (backOf (W := 0) (rm2 l Z a0 hw [] (0 : Int32) (own_min (1114111 : Int32) (w19 + ((p1 &&& (7 : Int32)) - (3 : Int32)))) h18 n0) hZ (hw _ (List.mem_of_getElem? (i := 16) rfl)) (hw _ (List.mem_of_getElem? (i := 12) rfl)) (by decide) (by decide)) (g := (mkF m 132 #[.val (.int p1), .val (.int p2), .val (.int (w19 + ((p1 &&& (7 : Int32)) - (3 : Int32)))), .val (.ref b3), .val (.int w19)] [(.int (own_min (1114111 : Int32) (w19 + ((p1 &&& (7 : Int32)) - (3 : Int32))))), (.int (0 : Int32))])) rfl (by rw [hml]; rfl) (argsL := [(.int (0 : Int32)), (.int (own_min (1114111 : Int32) (w19 + ((p1 &&& (7 : Int32)) - (3 : Int32)))))]) (rest := []) (lenOf pd_1 rfl) rfl (by show 2 * 0 + _ ≤ _; exact Nat.le_of_eq rfl) (hb hby at_132) (fun _ _ => ⟨rfl, eh20, (by decide : 1 + 0 ≤ _), (by decide : 15 + 0 ≤ _)⟩)
    dsimp only [Pt.U, Pt.locs, Pt.cells, Pt.slots] at X21 l21 y21 z21 st21 hQ21
    subst l21 y21 z21
    obtain ⟨rfl, N21q, eh21⟩ := hQ21
    have N21 := Fr.app N20 N21q
    refine own_via st21 ?_
    show own_Rch p.tables e below (T21.setTop (mkF m 135 #[.val (.int p1), .val (.int p2), .val (.int (w19 + ((p1 &&& (7 : Int32)) - (3 : Int32)))), .val (.ref b3), .val (.int w19)] [(.int (own_max (0 : Int32) (own_min (1114111 : Int32) (w19 + ((p1 &&& (7 : Int32)) - (3 : Int32))))))])) _
    refine own_via (fun t k => XS.istoreN X21.here hx rfl (hb hby at_135) rfl (l' := #[.val (.int p1), .val (.int p2), .val (.int (own_max (0 : Int32) (own_min (1114111 : Int32) (w19 + ((p1 &&& (7 : Int32)) - (3 : Int32)))))), .val (.ref b3), .val (.int w19)]) rfl k) ?_
    show own_Rch p.tables e below (T21.setTop (mkF m 136 #[.val (.int p1), .val (.int p2), .val (.int (own_max (0 : Int32) (own_min (1114111 : Int32) (w19 + ((p1 &&& (7 : Int32)) - (3 : Int32)))))), .val (.ref b3), .val (.int w19)] [])) _
    refine own_via (fun t k => XS.iloadN X21.here hx rfl (hb hby at_136) rfl k) ?_
    show own_Rch p.tables e below (T21.setTop (mkF m 137 #[.val (.int p1), .val (.int p2), .val (.int (own_max (0 : Int32) (own_min (1114111 : Int32) (w19 + ((p1 &&& (7 : Int32)) - (3 : Int32)))))), .val (.ref b3), .val (.int w19)] [(.int (own_max (0 : Int32) (own_min (1114111 : Int32) (w19 + ((p1 &&& (7 : Int32)) - (3 : Int32))))))])) _
    obtain ⟨_, _, ⟨T22, L22, k22, n22⟩, -, X22, ⟨Lc22, hQ22, l22, y22, z22⟩, st22⟩ := Jvm.LawKit.callS X21 hx (y := (⟨"org/rolepath/io/HierarchyWriter", "isXmlChar", "(I)Z"⟩ : MethodName)) hown (mvT hZ (hw _ (List.mem_of_getElem? (i := 17) rfl))) (mvT hZ (hw _ (List.mem_of_getElem? (i := 18) rfl))) (mvT hZ (hw _ (List.mem_of_getElem? (i := 19) rfl))) (mvT hZ (hw _ (List.mem_of_getElem? (i := 20) rfl))) (by decide) (backOf (W := 0) (rm3 l Z a0 hw [] (own_max (0 : Int32) (own_min (1114111 : Int32) (w19 + ((p1 &&& (7 : Int32)) - (3 : Int32))))) h18 n0) hZ (hw _ (List.mem_of_getElem? (i := 20) rfl)) (hw _ (List.mem_of_getElem? (i := 19) rfl)) (by decide) (by decide)) (g := (mkF m 137 #[.val (.int p1), .val (.int p2), .val (.int (own_max (0 : Int32) (own_min (1114111 : Int32) (w19 + ((p1 &&& (7 : Int32)) - (3 : Int32)))))), .val (.ref b3), .val (.int w19)] [(.int (own_max (0 : Int32) (own_min (1114111 : Int32) (w19 + ((p1 &&& (7 : Int32)) - (3 : Int32))))))])) rfl (by rw [hml]; rfl) (argsL := [(.int (own_max (0 : Int32) (own_min (1114111 : Int32) (w19 + ((p1 &&& (7 : Int32)) - (3 : Int32))))))]) (rest := []) (lenOf pd_0 rfl) rfl (by show 2 * 0 + _ ≤ _; exact Nat.le_of_eq rfl) (hb hby at_137) (fun _ _ => ⟨rfl, eh21, (by decide : 1 + 0 ≤ _), (by decide : 15 + 0 ≤ _)⟩)
    dsimp only [Pt.U, Pt.locs, Pt.cells, Pt.slots] at X22 l22 y22 z22 st22 hQ22
    subst l22 y22 z22
    obtain ⟨rfl, N22q, eh22⟩ := hQ22
    have N22 := Fr.app N21 N22q
    refine own_via st22 ?_
    show own_Rch p.tables e below (T22.setTop (mkF m 140 #[.val (.int p1), .val (.int p2), .val (.int (own_max (0 : Int32) (own_min (1114111 : Int32) (w19 + ((p1 &&& (7 : Int32)) - (3 : Int32)))))), .val (.ref b3), .val (.int w19)] [(.int (own_isXml (own_max (0 : Int32) (own_min (1114111 : Int32) (w19 + ((p1 &&& (7 : Int32)) - (3 : Int32)))))))])) _
    refine own_via (fun t k => XS.iloadN X22.here hx rfl (hb hby at_140) rfl k) ?_
    show own_Rch p.tables e below (T22.setTop (mkF m 141 #[.val (.int p1), .val (.int p2), .val (.int (own_max (0 : Int32) (own_min (1114111 : Int32) (w19 + ((p1 &&& (7 : Int32)) - (3 : Int32)))))), .val (.ref b3), .val (.int w19)] [(.int (own_max (0 : Int32) (own_min (1114111 : Int32) (w19 + ((p1 &&& (7 : Int32)) - (3 : Int32)))))), (.int (own_isXml (own_max (0 : Int32) (own_min (1114111 : Int32) (w19 + ((p1 &&& (7 : Int32)) - (3 : Int32)))))))])) _
    obtain ⟨_, _, ⟨T23, L23, k23, n23⟩, -, X23, ⟨Lc23, hQ23, l23, y23, z23⟩, st23⟩ := Jvm.LawKit.callS X22 hx (y := (⟨"org/rolepath/io/HierarchyWriterIsXmlCharPinLaw", "expected", "(I)Z"⟩ : MethodName)) hown (mvT hZ (hw _ (List.mem_of_getElem? (i := 23) rfl))) (mvT hZ (hw _ (List.mem_of_getElem? (i := 24) rfl))) (mvT hZ (hw _ (List.mem_of_getElem? (i := 25) rfl))) (mvT hZ (hw _ (List.mem_of_getElem? (i := 26) rfl))) (by decide) (backOf (W := 1) (rm4 l Z a0 hw [] (own_max (0 : Int32) (own_min (1114111 : Int32) (w19 + ((p1 &&& (7 : Int32)) - (3 : Int32))))) h18 n0) hZ (hw _ (List.mem_of_getElem? (i := 26) rfl)) (hw _ (List.mem_of_getElem? (i := 25) rfl)) (by decide) (by decide)) (g := (mkF m 141 #[.val (.int p1), .val (.int p2), .val (.int (own_max (0 : Int32) (own_min (1114111 : Int32) (w19 + ((p1 &&& (7 : Int32)) - (3 : Int32)))))), .val (.ref b3), .val (.int w19)] [(.int (own_max (0 : Int32) (own_min (1114111 : Int32) (w19 + ((p1 &&& (7 : Int32)) - (3 : Int32)))))), (.int (own_isXml (own_max (0 : Int32) (own_min (1114111 : Int32) (w19 + ((p1 &&& (7 : Int32)) - (3 : Int32)))))))])) rfl (by rw [hml]; rfl) (argsL := [(.int (own_max (0 : Int32) (own_min (1114111 : Int32) (w19 + ((p1 &&& (7 : Int32)) - (3 : Int32))))))]) (rest := [(.int (own_isXml (own_max (0 : Int32) (own_min (1114111 : Int32) (w19 + ((p1 &&& (7 : Int32)) - (3 : Int32)))))))]) (lenOf pd_0 rfl) rfl (by show 2 * 0 + _ ≤ _; exact Nat.le_of_eq rfl) (hb hby at_141) (fun _ _ => ⟨rfl, eh22, (by decide : 1 + 0 ≤ _), (by decide : 15 + 0 ≤ _)⟩)
    dsimp only [Pt.U, Pt.locs, Pt.cells, Pt.slots] at X23 l23 y23 z23 st23 hQ23
    subst l23 y23 z23
    obtain ⟨rfl, N23q, eh23⟩ := hQ23
    have N23 := Fr.app N22 N23q
    refine own_via st23 ?_
    show own_Rch p.tables e below (T23.setTop (mkF m 144 #[.val (.int p1), .val (.int p2), .val (.int (own_max (0 : Int32) (own_min (1114111 : Int32) (w19 + ((p1 &&& (7 : Int32)) - (3 : Int32)))))), .val (.ref b3), .val (.int w19)] [(.int (own_exp (own_max (0 : Int32) (own_min (1114111 : Int32) (w19 + ((p1 &&& (7 : Int32)) - (3 : Int32))))))), (.int (own_isXml (own_max (0 : Int32) (own_min (1114111 : Int32) (w19 + ((p1 &&& (7 : Int32)) - (3 : Int32)))))))])) _
    have hq : (own_isXml (own_max (0 : Int32) (own_min (1114111 : Int32) (w19 + ((p1 &&& (7 : Int32)) - (3 : Int32)))))) = (own_exp (own_max (0 : Int32) (own_min (1114111 : Int32) (w19 + ((p1 &&& (7 : Int32)) - (3 : Int32)))))) := own_same _ (own_r2 _).1 (own_r2 _).2
    refine own_via (fun t k => XS.icmpNo X23.here hx rfl (hb hby at_144) rfl (teq hq).2 k) ?_
    show own_Rch p.tables e below (T23.setTop (mkF m 147 #[.val (.int p1), .val (.int p2), .val (.int (own_max (0 : Int32) (own_min (1114111 : Int32) (w19 + ((p1 &&& (7 : Int32)) - (3 : Int32)))))), .val (.ref b3), .val (.int w19)] [])) _
    refine own_via (fun t k => XS.iconst X23.here hx rfl (hb hby at_147) k) ?_
    show own_Rch p.tables e below (T23.setTop (mkF m 148 #[.val (.int p1), .val (.int p2), .val (.int (own_max (0 : Int32) (own_min (1114111 : Int32) (w19 + ((p1 &&& (7 : Int32)) - (3 : Int32)))))), .val (.ref b3), .val (.int w19)] [(.int (1 : Int32))])) _
    refine own_via (fun t k => XS.goto X23.here hx rfl (pc0 := 148) (pc' := 152) rfl (hb hby at_148) (by decide) (by decide) k) ?_
    show own_Rch p.tables e below (T23.setTop (mkF m 152 #[.val (.int p1), .val (.int p2), .val (.int (own_max (0 : Int32) (own_min (1114111 : Int32) (w19 + ((p1 &&& (7 : Int32)) - (3 : Int32)))))), .val (.ref b3), .val (.int w19)] [(.int (1 : Int32))])) _
    exact own_fin X23 hx (t := .boolean) (i := .ireturn) Bd.returns Bd.notSynchronized rfl (Or.inl ⟨rfl, by simp, _, rfl⟩) (hb hby at_152) (by decide) (by decide) ⟨rfl, N23⟩
set_option maxRecDepth 65536 in
set_option maxHeartbeats 40000000 in
theorem comes_1 {Post : Tables → Env → Array Value → State → Outcome → State → Prop} (hpost : ∀ tb e args s v u, (limb_1_1.after args s (.returned v) u = true ∧ limb_1_2.after args s (.returned v) u = true ∧ True) → FrameEnd s (.returned v) u (Jvm.fieldLocs frame_1_writes args s ++ Jvm.arrayLocs frame_1_arrays args s ++ Jvm.staticLocs frame_1_statics s) 16 128 → Post tb e args s (.returned v) u) :
    ArmFor flags0 classFile x code maxLocals ret World_1 tables_1 room_1 Calls_1 rest_1 Pre_1 Post := by
  intro l hfl _ _ p e ha hc hk s m args below hf hA hF happ hP
  obtain ⟨hcalls, hrest, hpre⟩ := hP
  obtain ⟨-, -, -, hnamed, -, -, -, hat⟩ := (Spec.applies_iff hf).mp happ
  obtain ⟨hg, hn⟩ := and_e (Cond.before_iff.mp (show (Jvm.Cond.and given_1 narrow_1).before args s = true from hpre))
  obtain ⟨hcount, r0⟩ := and_e hg
  obtain ⟨v0, r1⟩ := and_e r0
  obtain ⟨w0, w1, rfl⟩ : ∃ w0 w1 : Value, args = #[w0, w1] := by
    have hs : args.size = 2 := by simpa [Cond.value, given_1] using hcount
    obtain ⟨L⟩ := args
    match L, hs with
    | [w0, w1], _ => exact ⟨w0, w1, rfl⟩
  have hw := fun d (hd : d ∈ tables_1) => atoms_spec (ws := Jvm.Cond.code x code maxLocals ret :: tables_1) hat d (List.mem_cons_of_mem _ hd)
  have hfit : Fit s := fun {y c} hc i hi => by
    obtain ⟨ha, rfl⟩ := Array.getElem?_eq_some_iff.mp hc
    have q := List.all_eq_true.mp ((Array.all_eq_true_iff_forall_mem.mp hF) _ (Array.getElem_mem ha)) i (List.mem_range.mpr hi)
    simpa [Array.getElem?_eq_getElem hi] using q
  obtain ⟨i0, ei0⟩ := is_v v0
  obtain rfl : w0 = (.int i0) := Option.some.inj ei0
  obtain ⟨i1, ei1⟩ := is_v r1
  obtain rfl : w1 = (.int i1) := Option.some.inj ei1
  obtain ⟨n, o, h1, h2, h3, _, L, rfl, ⟨rfl, N⟩, hq⟩ := rm0 l s _ hw tables_1 i0 i1 s.heap s.heap.size (Nat.le_refl _) p e ha hc hk s m _ below hf ((Spec.applies_iff_loose hf).mp happ).1 ⟨rfl, State.Warmed39.refl s, rfl⟩ trivial
  refine ⟨n, _, h1, h2, h3, hpost _ _ _ _ _ _ ⟨Cond.after_iff.mpr rfl, Cond.after_iff.mpr (eq_i res_at (Term.int_eval (1)) rfl), trivial⟩ ⟨hq.1, hq.2.1, (hq.2.2.sift fun y hy => Or.inr (N y hy)).mono (by decide) (by decide)⟩⟩
theorem main_1_1 : Claimed_1_1 := comes_1 fun _ _ _ _ _ _ h hF => ⟨h.1, hF⟩
theorem main_1_2 : Claimed_1_2 := comes_1 fun _ _ _ _ _ _ h hF => ⟨h.2.1, hF⟩
end Jvm.Pilot.@@N@@
namespace Jvm.Pilot.@@N@@
open Jvm Jvm.ClassFile Sem Op Lib Jvm.Free Jvm.Stand Jvm.Pilot.@@N@@.Jvm.D
/-! MADE BY PROGRAM (witnessworld.py) out of the Statement's table words and the real class files: 10 classes; the members and pool entries that the words name. The judged class is class 1, her method 1. -/
namespace start1
open Jvm.ClassFile
def u (s : String) : CpInfo := .utf8 (stringToUtf16 s)
/-- a pool by its gaps: so many unusable entries, then the entry; so many at the end -/
def gap : Nat → List CpInfo → List CpInfo
  | 0, r => r
  | n + 1, r => .unusable :: gap n r
def poolList (es : List (Nat × CpInfo)) (last : Nat) : List CpInfo := es.foldr (fun e r => gap e.1 (e.2 :: r)) (gap last [])
def pool (es : List (Nat × CpInfo)) (last : Nat) : Array CpInfo := ⟨poolList es last⟩
def fileOf (pool : Array CpInfo) (this : Nat) (attrs : Array Attribute := #[]) (ms : Array MethodInfo := #[]) (fl : Nat := 33) (sup : Nat := 0) (ifs : Array Nat := #[]) (fds : Array FieldInfo := #[]) : ClassFile where
  minorVersion := 0
  majorVersion := 65
  constantPool := pool
  accessFlags := fl
  thisClass := this
  superClass := sup
  interfaces := ifs
  fields := fds
  methods := ms
  attributes := attrs
def plain (name : String) (sup : Option ClassId) : Class where
  name := name
  kind := .ordinary
  loader := none
  accessFlags := 33
  super := sup
  interfaces := #[]
  cf := none
  fields := #[]
  methods := #[]
  instanceTypes := #[]
  staticTypes := #[]
  resolved := #[]
  callSites := []
  init := .initialized
  statics := none
  mirror := none

def pool0 : Array CpInfo := pool [(5, u "<init>"), (0, u "()V"), (1, .class_ 10), (1, u "java/lang/Object")] 113

def k0m0 : Method := { name := "<init>", desc := "()V", sig := { parameters := [], returnType := none }, accessFlags := 1, code := none }
/-- java/lang/Object -/
def k0 : Class := { plain "java/lang/Object" none with
  accessFlags := 33
  interfaces := #[]
  cf := some (fileOf pool0 8 #[] #[{ accessFlags := 1, nameIndex := 5, descriptorIndex := 6, attributes := #[] }] 33 0 #[] #[])
  fields := #[]
  methods := #[k0m0]
  instanceTypes := #[]
  staticTypes := #[]
  resolved := Array.replicate 124 none
  statics := none }

def pool1 : Array CpInfo := pool [(2, .class_ 4), (1, u "java/lang/Object"), (0, u "<init>"), (0, u "()V"), (0, .integer 2147483647), (0, .integer 1114112), (0, .integer 55295), (0, .integer 55296), (0, .integer 57343), (0, .integer 57344), (0, .integer 65533), (0, .integer 65534), (0, .integer 65535), (0, .integer 65536), (0, .integer 1114111), (0, .methodref 19 20), (0, .class_ 21), (0, .nameAndType 22 23), (0, u "java/lang/Math"), (0, u "min"), (0, u "(II)I"), (0, .methodref 19 25), (0, .nameAndType 26 23), (0, u "max"), (0, .methodref 28 29), (0, .class_ 30), (0, .nameAndType 31 32), (0, u "org/rolepath/io/HierarchyWriter"), (0, u "isXmlChar"), (0, u "(I)Z"), (0, .methodref 34 35), (0, .class_ 36), (0, .nameAndType 37 32), (0, u "org/rolepath/io/HierarchyWriterIsXmlCharPinLaw"), (0, u "expected"), (2, u "law"), (0, u "(II)Z")] 3

def k1m0 : Method := { name := "<init>", desc := "()V", sig := { parameters := [], returnType := none }, accessFlags := 2, code := none }
def k1c1 : Code := { maxStack := 4, maxLocals := 5, code := code, exceptionTable := #[], attributes := #[] }
def k1m1 : Method := { name := "law", desc := "(II)Z", sig := { parameters := [.int, .int], returnType := some .boolean }, accessFlags := 9, code := some k1c1 }
def k1c2 : Code := { maxStack := 2, maxLocals := 1, code := method_3_code, exceptionTable := #[], attributes := #[] }
def k1m2 : Method := { name := "expected", desc := "(I)Z", sig := { parameters := [.int], returnType := some .boolean }, accessFlags := 10, code := some k1c2 }
/-- org/rolepath/io/HierarchyWriterIsXmlCharPinLaw -/
def k1 : Class := { plain "org/rolepath/io/HierarchyWriterIsXmlCharPinLaw" (some 0) with
  accessFlags := 49
  interfaces := #[]
  cf := some (fileOf pool1 34 #[] #[{ accessFlags := 2, nameIndex := 5, descriptorIndex := 6, attributes := #[] }, { accessFlags := 9, nameIndex := 40, descriptorIndex := 41, attributes := #[] }, { accessFlags := 10, nameIndex := 37, descriptorIndex := 32, attributes := #[] }] 49 2 #[] #[])
  fields := #[]
  methods := #[k1m0, k1m1, k1m2]
  instanceTypes := #[]
  staticTypes := #[]
  resolved := Array.replicate 45 none
  statics := none }

def pool2 : Array CpInfo := pool [(1, .class_ 2), (0, u "java/lang/Math"), (1, .class_ 6), (1, u "java/lang/Object"), (0, u "<init>"), (0, u "()V"), (89, .class_ 100), (1, u "java/lang/Math$RandomNumberGeneratorHolder"), (71, u "negativeZeroFloatBits"), (0, u "J"), (2, u "negativeZeroDoubleBits"), (21, u "max"), (2, u "min"), (43, u "$assertionsDisabled"), (0, u "Z"), (88, u "(II)I"), (2, u "twoToTheDoubleScaleDown"), (0, u "D"), (4, u "twoToTheDoubleScaleUp"), (9, u "E"), (3, u "PI"), (2, u "TAU"), (2, u "DEGREES_TO_RADIANS"), (0, u "RADIANS_TO_DEGREES")] 94

def k2m0 : Method := { name := "<init>", desc := "()V", sig := { parameters := [], returnType := none }, accessFlags := 2, code := none }
def k2c1 : Code := { maxStack := 2, maxLocals := 2, code := jdk_29_method_65_code, exceptionTable := #[], attributes := #[] }
def k2m1 : Method := { name := "max", desc := "(II)I", sig := { parameters := [.int, .int], returnType := some .int }, accessFlags := 9, code := some k2c1 }
def k2c2 : Code := { maxStack := 2, maxLocals := 2, code := jdk_29_method_69_code, exceptionTable := #[], attributes := #[] }
def k2m2 : Method := { name := "min", desc := "(II)I", sig := { parameters := [.int, .int], returnType := some .int }, accessFlags := 9, code := some k2c2 }
/-- java/lang/Math -/
def k2 : Class := { plain "java/lang/Math" (some 0) with
  accessFlags := 49
  interfaces := #[]
  cf := some (fileOf pool2 1 #[.nestMembers #[98]] #[{ accessFlags := 2, nameIndex := 7, descriptorIndex := 8, attributes := #[] }, { accessFlags := 9, nameIndex := 198, descriptorIndex := 335, attributes := #[] }, { accessFlags := 9, nameIndex := 201, descriptorIndex := 335, attributes := #[] }] 49 4 #[] #[{ accessFlags := 25, nameIndex := 354, descriptorIndex := 339, attributes := #[] }, { accessFlags := 25, nameIndex := 358, descriptorIndex := 339, attributes := #[] }, { accessFlags := 25, nameIndex := 361, descriptorIndex := 339, attributes := #[] }, { accessFlags := 26, nameIndex := 364, descriptorIndex := 339, attributes := #[] }, { accessFlags := 26, nameIndex := 365, descriptorIndex := 339, attributes := #[] }, { accessFlags := 26, nameIndex := 172, descriptorIndex := 173, attributes := #[] }, { accessFlags := 26, nameIndex := 176, descriptorIndex := 173, attributes := #[] }, { accessFlags := 8, nameIndex := 344, descriptorIndex := 339, attributes := #[] }, { accessFlags := 8, nameIndex := 338, descriptorIndex := 339, attributes := #[] }, { accessFlags := 4120, nameIndex := 245, descriptorIndex := 246, attributes := #[] }])
  fields := #[{ name := "E", type := .double, accessFlags := 25, slot := 0, constantValue := 0 }, { name := "PI", type := .double, accessFlags := 25, slot := 1, constantValue := 0 }, { name := "TAU", type := .double, accessFlags := 25, slot := 2, constantValue := 0 }, { name := "DEGREES_TO_RADIANS", type := .double, accessFlags := 26, slot := 3, constantValue := 0 }, { name := "RADIANS_TO_DEGREES", type := .double, accessFlags := 26, slot := 4, constantValue := 0 }, { name := "negativeZeroFloatBits", type := .long, accessFlags := 26, slot := 5, constantValue := 0 }, { name := "negativeZeroDoubleBits", type := .long, accessFlags := 26, slot := 6, constantValue := 0 }, { name := "twoToTheDoubleScaleUp", type := .double, accessFlags := 8, slot := 7, constantValue := 0 }, { name := "twoToTheDoubleScaleDown", type := .double, accessFlags := 8, slot := 8, constantValue := 0 }, { name := "$assertionsDisabled", type := .boolean, accessFlags := 4120, slot := 9, constantValue := 0 }]
  methods := #[k2m0, k2m1, k2m2]
  instanceTypes := #[]
  staticTypes := #[.double, .double, .double, .double, .double, .long, .long, .double, .double, .boolean]
  resolved := Array.replicate 460 none
  statics := none }

def pool3 : Array CpInfo := pool [(4, .class_ 6), (1, u "java/lang/Object"), (0, u "<init>"), (0, u "()V"), (7, .class_ 18), (1, u "org/rolepath/io/HierarchyWriter"), (12, u "SIBLING_ORDER"), (0, u "Ljava/util/Comparator;"), (365, u "(I)Z"), (57, .integer 55295), (0, .integer 57344), (0, .integer 65533), (0, .integer 65536), (2, u "isXmlChar"), (10, u "PROLOGUE"), (0, u "Ljava/lang/String;")] 56

def k3m0 : Method := { name := "<init>", desc := "()V", sig := { parameters := [], returnType := none }, accessFlags := 2, code := none }
def k3c1 : Code := { maxStack := 2, maxLocals := 1, code := prog_34_method_16_code, exceptionTable := #[], attributes := #[] }
def k3m1 : Method := { name := "isXmlChar", desc := "(I)Z", sig := { parameters := [.int], returnType := some .boolean }, accessFlags := 8, code := some k3c1 }
/-- org/rolepath/io/HierarchyWriter -/
def k3 : Class := { plain "org/rolepath/io/HierarchyWriter" (some 0) with
  accessFlags := 49
  interfaces := #[]
  cf := some (fileOf pool3 16 #[] #[{ accessFlags := 2, nameIndex := 7, descriptorIndex := 8, attributes := #[] }, { accessFlags := 8, nameIndex := 462, descriptorIndex := 398, attributes := #[] }] 49 4 #[] #[{ accessFlags := 24, nameIndex := 473, descriptorIndex := 474, attributes := #[] }, { accessFlags := 26, nameIndex := 31, descriptorIndex := 32, attributes := #[] }])
  fields := #[{ name := "PROLOGUE", type := (.object "java/lang/String"), accessFlags := 24, slot := 0, constantValue := 0 }, { name := "SIBLING_ORDER", type := (.object "java/util/Comparator"), accessFlags := 26, slot := 1, constantValue := 0 }]
  methods := #[k3m0, k3m1]
  instanceTypes := #[]
  staticTypes := #[(.object "java/lang/String"), (.object "java/util/Comparator")]
  resolved := Array.replicate 531 none
  statics := none }

def pool4 : Array CpInfo := pool [(1, u "java/lang/Cloneable"), (0, .class_ 1), (0, u "java/lang/Object"), (0, .class_ 3)] 3

/-- java/lang/Cloneable -/
def k4 : Class := { plain "java/lang/Cloneable" (some 0) with
  accessFlags := 1537
  interfaces := #[]
  cf := some (fileOf pool4 2 #[] #[] 1537 4 #[] #[])
  fields := #[]
  methods := #[]
  instanceTypes := #[]
  staticTypes := #[]
  resolved := Array.replicate 8 none
  statics := none }

def pool5 : Array CpInfo := pool [(1, u "java/io/Serializable"), (0, .class_ 1), (0, u "java/lang/Object"), (0, .class_ 3)] 3

/-- java/io/Serializable -/
def k5 : Class := { plain "java/io/Serializable" (some 0) with
  accessFlags := 1537
  interfaces := #[]
  cf := some (fileOf pool5 2 #[] #[] 1537 4 #[] #[])
  fields := #[]
  methods := #[]
  instanceTypes := #[]
  staticTypes := #[]
  resolved := Array.replicate 8 none
  statics := none }

/-- the primitive byte -/
def k6 : Class := { plain "byte" none with kind := .primitive 'B', accessFlags := 0x411 }
/-- [B -/
def k7 : Class := { plain "[B" (some 0) with kind := .array 6 .byte, interfaces := #[4, 5], accessFlags := 1041 }

/-- the primitive int -/
def k8 : Class := { plain "int" none with kind := .primitive 'I', accessFlags := 0x411 }
/-- [I -/
def k9 : Class := { plain "[I" (some 0) with kind := .array 8 .int, interfaces := #[4, 5], accessFlags := 1041 }

def heap : Heap := #[]
def classes : Array Class := #[k0, k1, k2, k3, k4, k5, k6, k7, k8, k9]
def interned : List (Array UInt16 × Addr) := []
def slotsUsed : Nat := 0
def theMethod : MethodId := ⟨1, 1⟩
def args0 : Array Value := #[.int 5, .int 5]
def aboutOver (below : List Frame) : State where
  vm := { classes := classes, interned := interned.toArray }
  heap := heap
  slotsUsed := slotsUsed
  threads := #[{ frames := .invoking theMethod args0 :: below }]
def below0 : List Frame := [.native { method := ⟨0, 0⟩, args := #[] }]
def about1 : State := aboutOver below0
def p0 : Program := .bare "" "" ""
def e0 : Env := launch0.env 0 0 0
theorem w_frames : about1.frames = Frame.invoking theMethod args0 :: below0 := rfl
set_option maxRecDepth 65536 in
theorem w_args : argsFit about1.vm theMethod args0 = true := by decide +kernel
set_option maxRecDepth 65536 in
theorem w_heap : heapFits about1 = true := by decide +kernel
set_option maxRecDepth 65536 in
theorem w_runnable : about1.curStatus? = some .runnable := by decide +kernel
set_option maxRecDepth 65536 in
theorem w_alone : about1.alone = true := by decide +kernel
set_option maxRecDepth 65536 in
theorem w_named : about1.methodNamed? x = some theMethod := by decide +kernel
set_option maxRecDepth 65536 in
theorem w_hears : about1.hears theMethod below0 = true := by decide +kernel
set_option maxRecDepth 65536 in
theorem w_ripe : about1.ripe theMethod args0 below0 = true := by decide +kernel
theorem w_running : about1.status = .running := rfl
set_option maxRecDepth 65536 in
theorem w_room : about1.hasRoom e0.platform room_1 = true :=
  launch0.hasRoom_least _ room_1 (by decide +kernel) (by decide +kernel) (by decide +kernel) (by decide +kernel) (by decide +kernel) (by decide +kernel)
theorem allAtoms_all (ts : List Jvm.Cond) (a : Array Jvm.Value) (st : Jvm.State) : (allAtoms ts).before a st = ts.all (fun c => c.before a st) := by
  induction ts with
  | nil => rfl
  | cons c t ih =>
    show (Jvm.Cond.and c (allAtoms t)).before a st = _
    rw [Jvm.Cond.before_and, ih, List.all_cons]
def words1 : List Jvm.Cond := Jvm.Cond.code x code maxLocals ret :: tables_1
/-- a 'code' word, met by the world's own term for the bytes: nothing is compared byte by byte -/
theorem code_word {y : MethodName} {bytes : ByteArray} {mx : Nat} {rt : Option FieldType} {a : Array Value} {s : State} {m : MethodId} {meth : Method} {c : Code} (h1 : s.methodNamed? y = some m) (h2 : s.vm.method? m = some meth) (h3 : meth.code = some c) (h4 : c.code = bytes)
    (h5 : (c.maxLocals == mx && c.exceptionTable.isEmpty && decide (c.maxStack ≤ mostOperands) && decide (meth.sig.returnType = rt) && !meth.locks && decide (parseMethodDescriptor y.desc = some meth.sig)) = true) : (Jvm.Cond.code y bytes mx rt).before a s = true := by
  simp only [Bool.and_eq_true, beq_iff_eq, Bool.not_eq_true', decide_eq_true_eq] at h5
  obtain ⟨⟨⟨⟨⟨g1, g2⟩, g3⟩, g4⟩, g5⟩, g6⟩ := h5
  simp [Cond.before, Cond.holds, Cond.value, h1, h2, h3, h4, g1, g2, g3, g4, g5, g6]
def isCode : Jvm.Cond → Bool
  | .code _ _ _ _ => true
  | _ => false
theorem all_split {L : List Jvm.Cond} {P : Jvm.Cond → Bool} (h1 : L.all (fun c => isCode c || P c) = true) (h2 : ∀ c ∈ L.filter isCode, P c = true) : L.all P = true := by
  refine List.all_eq_true.mpr fun c hc => ?_
  have h := List.all_eq_true.mp h1 c hc
  rcases Bool.eq_false_or_eq_true (isCode c) with hi | hi
  · exact h2 c (List.mem_filter.mpr ⟨hc, hi⟩)
  · simpa [hi] using h
set_option maxRecDepth 65536 in
theorem w_c0 : (Jvm.Cond.code x code maxLocals ret).before args0 about1 = true := code_word (m := ⟨1, 1⟩) (meth := k1m1) (c := k1c1) (by decide +kernel) rfl rfl rfl (by decide +kernel)
set_option maxRecDepth 65536 in
theorem w_c1 : (Jvm.Cond.code ({ cls := "java/lang/Math", name := "min", desc := "(II)I" } : Jvm.MethodName) jdk_29_method_69_code (2 : Nat) (Option.some Jvm.ClassFile.FieldType.int)).before args0 about1 = true := code_word (m := ⟨2, 2⟩) (meth := k2m2) (c := k2c2) (by decide +kernel) rfl rfl rfl (by decide +kernel)
set_option maxRecDepth 65536 in
theorem w_c2 : (Jvm.Cond.code ({ cls := "java/lang/Math", name := "max", desc := "(II)I" } : Jvm.MethodName) jdk_29_method_65_code (2 : Nat) (Option.some Jvm.ClassFile.FieldType.int)).before args0 about1 = true := code_word (m := ⟨2, 1⟩) (meth := k2m1) (c := k2c1) (by decide +kernel) rfl rfl rfl (by decide +kernel)
set_option maxRecDepth 65536 in
theorem w_c3 : (Jvm.Cond.code ({ cls := "org/rolepath/io/HierarchyWriter", name := "isXmlChar", desc := "(I)Z" } : Jvm.MethodName) prog_34_method_16_code (1 : Nat) (Option.some Jvm.ClassFile.FieldType.boolean)).before args0 about1 = true := code_word (m := ⟨3, 1⟩) (meth := k3m1) (c := k3c1) (by decide +kernel) rfl rfl rfl (by decide +kernel)
set_option maxRecDepth 65536 in
theorem w_c4 : (Jvm.Cond.code ({ cls := "org/rolepath/io/HierarchyWriterIsXmlCharPinLaw", name := "expected", desc := "(I)Z" } : Jvm.MethodName) method_3_code (1 : Nat) (Option.some Jvm.ClassFile.FieldType.boolean)).before args0 about1 = true := code_word (m := ⟨1, 2⟩) (meth := k1m2) (c := k1c2) (by decide +kernel) rfl rfl rfl (by decide +kernel)
def codes1 : List Jvm.Cond := [Jvm.Cond.code x code maxLocals ret, Jvm.Cond.code ({ cls := "java/lang/Math", name := "min", desc := "(II)I" } : Jvm.MethodName) jdk_29_method_69_code (2 : Nat) (Option.some Jvm.ClassFile.FieldType.int), Jvm.Cond.code ({ cls := "java/lang/Math", name := "max", desc := "(II)I" } : Jvm.MethodName) jdk_29_method_65_code (2 : Nat) (Option.some Jvm.ClassFile.FieldType.int), Jvm.Cond.code ({ cls := "org/rolepath/io/HierarchyWriter", name := "isXmlChar", desc := "(I)Z" } : Jvm.MethodName) prog_34_method_16_code (1 : Nat) (Option.some Jvm.ClassFile.FieldType.boolean), Jvm.Cond.code ({ cls := "org/rolepath/io/HierarchyWriterIsXmlCharPinLaw", name := "expected", desc := "(I)Z" } : Jvm.MethodName) method_3_code (1 : Nat) (Option.some Jvm.ClassFile.FieldType.boolean)]
set_option maxRecDepth 65536 in
theorem codes_eq : words1.filter isCode = codes1 := rfl
theorem w_codes : ∀ c ∈ words1.filter isCode, c.before args0 about1 = true := by
  rw [codes_eq]
  intro c hc
  simp only [codes1, List.mem_cons, List.not_mem_nil, or_false] at hc
  rcases hc with rfl | rfl | rfl | rfl | rfl
  · exact w_c0
  · exact w_c1
  · exact w_c2
  · exact w_c3
  · exact w_c4
set_option maxRecDepth 65536 in
theorem w_t1 : (words1.take 24).all (fun c => isCode c || c.before args0 about1) = true := by decide +kernel
set_option maxRecDepth 65536 in
theorem w_t2 : (words1.drop 24).all (fun c => isCode c || c.before args0 about1) = true := by decide +kernel
theorem w_tables : (allAtoms (Jvm.Cond.code x code maxLocals ret :: tables_1)).before args0 about1 = true := by
  rw [allAtoms_all]
  show words1.all (fun c => c.before args0 about1) = true
  refine all_split ?_ w_codes
  rw [← List.take_append_drop 24 words1, List.all_append, w_t1, w_t2]
  rfl
set_option maxRecDepth 65536 in
theorem w_case : (Jvm.Cond.and given_1 narrow_1).before args0 about1 = true := by decide +kernel
theorem w_applies : (headSpec (Jvm.Cond.code x code maxLocals ret :: tables_1) room_1).applies x e0.platform about1 = true :=
  (Spec.applies_iff w_frames).mpr ⟨w_running, w_runnable, w_alone, w_named, w_hears, w_ripe, w_room, w_tables⟩
theorem atStart : AtStart classFile x code maxLocals ret World_1 tables_1 room_1 Calls_1 rest_1 Pre_1 launch0 p0 e0 about1 theMethod args0 below0 :=
  ⟨lists_1, trivial, launch0.admits_env _ _ _, launch0.least_env, fairChoices_fair.cas, fairChoices_fair.clock, w_frames, w_args, w_heap, w_applies, trivial, trivial, w_case⟩
end start1
theorem witness_1 : WitnessClaimed_1 := ⟨start1.p0, start1.e0, start1.about1, start1.theMethod, start1.args0, start1.below0, start1.atStart⟩
end Jvm.Pilot.@@N@@
