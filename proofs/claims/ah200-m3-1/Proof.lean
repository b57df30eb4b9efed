import JvmDerived
import JvmDerived.Pilot.@@N@@Statement
import JvmDerived.Pilot.@@N@@Code
set_option linter.unusedVariables false
set_option linter.unusedSimpArgs false
namespace Jvm.RoadKit
open Sem ClassFile Op Lib Jvm.Stand Jvm.Free Jvm.LawKit
section New
variable {p : Program} {l : Launch} {e : Env} {R : Room} {s : State} {m : MethodId} {args : Array Value} {below : List Frame} {meth : Method} {c : Code} {T : State} {locs : List Loc} {cells slots : Nat}
theorem retI (X : Stand p l e R s m args below meth c T locs cells slots) (hx : p.tables.exec = Jvm.exec) {pc : Nat} {Ls : Array Slot} {z : Int32} {rest : List Value} (hret : meth.sig.returnType = some .int) (hd : decode c.code pc = .ok (.ireturn, 1)) {fs : List Frame}
    (hl : ∀ (f : JFrame) (acts : List Action), f.method = m → f.locked = none → f.entered = [] → (doReturn e (T.setTop f) acts (some (.int z))).1 = T.setFrames fs) : Steps p.tables e below (T.setTop (mkF m pc Ls (.int z :: rest))) (T.setFrames fs) := by
  have hm' : T.vm.method? m = some meth := X.method'
  have hn : narrow .int (.int z) = .int z := rfl
  show Steps p.tables e below (T.setTop { method := m, pc := pc, locals := Ls, stack := _ :: rest, locked := none }) _
  jvm_step X.here [X.here.top, hx, hd, hm', hret, hn]
  first | (intro acts; rw [hl _ acts rfl rfl rfl]) | rw [hl _ _ rfl rfl rfl]
  exact Steps.refl _
end New
end Jvm.RoadKit
namespace Jvm.Pilot.@@N@@
open Jvm Jvm.ClassFile Sem Op Lib Jvm.Free Jvm.Stand Jvm.LawKit Jvm.RoadKit Bundle Jvm.Pilot.@@N@@.Jvm.D
section OwnKit
variable {p : Program} {l : Launch} {e : Env} {R : Room} {s : State} {m : MethodId} {args : Array Value} {below : List Frame} {meth : Method} {c : Code} {T : State} {locs : List Loc} {cells slots : Nat}
def own_Rch (tb : Tables) (e : Env) (below : List Frame) (S : State) (Φ : Outcome → State → Prop) : Prop := ∃ s₂ o, Steps tb e below S s₂ ∧ s₂.status = .running ∧ Ended s₂ below o ∧ Φ o s₂
theorem own_via {tb : Tables} {S S' : State} {Φ : Outcome → State → Prop} (h : ∀ t, Steps tb e below S' t → Steps tb e below S t) (k : own_Rch tb e below S' Φ) : own_Rch tb e below S Φ := by
  obtain ⟨s₂, o, k1, k2⟩ := k
  exact ⟨s₂, o, h _ k1, k2⟩
abbrev own_End (s : State) (Q : Option Value → Heap → List Loc → Prop) (k n : Nat) : Outcome → State → Prop := fun o U' => ∃ v L, o = .returned v ∧ Q v U'.heap L ∧ FrameEnd s o U' L k n
theorem own_fin (X : Stand p l e R s m args below meth c T locs cells slots) (hx : p.tables.exec = Jvm.exec) {pc : Nat} {Ls : Array Slot} {w : Value} {t : FieldType} {i : Instr} {rest : List Value} (hret : meth.sig.returnType = some t) (hlk : meth.locks = false) (hnw : narrow t w = w)
    (hi : (i = .ireturn ∧ (t = .int ∨ t = .boolean ∨ t = .byte ∨ t = .char ∨ t = .short) ∧ ∃ z, w = .int z) ∨ (i = .lreturn ∧ t = .long ∧ ∃ z, w = .long z) ∨ (i = .dreturn ∧ t = .double ∧ ∃ z, w = .double z) ∨ (i = .freturn ∧ t = .float ∧ ∃ z, w = .float z) ∨ (i = .areturn ∧ t.isReference = true ∧ w.isRef = true))
    (hd : decode c.code pc = .ok (i, 1)) {Q : Option Value → Heap → List Loc → Prop} {k n : Nat} (hk : cells ≤ k) (hn : slots ≤ n) (hQ : Q (some w) T.heap locs) : own_Rch p.tables e below (T.setTop (mkF m pc Ls (w :: rest))) (own_End s Q k n) := by
  obtain ⟨fs, hr, hrun, hended, hW, hsame⟩ := X.leave (v := some w) (fun h => by rw [hret] at h; cases h) hlk
  exact ⟨_, _, retOut X hx hret hnw hi hd hr, hrun, hended, _, _, rfl, hQ, ⟨_, rfl⟩, hW, hsame.mono hk hn⟩
theorem own_fin0 (X : Stand p l e R s m args below meth c T locs cells slots) (hx : p.tables.exec = Jvm.exec) {pc : Nat} {Ls : Array Slot} (hret : meth.sig.returnType = none) (hlk : meth.locks = false)
    (hd : decode c.code pc = .ok (.return_, 1)) {Q : Option Value → Heap → List Loc → Prop} {k n : Nat} (hk : cells ≤ k) (hn : slots ≤ n) (hQ : Q none T.heap locs) : own_Rch p.tables e below (T.setTop (mkF m pc Ls [])) (own_End s Q k n) := by
  obtain ⟨fs, hr, hrun, hended, hW, hsame⟩ := X.leave (v := none) (fun _ => rfl) hlk
  exact ⟨_, _, X.returnOut hx hret hd hr, hrun, hended, _, _, rfl, hQ, ⟨_, rfl⟩, hW, hsame.mono hk hn⟩
theorem own_lrem {g : JFrame} {target : State} (X : Stand p l e R s m args below meth c T locs cells slots) (hx : p.tables.exec = Jvm.exec) (hg : g.method = m) {x y : Int64} {rest : List Value} (hd : decode c.code g.pc = .ok (.lrem, 1)) (hs : g.stack = .long y :: .long x :: rest) (hy : y ≠ 0)
    (hr : Steps p.tables e below (T.setTop { g with pc := g.pc + 1, stack := .long (x % y) :: rest }) target) : Steps p.tables e below (T.setTop g) target := by
  have q : x - x / y * y = x % y := lrem_mod x y
  exact XS.lrem X.here hx hg hd hs hy (by rw [q]; exact hr)
end OwnKit
def own_Pure (r : Value) (h0 : Heap) (n0 : Nat) (v : Option Value) (h : Heap) (L : List Loc) : Prop := v = some r ∧ Fr n0 L ∧ h = h0
def own_up (a aH aU : Addr) (r d : Int64) : Int32 := if a = aH then (if r < (d - r) then 0 else 1) else if a = aU then (if (0 : Int64) < r then 1 else 0) else 0
theorem own_eqI {t : Term} {k : Int32} {args : Array Value} {first s : State} {o : Option Outcome} {idx : List Nat} (h : (Jvm.Cond.eq t (Term.int k)).value args first o s idx = some true) : t.eval args first o idx s = some (.int k) := by
  have e : (Term.int k).eval args first o idx s = some (.int k) := rfl
  rw [Jvm.Cond.value] at h
  rw [e] at h
  cases ht : t.eval args first o idx s with
  | none => simp [ht] at h
  | some v => cases v <;> simp_all
theorem own_dv (q3 : Int64) : 0 ≤ (q3 &&& (9223372036854775807 : Int64)).toInt := by
  have h := c_maskL q3 9223372036854775807 63 (by decide) (by decide)
  rw [h]; omega
theorem own_rem (q2 d : Int64) (h : 0 < d.toInt) : 0 ≤ ((q2 &&& (9223372036854775807 : Int64)) % d).toInt ∧ ((q2 &&& (9223372036854775807 : Int64)) % d).toInt < d.toInt := by
  have h0 := own_dv q2
  have e : ((q2 &&& (9223372036854775807 : Int64)) % d).toInt = (q2 &&& (9223372036854775807 : Int64)).toInt % d.toInt := by
    rw [Int64.toInt_mod]; exact Int.tmod_eq_emod_of_nonneg h0
  rw [e]
  exact ⟨Int.emod_nonneg _ (by omega), Int.emod_lt_of_pos _ h⟩
theorem own_pos (q3 : Int64) (h : ¬ ((q3 &&& (9223372036854775807 : Int64)) = (0 : Int64))) : 0 < (q3 &&& (9223372036854775807 : Int64)).toInt := by
  have h0 := own_dv q3
  have : (q3 &&& (9223372036854775807 : Int64)).toInt ≠ 0 := fun e => h (Int64.toInt_inj.mp e)
  omega
theorem own_L0 (aH aU : Addr) (r d : Int64) (h0 : 0 ≤ r.toInt) (h1 : r.toInt < d.toInt) : own_up aH aH aU r d = if r < ((d / (2 : Int64)) + (d &&& (1 : Int64))) then 0 else 1 := by
  have e1 := c_lsub d r
  have e2 := (c_ldiv d 2 2 rfl (by decide)).1 (by omega)
  have e3 := c_maskL d 1 1 (by decide) (by decide)
  have e4 := c_ladd (d / (2 : Int64)) (d &&& (1 : Int64))
  have g1 := rng64 d
  have g2 := rng64 (d - r)
  have g3 := rng64 ((d / (2 : Int64)) + (d &&& (1 : Int64)))
  rw [own_up, if_pos rfl]
  simp only [Int64.lt_iff_toInt_lt]
  have : (r.toInt < (d - r).toInt) ↔ (r.toInt < ((d / (2 : Int64)) + (d &&& (1 : Int64))).toInt) := by omega
  simp only [this]
theorem own_L1 (aH aU : Addr) (r d : Int64) (hne : ¬ aU = aH) (h0 : 0 ≤ r.toInt) : own_up aU aH aU r d = if r = (0 : Int64) then 0 else 1 := by
  rw [own_up, if_neg hne, if_pos rfl]
  simp only [Int64.lt_iff_toInt_lt, ← Int64.toInt_inj]
  have a : (0 : Int64).toInt = 0 := rfl
  rw [a]
  by_cases q : r.toInt = 0
  · rw [if_pos q, if_neg (by omega)]
  · rw [if_neg q, if_pos (by omega)]
theorem own_L2 (a aH aU : Addr) (r d : Int64) (h1 : ¬ a = aH) (h2 : ¬ a = aU) : own_up a aH aU r d = 0 := by
  rw [own_up, if_neg h1, if_neg h2]
theorem ef_1 (m : MethodId) (x0 : Addr) (x1 : Int64) (x2 : Int64) : entryFrame m #[(.ref x0), (.long x1), (.long x2)] 6 = mkF m 0 #[.val (.ref x0), .val (.long x1), .second, .val (.long x2), .second, .unset] [] := by first | (simp [entryFrame, mkF, argsToLocals, Value.category]; done) | rfl
theorem pn_com_example_mediation_mediation_rating_RoundingRule : plainName "com/example/mediation/mediation/rating/RoundingRule" = true := by first | (simp [plainName, overriddenIn]; done) | decide +kernel
theorem d1_0 : decode prog_47_method_5_code 0 = .ok (.aload_n 0, 1) := by decide +kernel
theorem d1_1 : decode prog_47_method_5_code 1 = .ok (.getstatic 3, 3) := by decide +kernel
theorem d1_4 : decode prog_47_method_5_code 4 = .ok (.if_acmp .ne 21, 3) := by decide +kernel
theorem d1_7 : decode prog_47_method_5_code 7 = .ok (.lload_n 1, 1) := by decide +kernel
theorem d1_8 : decode prog_47_method_5_code 8 = .ok (.lload_n 3, 1) := by decide +kernel
theorem d1_9 : decode prog_47_method_5_code 9 = .ok (.lload_n 1, 1) := by decide +kernel
theorem d1_10 : decode prog_47_method_5_code 10 = .ok (.lsub, 1) := by decide +kernel
theorem d1_11 : decode prog_47_method_5_code 11 = .ok (.lcmp, 1) := by decide +kernel
theorem d1_12 : decode prog_47_method_5_code 12 = .ok (.ifCond .lt 7, 3) := by decide +kernel
theorem d1_19 : decode prog_47_method_5_code 19 = .ok (.iconst 0, 1) := by decide +kernel
theorem d1_20 : decode prog_47_method_5_code 20 = .ok (.istore 5, 2) := by decide +kernel
theorem d1_22 : decode prog_47_method_5_code 22 = .ok (.goto 29, 3) := by decide +kernel
theorem d1_51 : decode prog_47_method_5_code 51 = .ok (.iload 5, 2) := by decide +kernel
theorem d1_53 : decode prog_47_method_5_code 53 = .ok (.ireturn, 1) := by decide +kernel
theorem d1_15 : decode prog_47_method_5_code 15 = .ok (.iconst 1, 1) := by decide +kernel
theorem d1_16 : decode prog_47_method_5_code 16 = .ok (.goto 4, 3) := by decide +kernel
theorem d1_25 : decode prog_47_method_5_code 25 = .ok (.aload_n 0, 1) := by decide +kernel
theorem d1_26 : decode prog_47_method_5_code 26 = .ok (.getstatic 7, 3) := by decide +kernel
theorem d1_29 : decode prog_47_method_5_code 29 = .ok (.if_acmp .ne 19, 3) := by decide +kernel
theorem d1_32 : decode prog_47_method_5_code 32 = .ok (.lload_n 1, 1) := by decide +kernel
theorem d1_33 : decode prog_47_method_5_code 33 = .ok (.lconst 0, 1) := by decide +kernel
theorem d1_34 : decode prog_47_method_5_code 34 = .ok (.lcmp, 1) := by decide +kernel
theorem d1_35 : decode prog_47_method_5_code 35 = .ok (.ifCond .le 7, 3) := by decide +kernel
theorem d1_38 : decode prog_47_method_5_code 38 = .ok (.iconst 1, 1) := by decide +kernel
theorem d1_39 : decode prog_47_method_5_code 39 = .ok (.goto 4, 3) := by decide +kernel
theorem d1_43 : decode prog_47_method_5_code 43 = .ok (.istore 5, 2) := by decide +kernel
theorem d1_45 : decode prog_47_method_5_code 45 = .ok (.goto 6, 3) := by decide +kernel
theorem d1_42 : decode prog_47_method_5_code 42 = .ok (.iconst 0, 1) := by decide +kernel
theorem d1_48 : decode prog_47_method_5_code 48 = .ok (.iconst 0, 1) := by decide +kernel
theorem d1_49 : decode prog_47_method_5_code 49 = .ok (.istore 5, 2) := by decide +kernel
set_option maxRecDepth 65536 in
set_option maxHeartbeats 40000000 in
theorem rm1 (l : Launch) (Z : State) (a0 : Array Value) (hw : ∀ d ∈ tables_1, d.before a0 Z = true) (ws : List Jvm.Cond) (a1 : Addr) (p1 p2 : Int64) (aH aU : Addr) (h0 : Heap) (n0 : Nat) (S_HALF_UP : Sta Z h0 "com/example/mediation/mediation/rating/RoundingRule" "HALF_UP" "Lcom/example/mediation/mediation/rating/RoundingRule;" (.ref aH)) (S_UP : Sta Z h0 "com/example/mediation/mediation/rating/RoundingRule" "UP" "Lcom/example/mediation/mediation/rating/RoundingRule;" (.ref aU)) :
    MetFree l (⟨"com/example/mediation/mediation/rating/RoundingRule", "roundsUp", "(JJ)Z"⟩ : MethodName) (head1 (Jvm.Cond.code (⟨"com/example/mediation/mediation/rating/RoundingRule", "roundsUp", "(JJ)Z"⟩ : MethodName) prog_47_method_5_code 6 (some .boolean) :: ws) ({ frames := 0, cells := 0, slots := 0, locals := 0 } : Room)) (fun a U => a = #[(.ref a1), (.long p1), (.long p2)] ∧ Z.Warmed39 U.vm ∧ U.heap = h0) (fun _ _ _ _ _ => True) (fun _ U o U' => ∃ v L, o = .returned v ∧ own_Pure (.int (own_up a1 aH aU p1 p2)) h0 n0 v U'.heap L ∧ FrameEnd U o U' L ({ frames := 0, cells := 0, slots := 0, locals := 0 } : Room).cells ({ frames := 0, cells := 0, slots := 0, locals := 0 } : Room).slots) := by
  refine MetFree.of_bodySF (plainFor_of_name pn_com_example_mediation_mediation_rating_RoundingRule) hisR ?_
  intro p e s m args below meth c s₁ Bd hml0 hP hK
  obtain ⟨rfl, hZ, hh⟩ := hP
  have hx := Bd.exec
  have hby := Bd.bytes
  have hml : c.maxLocals = 6 := hml0
  have hown : s.vm.findClass "com/example/mediation/mediation/rating/RoundingRule" = some m.cls := findClass_of_methodNamed Bd.named
  have hnm := (name_of_methodNamed Bd.named Bd.method).1
  have X0 : Stand p l e ({ frames := 0, cells := 0, slots := 0, locals := 0 } : Room) s m #[(.ref a1), (.long p1), (.long p2)] below meth c s₁ [] 0 0 := Stand.of_body Bd
  have e0 : s₁.heap = h0 := by rw [← hh, Bd.state]; rfl
  have N0 := Fr.nil n0
  show own_Rch p.tables e below (s₁.setTop (entryFrame m #[(.ref a1), (.long p1), (.long p2)] 6)) (own_End s (own_Pure (.int (own_up a1 aH aU p1 p2)) h0 n0) ({ frames := 0, cells := 0, slots := 0, locals := 0 } : Room).cells ({ frames := 0, cells := 0, slots := 0, locals := 0 } : Room).slots)
  refine own_via (fun t k => castTop (ef_1 m a1 p1 p2) k) ?_
  show own_Rch p.tables e below (s₁.setTop (mkF m 0 #[.val (.ref a1), .val (.long p1), .second, .val (.long p2), .second, .unset] [])) _
  refine own_via (fun t k => XS.aloadN X0.here hx rfl (hb hby d1_0) rfl rfl k) ?_
  show own_Rch p.tables e below (s₁.setTop (mkF m 1 #[.val (.ref a1), .val (.long p1), .second, .val (.long p2), .second, .unset] [(.ref a1)])) _
  obtain ⟨T1, X1, e1, st1⟩ := getS2 X0 hx hZ hown (host := "") (Or.inl (hw _ (List.mem_of_getElem? (i := 11) rfl))) Via.refl e0 S_HALF_UP (g := (mkF m 1 #[.val (.ref a1), .val (.long p1), .second, .val (.long p2), .second, .unset] [(.ref a1)])) rfl (hb hby d1_1)
  refine own_via st1 ?_
  show own_Rch p.tables e below (T1.setTop (mkF m 4 #[.val (.ref a1), .val (.long p1), .second, .val (.long p2), .second, .unset] [(.ref aH), (.ref a1)])) _
  by_cases c4 : a1 = aH
  · refine own_via (fun t k => Jvm.RoadKit.acmp (g := (mkF m 4 #[.val (.ref a1), .val (.long p1), .second, .val (.long p2), .second, .unset] [(.ref aH), (.ref a1)])) X1 hx rfl rfl rfl (pc0 := 4) (pc' := 7) (same := true) rfl (hb hby d1_4) rfl (decide_eq_true (congrArg Value.ref c4)) (by decide) (by decide) k) ?_
    show own_Rch p.tables e below (T1.setTop (mkF m 7 #[.val (.ref a1), .val (.long p1), .second, .val (.long p2), .second, .unset] [])) _
    refine own_via (fun t k => XS.lloadN X1.here hx rfl (hb hby d1_7) rfl k) ?_
    show own_Rch p.tables e below (T1.setTop (mkF m 8 #[.val (.ref a1), .val (.long p1), .second, .val (.long p2), .second, .unset] [(.long p1)])) _
    refine own_via (fun t k => XS.lloadN X1.here hx rfl (hb hby d1_8) rfl k) ?_
    show own_Rch p.tables e below (T1.setTop (mkF m 9 #[.val (.ref a1), .val (.long p1), .second, .val (.long p2), .second, .unset] [(.long p2), (.long p1)])) _
    refine own_via (fun t k => XS.lloadN X1.here hx rfl (hb hby d1_9) rfl k) ?_
    show own_Rch p.tables e below (T1.setTop (mkF m 10 #[.val (.ref a1), .val (.long p1), .second, .val (.long p2), .second, .unset] [(.long p1), (.long p2), (.long p1)])) _
    refine own_via (fun t k => XS.lsub X1.here hx rfl (hb hby d1_10) rfl k) ?_
    show own_Rch p.tables e below (T1.setTop (mkF m 11 #[.val (.ref a1), .val (.long p1), .second, .val (.long p2), .second, .unset] [(.long (p2 - p1)), (.long p1)])) _
    refine own_via (fun t k => XS.lcmp X1.here hx rfl (hb hby d1_11) rfl k) ?_
    show own_Rch p.tables e below (T1.setTop (mkF m 12 #[.val (.ref a1), .val (.long p1), .second, .val (.long p2), .second, .unset] [(.int (lcmpW p1 (p2 - p1)))])) _
    by_cases c12 : p1 < (p2 - p1)
    · refine own_via (fun t k => XS.ifYes X1.here hx rfl (pc0 := 12) (pc' := 19) rfl (hb hby d1_12) rfl ((if0 _ _).trans (tlt ((lw_lt p1 (p2 - p1)).mpr c12)).1) (by decide) (by decide) k) ?_
      show own_Rch p.tables e below (T1.setTop (mkF m 19 #[.val (.ref a1), .val (.long p1), .second, .val (.long p2), .second, .unset] [])) _
      refine own_via (fun t k => XS.iconst X1.here hx rfl (hb hby d1_19) k) ?_
      show own_Rch p.tables e below (T1.setTop (mkF m 20 #[.val (.ref a1), .val (.long p1), .second, .val (.long p2), .second, .unset] [(.int (0 : Int32))])) _
      refine own_via (fun t k => XS.istore X1.here hx rfl (hb hby d1_20) rfl (l' := #[.val (.ref a1), .val (.long p1), .second, .val (.long p2), .second, .val (.int (0 : Int32))]) rfl k) ?_
      show own_Rch p.tables e below (T1.setTop (mkF m 22 #[.val (.ref a1), .val (.long p1), .second, .val (.long p2), .second, .val (.int (0 : Int32))] [])) _
      refine own_via (fun t k => XS.goto X1.here hx rfl (pc0 := 22) (pc' := 51) rfl (hb hby d1_22) (by decide) (by decide) k) ?_
      show own_Rch p.tables e below (T1.setTop (mkF m 51 #[.val (.ref a1), .val (.long p1), .second, .val (.long p2), .second, .val (.int (0 : Int32))] [])) _
      refine own_via (fun t k => XS.iload X1.here hx rfl (hb hby d1_51) rfl k) ?_
      show own_Rch p.tables e below (T1.setTop (mkF m 53 #[.val (.ref a1), .val (.long p1), .second, .val (.long p2), .second, .val (.int (0 : Int32))] [(.int (0 : Int32))])) _
      exact own_fin X1 hx (t := .boolean) (i := .ireturn) Bd.returns Bd.notSynchronized rfl (Or.inl ⟨rfl, by simp, _, rfl⟩) (hb hby d1_53) (by decide) (by decide) ⟨by simp only [own_up, if_pos c4, if_pos c12], N0, e1⟩
    · refine own_via (fun t k => XS.ifNo X1.here hx rfl (hb hby d1_12) rfl ((if0 _ _).trans (flt (fun q => c12 ((lw_lt p1 (p2 - p1)).mp q))).1) k) ?_
      show own_Rch p.tables e below (T1.setTop (mkF m 15 #[.val (.ref a1), .val (.long p1), .second, .val (.long p2), .second, .unset] [])) _
      refine own_via (fun t k => XS.iconst X1.here hx rfl (hb hby d1_15) k) ?_
      show own_Rch p.tables e below (T1.setTop (mkF m 16 #[.val (.ref a1), .val (.long p1), .second, .val (.long p2), .second, .unset] [(.int (1 : Int32))])) _
      refine own_via (fun t k => XS.goto X1.here hx rfl (pc0 := 16) (pc' := 20) rfl (hb hby d1_16) (by decide) (by decide) k) ?_
      show own_Rch p.tables e below (T1.setTop (mkF m 20 #[.val (.ref a1), .val (.long p1), .second, .val (.long p2), .second, .unset] [(.int (1 : Int32))])) _
      refine own_via (fun t k => XS.istore X1.here hx rfl (hb hby d1_20) rfl (l' := #[.val (.ref a1), .val (.long p1), .second, .val (.long p2), .second, .val (.int (1 : Int32))]) rfl k) ?_
      show own_Rch p.tables e below (T1.setTop (mkF m 22 #[.val (.ref a1), .val (.long p1), .second, .val (.long p2), .second, .val (.int (1 : Int32))] [])) _
      refine own_via (fun t k => XS.goto X1.here hx rfl (pc0 := 22) (pc' := 51) rfl (hb hby d1_22) (by decide) (by decide) k) ?_
      show own_Rch p.tables e below (T1.setTop (mkF m 51 #[.val (.ref a1), .val (.long p1), .second, .val (.long p2), .second, .val (.int (1 : Int32))] [])) _
      refine own_via (fun t k => XS.iload X1.here hx rfl (hb hby d1_51) rfl k) ?_
      show own_Rch p.tables e below (T1.setTop (mkF m 53 #[.val (.ref a1), .val (.long p1), .second, .val (.long p2), .second, .val (.int (1 : Int32))] [(.int (1 : Int32))])) _
      exact own_fin X1 hx (t := .boolean) (i := .ireturn) Bd.returns Bd.notSynchronized rfl (Or.inl ⟨rfl, by simp, _, rfl⟩) (hb hby d1_53) (by decide) (by decide) ⟨by simp only [own_up, if_pos c4, if_neg c12], N0, e1⟩
  · refine own_via (fun t k => Jvm.RoadKit.acmp (g := (mkF m 4 #[.val (.ref a1), .val (.long p1), .second, .val (.long p2), .second, .unset] [(.ref aH), (.ref a1)])) X1 hx rfl rfl rfl (pc0 := 4) (pc' := 25) (same := false) rfl (hb hby d1_4) rfl (decide_eq_false fun q => c4 (Value.ref.inj q)) (by decide) (by decide) k) ?_
    show own_Rch p.tables e below (T1.setTop (mkF m 25 #[.val (.ref a1), .val (.long p1), .second, .val (.long p2), .second, .unset] [])) _
    refine own_via (fun t k => XS.aloadN X1.here hx rfl (hb hby d1_25) rfl rfl k) ?_
    show own_Rch p.tables e below (T1.setTop (mkF m 26 #[.val (.ref a1), .val (.long p1), .second, .val (.long p2), .second, .unset] [(.ref a1)])) _
    obtain ⟨T2, X2, e2, st2⟩ := getS2 X1 hx hZ hown (host := "") (Or.inl (hw _ (List.mem_of_getElem? (i := 14) rfl))) Via.refl e1 S_UP (g := (mkF m 26 #[.val (.ref a1), .val (.long p1), .second, .val (.long p2), .second, .unset] [(.ref a1)])) rfl (hb hby d1_26)
    refine own_via st2 ?_
    show own_Rch p.tables e below (T2.setTop (mkF m 29 #[.val (.ref a1), .val (.long p1), .second, .val (.long p2), .second, .unset] [(.ref aU), (.ref a1)])) _
    by_cases c29 : a1 = aU
    · refine own_via (fun t k => Jvm.RoadKit.acmp (g := (mkF m 29 #[.val (.ref a1), .val (.long p1), .second, .val (.long p2), .second, .unset] [(.ref aU), (.ref a1)])) X2 hx rfl rfl rfl (pc0 := 29) (pc' := 32) (same := true) rfl (hb hby d1_29) rfl (decide_eq_true (congrArg Value.ref c29)) (by decide) (by decide) k) ?_
      show own_Rch p.tables e below (T2.setTop (mkF m 32 #[.val (.ref a1), .val (.long p1), .second, .val (.long p2), .second, .unset] [])) _
      refine own_via (fun t k => XS.lloadN X2.here hx rfl (hb hby d1_32) rfl k) ?_
      show own_Rch p.tables e below (T2.setTop (mkF m 33 #[.val (.ref a1), .val (.long p1), .second, .val (.long p2), .second, .unset] [(.long p1)])) _
      refine own_via (fun t k => XS.lconst X2.here hx rfl (hb hby d1_33) k) ?_
      show own_Rch p.tables e below (T2.setTop (mkF m 34 #[.val (.ref a1), .val (.long p1), .second, .val (.long p2), .second, .unset] [(.long (0 : Int64)), (.long p1)])) _
      refine own_via (fun t k => XS.lcmp X2.here hx rfl (hb hby d1_34) rfl k) ?_
      show own_Rch p.tables e below (T2.setTop (mkF m 35 #[.val (.ref a1), .val (.long p1), .second, .val (.long p2), .second, .unset] [(.int (lcmpW p1 (0 : Int64)))])) _
      by_cases c35 : (0 : Int64) < p1
      · refine own_via (fun t k => XS.ifNo X2.here hx rfl (hb hby d1_35) rfl ((if0 _ _).trans (tlt ((lw_gt p1 (0 : Int64)).mpr c35)).2.2.2) k) ?_
        show own_Rch p.tables e below (T2.setTop (mkF m 38 #[.val (.ref a1), .val (.long p1), .second, .val (.long p2), .second, .unset] [])) _
        refine own_via (fun t k => XS.iconst X2.here hx rfl (hb hby d1_38) k) ?_
        show own_Rch p.tables e below (T2.setTop (mkF m 39 #[.val (.ref a1), .val (.long p1), .second, .val (.long p2), .second, .unset] [(.int (1 : Int32))])) _
        refine own_via (fun t k => XS.goto X2.here hx rfl (pc0 := 39) (pc' := 43) rfl (hb hby d1_39) (by decide) (by decide) k) ?_
        show own_Rch p.tables e below (T2.setTop (mkF m 43 #[.val (.ref a1), .val (.long p1), .second, .val (.long p2), .second, .unset] [(.int (1 : Int32))])) _
        refine own_via (fun t k => XS.istore X2.here hx rfl (hb hby d1_43) rfl (l' := #[.val (.ref a1), .val (.long p1), .second, .val (.long p2), .second, .val (.int (1 : Int32))]) rfl k) ?_
        show own_Rch p.tables e below (T2.setTop (mkF m 45 #[.val (.ref a1), .val (.long p1), .second, .val (.long p2), .second, .val (.int (1 : Int32))] [])) _
        refine own_via (fun t k => XS.goto X2.here hx rfl (pc0 := 45) (pc' := 51) rfl (hb hby d1_45) (by decide) (by decide) k) ?_
        show own_Rch p.tables e below (T2.setTop (mkF m 51 #[.val (.ref a1), .val (.long p1), .second, .val (.long p2), .second, .val (.int (1 : Int32))] [])) _
        refine own_via (fun t k => XS.iload X2.here hx rfl (hb hby d1_51) rfl k) ?_
        show own_Rch p.tables e below (T2.setTop (mkF m 53 #[.val (.ref a1), .val (.long p1), .second, .val (.long p2), .second, .val (.int (1 : Int32))] [(.int (1 : Int32))])) _
        exact own_fin X2 hx (t := .boolean) (i := .ireturn) Bd.returns Bd.notSynchronized rfl (Or.inl ⟨rfl, by simp, _, rfl⟩) (hb hby d1_53) (by decide) (by decide) ⟨by simp only [own_up, if_neg c4, if_pos c29, if_pos c35], N0, e2⟩
      · refine own_via (fun t k => XS.ifYes X2.here hx rfl (pc0 := 35) (pc' := 42) rfl (hb hby d1_35) rfl ((if0 _ _).trans (flt (fun q => c35 ((lw_gt p1 (0 : Int64)).mp q))).2.2.2) (by decide) (by decide) k) ?_
        show own_Rch p.tables e below (T2.setTop (mkF m 42 #[.val (.ref a1), .val (.long p1), .second, .val (.long p2), .second, .unset] [])) _
        refine own_via (fun t k => XS.iconst X2.here hx rfl (hb hby d1_42) k) ?_
        show own_Rch p.tables e below (T2.setTop (mkF m 43 #[.val (.ref a1), .val (.long p1), .second, .val (.long p2), .second, .unset] [(.int (0 : Int32))])) _
        refine own_via (fun t k => XS.istore X2.here hx rfl (hb hby d1_43) rfl (l' := #[.val (.ref a1), .val (.long p1), .second, .val (.long p2), .second, .val (.int (0 : Int32))]) rfl k) ?_
        show own_Rch p.tables e below (T2.setTop (mkF m 45 #[.val (.ref a1), .val (.long p1), .second, .val (.long p2), .second, .val (.int (0 : Int32))] [])) _
        refine own_via (fun t k => XS.goto X2.here hx rfl (pc0 := 45) (pc' := 51) rfl (hb hby d1_45) (by decide) (by decide) k) ?_
        show own_Rch p.tables e below (T2.setTop (mkF m 51 #[.val (.ref a1), .val (.long p1), .second, .val (.long p2), .second, .val (.int (0 : Int32))] [])) _
        refine own_via (fun t k => XS.iload X2.here hx rfl (hb hby d1_51) rfl k) ?_
        show own_Rch p.tables e below (T2.setTop (mkF m 53 #[.val (.ref a1), .val (.long p1), .second, .val (.long p2), .second, .val (.int (0 : Int32))] [(.int (0 : Int32))])) _
        exact own_fin X2 hx (t := .boolean) (i := .ireturn) Bd.returns Bd.notSynchronized rfl (Or.inl ⟨rfl, by simp, _, rfl⟩) (hb hby d1_53) (by decide) (by decide) ⟨by simp only [own_up, if_neg c4, if_pos c29, if_neg c35], N0, e2⟩
    · refine own_via (fun t k => Jvm.RoadKit.acmp (g := (mkF m 29 #[.val (.ref a1), .val (.long p1), .second, .val (.long p2), .second, .unset] [(.ref aU), (.ref a1)])) X2 hx rfl rfl rfl (pc0 := 29) (pc' := 48) (same := false) rfl (hb hby d1_29) rfl (decide_eq_false fun q => c29 (Value.ref.inj q)) (by decide) (by decide) k) ?_
      show own_Rch p.tables e below (T2.setTop (mkF m 48 #[.val (.ref a1), .val (.long p1), .second, .val (.long p2), .second, .unset] [])) _
      refine own_via (fun t k => XS.iconst X2.here hx rfl (hb hby d1_48) k) ?_
      show own_Rch p.tables e below (T2.setTop (mkF m 49 #[.val (.ref a1), .val (.long p1), .second, .val (.long p2), .second, .unset] [(.int (0 : Int32))])) _
      refine own_via (fun t k => XS.istore X2.here hx rfl (hb hby d1_49) rfl (l' := #[.val (.ref a1), .val (.long p1), .second, .val (.long p2), .second, .val (.int (0 : Int32))]) rfl k) ?_
      show own_Rch p.tables e below (T2.setTop (mkF m 51 #[.val (.ref a1), .val (.long p1), .second, .val (.long p2), .second, .val (.int (0 : Int32))] [])) _
      refine own_via (fun t k => XS.iload X2.here hx rfl (hb hby d1_51) rfl k) ?_
      show own_Rch p.tables e below (T2.setTop (mkF m 53 #[.val (.ref a1), .val (.long p1), .second, .val (.long p2), .second, .val (.int (0 : Int32))] [(.int (0 : Int32))])) _
      exact own_fin X2 hx (t := .boolean) (i := .ireturn) Bd.returns Bd.notSynchronized rfl (Or.inl ⟨rfl, by simp, _, rfl⟩) (hb hby d1_53) (by decide) (by decide) ⟨by simp only [own_up, if_neg c4, if_neg c29], N0, e2⟩
def Q0 (n0 : Nat) (v : Option Value) (h : Heap) (L : List Loc) : Prop := v = some (.int (1 : Int32)) ∧ Fr n0 L
theorem ef_0 (m : MethodId) (x0 : Int32) (x1 : Int64) (x2 : Int64) : entryFrame m #[(.int x0), (.long x1), (.long x2)] maxLocals = mkF m 0 #[.val (.int x0), .val (.long x1), .second, .val (.long x2), .second, .unset, .unset, .unset, .unset, .unset, .unset, .unset] [] := by first | (simp [entryFrame, mkF, argsToLocals, Value.category, maxLocals]; done) | rfl
theorem pn_com_example_mediation_mediation_rating_RoundingRuleRoundsUpPinLaw : plainName "com/example/mediation/mediation/rating/RoundingRuleRoundsUpPinLaw" = true := by first | (simp [plainName, overriddenIn]; done) | decide +kernel
theorem pd_0 : parseMethodDescriptor "(JJ)Z" = some ⟨[.long, .long], some .boolean⟩ := by decide +kernel
set_option maxRecDepth 65536 in
set_option maxHeartbeats 40000000 in
theorem rm0 (l : Launch) (Z : State) (a0 : Array Value) (hw : ∀ d ∈ tables_1, d.before a0 Z = true) (ws : List Jvm.Cond) (p1 : Int32) (q2 q3 : Int64) (aH aU aD : Addr) (h0 : Heap) (n0 : Nat) (Z0 : n0 ≤ h0.size) (S_HALF_UP : Sta Z h0 "com/example/mediation/mediation/rating/RoundingRule" "HALF_UP" "Lcom/example/mediation/mediation/rating/RoundingRule;" (.ref aH)) (S_UP : Sta Z h0 "com/example/mediation/mediation/rating/RoundingRule" "UP" "Lcom/example/mediation/mediation/rating/RoundingRule;" (.ref aU)) (S_DOWN : Sta Z h0 "com/example/mediation/mediation/rating/RoundingRule" "DOWN" "Lcom/example/mediation/mediation/rating/RoundingRule;" (.ref aD)) (E_aH : Exa Z h0 aH "com/example/mediation/mediation/rating/RoundingRule") (E_aU : Exa Z h0 aU "com/example/mediation/mediation/rating/RoundingRule") (E_aD : Exa Z h0 aD "com/example/mediation/mediation/rating/RoundingRule") (hUH : ¬ aU = aH) (hDH : ¬ aD = aH) (hDU : ¬ aD = aU) :
    MetFree l x (head1 (Jvm.Cond.code x code maxLocals ret :: ws) room_1) (fun a U => a = #[(.int p1), (.long q2), (.long q3)] ∧ Z.Warmed39 U.vm ∧ U.heap = h0) (fun _ _ _ _ _ => True) (fun _ U o U' => ∃ v L, o = .returned v ∧ Q0 n0 v U'.heap L ∧ FrameEnd U o U' L room_1.cells room_1.slots) := by
  refine MetFree.of_bodySF (plainFor_of_name pn_com_example_mediation_mediation_rating_RoundingRuleRoundsUpPinLaw) hisR ?_
  intro p e s m args below meth c s₁ Bd hml0 hP hK
  obtain ⟨rfl, hZ, hh⟩ := hP
  have hx := Bd.exec
  have hby := Bd.bytes
  have hml : c.maxLocals = 12 := hml0
  have hown : s.vm.findClass "com/example/mediation/mediation/rating/RoundingRuleRoundsUpPinLaw" = some m.cls := findClass_of_methodNamed Bd.named
  have hnm := (name_of_methodNamed Bd.named Bd.method).1
  have X0 : Stand p l e room_1 s m #[(.int p1), (.long q2), (.long q3)] below meth c s₁ [] 0 0 := Stand.of_body Bd
  have e0 : s₁.heap = h0 := by rw [← hh, Bd.state]; rfl
  have N0 := Fr.nil n0
  show own_Rch p.tables e below (s₁.setTop (entryFrame m #[(.int p1), (.long q2), (.long q3)] maxLocals)) (own_End s (Q0 n0) room_1.cells room_1.slots)
  refine own_via (fun t k => castTop (ef_0 m p1 q2 q3) k) ?_
  show own_Rch p.tables e below (s₁.setTop (mkF m 0 #[.val (.int p1), .val (.long q2), .second, .val (.long q3), .second, .unset, .unset, .unset, .unset, .unset, .unset, .unset] [])) _
  refine own_via (fun t k => XS.lloadN X0.here hx rfl (hb hby at_0) rfl k) ?_
  show own_Rch p.tables e below (s₁.setTop (mkF m 1 #[.val (.int p1), .val (.long q2), .second, .val (.long q3), .second, .unset, .unset, .unset, .unset, .unset, .unset, .unset] [(.long q3)])) _
  refine own_via (X0.ldc2Long hx hown (mvT hZ (hw _ (List.mem_of_getElem? (i := 0) rfl))) (g := (mkF m 1 #[.val (.int p1), .val (.long q2), .second, .val (.long q3), .second, .unset, .unset, .unset, .unset, .unset, .unset, .unset] [(.long q3)])) rfl (hb hby at_1)) ?_
  show own_Rch p.tables e below (s₁.setTop (mkF m 4 #[.val (.int p1), .val (.long q2), .second, .val (.long q3), .second, .unset, .unset, .unset, .unset, .unset, .unset, .unset] [(.long (9223372036854775807 : Int64)), (.long q3)])) _
  refine own_via (fun t k => XS.land X0.here hx rfl (hb hby at_4) rfl k) ?_
  show own_Rch p.tables e below (s₁.setTop (mkF m 5 #[.val (.int p1), .val (.long q2), .second, .val (.long q3), .second, .unset, .unset, .unset, .unset, .unset, .unset, .unset] [(.long (q3 &&& (9223372036854775807 : Int64)))])) _
  refine own_via (fun t k => XS.lstore X0.here hx rfl (hb hby at_5) rfl (l' := #[.val (.int p1), .val (.long q2), .second, .val (.long q3), .second, .val (.long (q3 &&& (9223372036854775807 : Int64))), .second, .unset, .unset, .unset, .unset, .unset]) rfl k) ?_
  show own_Rch p.tables e below (s₁.setTop (mkF m 7 #[.val (.int p1), .val (.long q2), .second, .val (.long q3), .second, .val (.long (q3 &&& (9223372036854775807 : Int64))), .second, .unset, .unset, .unset, .unset, .unset] [])) _
  refine own_via (fun t k => XS.lload X0.here hx rfl (hb hby at_7) rfl k) ?_
  show own_Rch p.tables e below (s₁.setTop (mkF m 9 #[.val (.int p1), .val (.long q2), .second, .val (.long q3), .second, .val (.long (q3 &&& (9223372036854775807 : Int64))), .second, .unset, .unset, .unset, .unset, .unset] [(.long (q3 &&& (9223372036854775807 : Int64)))])) _
  refine own_via (fun t k => XS.lconst X0.here hx rfl (hb hby at_9) k) ?_
  show own_Rch p.tables e below (s₁.setTop (mkF m 10 #[.val (.int p1), .val (.long q2), .second, .val (.long q3), .second, .val (.long (q3 &&& (9223372036854775807 : Int64))), .second, .unset, .unset, .unset, .unset, .unset] [(.long (0 : Int64)), (.long (q3 &&& (9223372036854775807 : Int64)))])) _
  refine own_via (fun t k => XS.lcmp X0.here hx rfl (hb hby at_10) rfl k) ?_
  show own_Rch p.tables e below (s₁.setTop (mkF m 11 #[.val (.int p1), .val (.long q2), .second, .val (.long q3), .second, .val (.long (q3 &&& (9223372036854775807 : Int64))), .second, .unset, .unset, .unset, .unset, .unset] [(.int (lcmpW (q3 &&& (9223372036854775807 : Int64)) (0 : Int64)))])) _
  by_cases c11 : (q3 &&& (9223372036854775807 : Int64)) = (0 : Int64)
  · refine own_via (fun t k => XS.ifNo X0.here hx rfl (hb hby at_11) rfl ((if0 _ _).trans (teq ((lw_eq (q3 &&& (9223372036854775807 : Int64)) (0 : Int64)).mpr c11)).2) k) ?_
    show own_Rch p.tables e below (s₁.setTop (mkF m 14 #[.val (.int p1), .val (.long q2), .second, .val (.long q3), .second, .val (.long (q3 &&& (9223372036854775807 : Int64))), .second, .unset, .unset, .unset, .unset, .unset] [])) _
    refine own_via (fun t k => XS.lconst X0.here hx rfl (hb hby at_14) k) ?_
    show own_Rch p.tables e below (s₁.setTop (mkF m 15 #[.val (.int p1), .val (.long q2), .second, .val (.long q3), .second, .val (.long (q3 &&& (9223372036854775807 : Int64))), .second, .unset, .unset, .unset, .unset, .unset] [(.long (1 : Int64))])) _
    refine own_via (fun t k => XS.lstore X0.here hx rfl (hb hby at_15) rfl (l' := #[.val (.int p1), .val (.long q2), .second, .val (.long q3), .second, .val (.long (1 : Int64)), .second, .unset, .unset, .unset, .unset, .unset]) rfl k) ?_
    show own_Rch p.tables e below (s₁.setTop (mkF m 17 #[.val (.int p1), .val (.long q2), .second, .val (.long q3), .second, .val (.long (1 : Int64)), .second, .unset, .unset, .unset, .unset, .unset] [])) _
    refine own_via (fun t k => XS.lloadN X0.here hx rfl (hb hby at_17) rfl k) ?_
    show own_Rch p.tables e below (s₁.setTop (mkF m 18 #[.val (.int p1), .val (.long q2), .second, .val (.long q3), .second, .val (.long (1 : Int64)), .second, .unset, .unset, .unset, .unset, .unset] [(.long q2)])) _
    refine own_via (X0.ldc2Long hx hown (mvT hZ (hw _ (List.mem_of_getElem? (i := 0) rfl))) (g := (mkF m 18 #[.val (.int p1), .val (.long q2), .second, .val (.long q3), .second, .val (.long (1 : Int64)), .second, .unset, .unset, .unset, .unset, .unset] [(.long q2)])) rfl (hb hby at_18)) ?_
    show own_Rch p.tables e below (s₁.setTop (mkF m 21 #[.val (.int p1), .val (.long q2), .second, .val (.long q3), .second, .val (.long (1 : Int64)), .second, .unset, .unset, .unset, .unset, .unset] [(.long (9223372036854775807 : Int64)), (.long q2)])) _
    refine own_via (fun t k => XS.land X0.here hx rfl (hb hby at_21) rfl k) ?_
    show own_Rch p.tables e below (s₁.setTop (mkF m 22 #[.val (.int p1), .val (.long q2), .second, .val (.long q3), .second, .val (.long (1 : Int64)), .second, .unset, .unset, .unset, .unset, .unset] [(.long (q2 &&& (9223372036854775807 : Int64)))])) _
    refine own_via (fun t k => XS.lload X0.here hx rfl (hb hby at_22) rfl k) ?_
    show own_Rch p.tables e below (s₁.setTop (mkF m 24 #[.val (.int p1), .val (.long q2), .second, .val (.long q3), .second, .val (.long (1 : Int64)), .second, .unset, .unset, .unset, .unset, .unset] [(.long (1 : Int64)), (.long (q2 &&& (9223372036854775807 : Int64)))])) _
    refine own_via (fun t k => own_lrem X0 hx rfl (hb hby at_24) rfl (by decide) k) ?_
    show own_Rch p.tables e below (s₁.setTop (mkF m 25 #[.val (.int p1), .val (.long q2), .second, .val (.long q3), .second, .val (.long (1 : Int64)), .second, .unset, .unset, .unset, .unset, .unset] [(.long ((q2 &&& (9223372036854775807 : Int64)) % (1 : Int64)))])) _
    refine own_via (fun t k => XS.lstore X0.here hx rfl (hb hby at_25) rfl (l' := #[.val (.int p1), .val (.long q2), .second, .val (.long q3), .second, .val (.long (1 : Int64)), .second, .val (.long ((q2 &&& (9223372036854775807 : Int64)) % (1 : Int64))), .second, .unset, .unset, .unset]) rfl k) ?_
    show own_Rch p.tables e below (s₁.setTop (mkF m 27 #[.val (.int p1), .val (.long q2), .second, .val (.long q3), .second, .val (.long (1 : Int64)), .second, .val (.long ((q2 &&& (9223372036854775807 : Int64)) % (1 : Int64))), .second, .unset, .unset, .unset] [])) _
    refine own_via (fun t k => XS.iloadN X0.here hx rfl (hb hby at_27) rfl k) ?_
    show own_Rch p.tables e below (s₁.setTop (mkF m 28 #[.val (.int p1), .val (.long q2), .second, .val (.long q3), .second, .val (.long (1 : Int64)), .second, .val (.long ((q2 &&& (9223372036854775807 : Int64)) % (1 : Int64))), .second, .unset, .unset, .unset] [(.int p1)])) _
    refine own_via (X0.ldcInt hx hown (mvT hZ (hw _ (List.mem_of_getElem? (i := 1) rfl))) (g := (mkF m 28 #[.val (.int p1), .val (.long q2), .second, .val (.long q3), .second, .val (.long (1 : Int64)), .second, .val (.long ((q2 &&& (9223372036854775807 : Int64)) % (1 : Int64))), .second, .unset, .unset, .unset] [(.int p1)])) rfl (hb hby at_28)) ?_
    show own_Rch p.tables e below (s₁.setTop (mkF m 30 #[.val (.int p1), .val (.long q2), .second, .val (.long q3), .second, .val (.long (1 : Int64)), .second, .val (.long ((q2 &&& (9223372036854775807 : Int64)) % (1 : Int64))), .second, .unset, .unset, .unset] [(.int (2147483647 : Int32)), (.int p1)])) _
    refine own_via (fun t k => XS.iand X0.here hx rfl (hb hby at_30) rfl k) ?_
    show own_Rch p.tables e below (s₁.setTop (mkF m 31 #[.val (.int p1), .val (.long q2), .second, .val (.long q3), .second, .val (.long (1 : Int64)), .second, .val (.long ((q2 &&& (9223372036854775807 : Int64)) % (1 : Int64))), .second, .unset, .unset, .unset] [(.int (p1 &&& (2147483647 : Int32)))])) _
    refine own_via (fun t k => XS.iconst X0.here hx rfl (hb hby at_31) k) ?_
    show own_Rch p.tables e below (s₁.setTop (mkF m 32 #[.val (.int p1), .val (.long q2), .second, .val (.long q3), .second, .val (.long (1 : Int64)), .second, .val (.long ((q2 &&& (9223372036854775807 : Int64)) % (1 : Int64))), .second, .unset, .unset, .unset] [(.int (3 : Int32)), (.int (p1 &&& (2147483647 : Int32)))])) _
    refine own_via (fun t k => iremM X0 hx rfl (hb hby at_32) rfl (by decide) k) ?_
    show own_Rch p.tables e below (s₁.setTop (mkF m 33 #[.val (.int p1), .val (.long q2), .second, .val (.long q3), .second, .val (.long (1 : Int64)), .second, .val (.long ((q2 &&& (9223372036854775807 : Int64)) % (1 : Int64))), .second, .unset, .unset, .unset] [(.int ((p1 &&& (2147483647 : Int32)) % (3 : Int32)))])) _
    refine own_via (fun t k => XS.istore X0.here hx rfl (hb hby at_33) rfl (l' := #[.val (.int p1), .val (.long q2), .second, .val (.long q3), .second, .val (.long (1 : Int64)), .second, .val (.long ((q2 &&& (9223372036854775807 : Int64)) % (1 : Int64))), .second, .val (.int ((p1 &&& (2147483647 : Int32)) % (3 : Int32))), .unset, .unset]) rfl k) ?_
    show own_Rch p.tables e below (s₁.setTop (mkF m 35 #[.val (.int p1), .val (.long q2), .second, .val (.long q3), .second, .val (.long (1 : Int64)), .second, .val (.long ((q2 &&& (9223372036854775807 : Int64)) % (1 : Int64))), .second, .val (.int ((p1 &&& (2147483647 : Int32)) % (3 : Int32))), .unset, .unset] [])) _
    refine own_via (fun t k => XS.iload X0.here hx rfl (hb hby at_35) rfl k) ?_
    show own_Rch p.tables e below (s₁.setTop (mkF m 37 #[.val (.int p1), .val (.long q2), .second, .val (.long q3), .second, .val (.long (1 : Int64)), .second, .val (.long ((q2 &&& (9223372036854775807 : Int64)) % (1 : Int64))), .second, .val (.int ((p1 &&& (2147483647 : Int32)) % (3 : Int32))), .unset, .unset] [(.int ((p1 &&& (2147483647 : Int32)) % (3 : Int32)))])) _
    by_cases c37 : ((p1 &&& (2147483647 : Int32)) % (3 : Int32)) = (0 : Int32)
    · refine own_via (fun t k => XS.ifNo X0.here hx rfl (hb hby at_37) rfl ((if0 _ _).trans (teq c37).2) k) ?_
      show own_Rch p.tables e below (s₁.setTop (mkF m 40 #[.val (.int p1), .val (.long q2), .second, .val (.long q3), .second, .val (.long (1 : Int64)), .second, .val (.long ((q2 &&& (9223372036854775807 : Int64)) % (1 : Int64))), .second, .val (.int ((p1 &&& (2147483647 : Int32)) % (3 : Int32))), .unset, .unset] [])) _
      obtain ⟨T1, X1, e1, st1⟩ := getS2 X0 hx hZ hown (host := "") (Or.inl (hw _ (List.mem_of_getElem? (i := 2) rfl))) Via.refl e0 S_HALF_UP (g := (mkF m 40 #[.val (.int p1), .val (.long q2), .second, .val (.long q3), .second, .val (.long (1 : Int64)), .second, .val (.long ((q2 &&& (9223372036854775807 : Int64)) % (1 : Int64))), .second, .val (.int ((p1 &&& (2147483647 : Int32)) % (3 : Int32))), .unset, .unset] [])) rfl (hb hby at_40)
      refine own_via st1 ?_
      show own_Rch p.tables e below (T1.setTop (mkF m 43 #[.val (.int p1), .val (.long q2), .second, .val (.long q3), .second, .val (.long (1 : Int64)), .second, .val (.long ((q2 &&& (9223372036854775807 : Int64)) % (1 : Int64))), .second, .val (.int ((p1 &&& (2147483647 : Int32)) % (3 : Int32))), .unset, .unset] [(.ref aH)])) _
      refine own_via (fun t k => XS.astore X1.here hx rfl (hb hby at_43) rfl rfl (l' := #[.val (.int p1), .val (.long q2), .second, .val (.long q3), .second, .val (.long (1 : Int64)), .second, .val (.long ((q2 &&& (9223372036854775807 : Int64)) % (1 : Int64))), .second, .val (.int ((p1 &&& (2147483647 : Int32)) % (3 : Int32))), .val (.ref aH), .unset]) rfl k) ?_
      show own_Rch p.tables e below (T1.setTop (mkF m 45 #[.val (.int p1), .val (.long q2), .second, .val (.long q3), .second, .val (.long (1 : Int64)), .second, .val (.long ((q2 &&& (9223372036854775807 : Int64)) % (1 : Int64))), .second, .val (.int ((p1 &&& (2147483647 : Int32)) % (3 : Int32))), .val (.ref aH), .unset] [])) _
      refine own_via (fun t k => XS.lload X1.here hx rfl (hb hby at_45) rfl k) ?_
      show own_Rch p.tables e below (T1.setTop (mkF m 47 #[.val (.int p1), .val (.long q2), .second, .val (.long q3), .second, .val (.long (1 : Int64)), .second, .val (.long ((q2 &&& (9223372036854775807 : Int64)) % (1 : Int64))), .second, .val (.int ((p1 &&& (2147483647 : Int32)) % (3 : Int32))), .val (.ref aH), .unset] [(.long ((q2 &&& (9223372036854775807 : Int64)) % (1 : Int64)))])) _
      refine own_via (fun t k => XS.lload X1.here hx rfl (hb hby at_47) rfl k) ?_
      show own_Rch p.tables e below (T1.setTop (mkF m 49 #[.val (.int p1), .val (.long q2), .second, .val (.long q3), .second, .val (.long (1 : Int64)), .second, .val (.long ((q2 &&& (9223372036854775807 : Int64)) % (1 : Int64))), .second, .val (.int ((p1 &&& (2147483647 : Int32)) % (3 : Int32))), .val (.ref aH), .unset] [(.long (1 : Int64)), (.long ((q2 &&& (9223372036854775807 : Int64)) % (1 : Int64)))])) _
      refine own_via (X1.ldc2Long hx hown (mvT hZ (hw _ (List.mem_of_getElem? (i := 5) rfl))) (g := (mkF m 49 #[.val (.int p1), .val (.long q2), .second, .val (.long q3), .second, .val (.long (1 : Int64)), .second, .val (.long ((q2 &&& (9223372036854775807 : Int64)) % (1 : Int64))), .second, .val (.int ((p1 &&& (2147483647 : Int32)) % (3 : Int32))), .val (.ref aH), .unset] [(.long (1 : Int64)), (.long ((q2 &&& (9223372036854775807 : Int64)) % (1 : Int64)))])) rfl (hb hby at_49)) ?_
      show own_Rch p.tables e below (T1.setTop (mkF m 52 #[.val (.int p1), .val (.long q2), .second, .val (.long q3), .second, .val (.long (1 : Int64)), .second, .val (.long ((q2 &&& (9223372036854775807 : Int64)) % (1 : Int64))), .second, .val (.int ((p1 &&& (2147483647 : Int32)) % (3 : Int32))), .val (.ref aH), .unset] [(.long (2 : Int64)), (.long (1 : Int64)), (.long ((q2 &&& (9223372036854775807 : Int64)) % (1 : Int64)))])) _
      refine own_via (fun t k => XS.ldiv X1.here hx rfl (hb hby at_52) rfl (by decide) k) ?_
      show own_Rch p.tables e below (T1.setTop (mkF m 53 #[.val (.int p1), .val (.long q2), .second, .val (.long q3), .second, .val (.long (1 : Int64)), .second, .val (.long ((q2 &&& (9223372036854775807 : Int64)) % (1 : Int64))), .second, .val (.int ((p1 &&& (2147483647 : Int32)) % (3 : Int32))), .val (.ref aH), .unset] [(.long ((1 : Int64) / (2 : Int64))), (.long ((q2 &&& (9223372036854775807 : Int64)) % (1 : Int64)))])) _
      refine own_via (fun t k => XS.lload X1.here hx rfl (hb hby at_53) rfl k) ?_
      show own_Rch p.tables e below (T1.setTop (mkF m 55 #[.val (.int p1), .val (.long q2), .second, .val (.long q3), .second, .val (.long (1 : Int64)), .second, .val (.long ((q2 &&& (9223372036854775807 : Int64)) % (1 : Int64))), .second, .val (.int ((p1 &&& (2147483647 : Int32)) % (3 : Int32))), .val (.ref aH), .unset] [(.long (1 : Int64)), (.long ((1 : Int64) / (2 : Int64))), (.long ((q2 &&& (9223372036854775807 : Int64)) % (1 : Int64)))])) _
      refine own_via (fun t k => XS.lconst X1.here hx rfl (hb hby at_55) k) ?_
      show own_Rch p.tables e below (T1.setTop (mkF m 56 #[.val (.int p1), .val (.long q2), .second, .val (.long q3), .second, .val (.long (1 : Int64)), .second, .val (.long ((q2 &&& (9223372036854775807 : Int64)) % (1 : Int64))), .second, .val (.int ((p1 &&& (2147483647 : Int32)) % (3 : Int32))), .val (.ref aH), .unset] [(.long (1 : Int64)), (.long (1 : Int64)), (.long ((1 : Int64) / (2 : Int64))), (.long ((q2 &&& (9223372036854775807 : Int64)) % (1 : Int64)))])) _
      refine own_via (fun t k => XS.land X1.here hx rfl (hb hby at_56) rfl k) ?_
      show own_Rch p.tables e below (T1.setTop (mkF m 57 #[.val (.int p1), .val (.long q2), .second, .val (.long q3), .second, .val (.long (1 : Int64)), .second, .val (.long ((q2 &&& (9223372036854775807 : Int64)) % (1 : Int64))), .second, .val (.int ((p1 &&& (2147483647 : Int32)) % (3 : Int32))), .val (.ref aH), .unset] [(.long (1 : Int64)), (.long ((1 : Int64) / (2 : Int64))), (.long ((q2 &&& (9223372036854775807 : Int64)) % (1 : Int64)))])) _
      refine own_via (fun t k => XS.ladd X1.here hx rfl (hb hby at_57) rfl k) ?_
      show own_Rch p.tables e below (T1.setTop (mkF m 58 #[.val (.int p1), .val (.long q2), .second, .val (.long q3), .second, .val (.long (1 : Int64)), .second, .val (.long ((q2 &&& (9223372036854775807 : Int64)) % (1 : Int64))), .second, .val (.int ((p1 &&& (2147483647 : Int32)) % (3 : Int32))), .val (.ref aH), .unset] [(.long (((1 : Int64) / (2 : Int64)) + (1 : Int64))), (.long ((q2 &&& (9223372036854775807 : Int64)) % (1 : Int64)))])) _
      refine own_via (fun t k => XS.lcmp X1.here hx rfl (hb hby at_58) rfl k) ?_
      show own_Rch p.tables e below (T1.setTop (mkF m 59 #[.val (.int p1), .val (.long q2), .second, .val (.long q3), .second, .val (.long (1 : Int64)), .second, .val (.long ((q2 &&& (9223372036854775807 : Int64)) % (1 : Int64))), .second, .val (.int ((p1 &&& (2147483647 : Int32)) % (3 : Int32))), .val (.ref aH), .unset] [(.int (lcmpW ((q2 &&& (9223372036854775807 : Int64)) % (1 : Int64)) (((1 : Int64) / (2 : Int64)) + (1 : Int64))))])) _
      by_cases c59 : ((q2 &&& (9223372036854775807 : Int64)) % (1 : Int64)) < (((1 : Int64) / (2 : Int64)) + (1 : Int64))
      · refine own_via (fun t k => XS.ifYes X1.here hx rfl (pc0 := 59) (pc' := 66) rfl (hb hby at_59) rfl ((if0 _ _).trans (tlt ((lw_lt ((q2 &&& (9223372036854775807 : Int64)) % (1 : Int64)) (((1 : Int64) / (2 : Int64)) + (1 : Int64))).mpr c59)).1) (by decide) (by decide) k) ?_
        show own_Rch p.tables e below (T1.setTop (mkF m 66 #[.val (.int p1), .val (.long q2), .second, .val (.long q3), .second, .val (.long (1 : Int64)), .second, .val (.long ((q2 &&& (9223372036854775807 : Int64)) % (1 : Int64))), .second, .val (.int ((p1 &&& (2147483647 : Int32)) % (3 : Int32))), .val (.ref aH), .unset] [])) _
        refine own_via (fun t k => XS.iconst X1.here hx rfl (hb hby at_66) k) ?_
        show own_Rch p.tables e below (T1.setTop (mkF m 67 #[.val (.int p1), .val (.long q2), .second, .val (.long q3), .second, .val (.long (1 : Int64)), .second, .val (.long ((q2 &&& (9223372036854775807 : Int64)) % (1 : Int64))), .second, .val (.int ((p1 &&& (2147483647 : Int32)) % (3 : Int32))), .val (.ref aH), .unset] [(.int (0 : Int32))])) _
        refine own_via (fun t k => XS.istore X1.here hx rfl (hb hby at_67) rfl (l' := #[.val (.int p1), .val (.long q2), .second, .val (.long q3), .second, .val (.long (1 : Int64)), .second, .val (.long ((q2 &&& (9223372036854775807 : Int64)) % (1 : Int64))), .second, .val (.int ((p1 &&& (2147483647 : Int32)) % (3 : Int32))), .val (.ref aH), .val (.int (0 : Int32))]) rfl k) ?_
        show own_Rch p.tables e below (T1.setTop (mkF m 69 #[.val (.int p1), .val (.long q2), .second, .val (.long q3), .second, .val (.long (1 : Int64)), .second, .val (.long ((q2 &&& (9223372036854775807 : Int64)) % (1 : Int64))), .second, .val (.int ((p1 &&& (2147483647 : Int32)) % (3 : Int32))), .val (.ref aH), .val (.int (0 : Int32))] [])) _
        refine own_via (fun t k => XS.goto X1.here hx rfl (pc0 := 69) (pc' := 108) rfl (hb hby at_69) (by decide) (by decide) k) ?_
        show own_Rch p.tables e below (T1.setTop (mkF m 108 #[.val (.int p1), .val (.long q2), .second, .val (.long q3), .second, .val (.long (1 : Int64)), .second, .val (.long ((q2 &&& (9223372036854775807 : Int64)) % (1 : Int64))), .second, .val (.int ((p1 &&& (2147483647 : Int32)) % (3 : Int32))), .val (.ref aH), .val (.int (0 : Int32))] [])) _
        refine own_via (fun t k => XS.aload X1.here hx rfl (hb hby at_108) rfl rfl k) ?_
        show own_Rch p.tables e below (T1.setTop (mkF m 110 #[.val (.int p1), .val (.long q2), .second, .val (.long q3), .second, .val (.long (1 : Int64)), .second, .val (.long ((q2 &&& (9223372036854775807 : Int64)) % (1 : Int64))), .second, .val (.int ((p1 &&& (2147483647 : Int32)) % (3 : Int32))), .val (.ref aH), .val (.int (0 : Int32))] [(.ref aH)])) _
        refine own_via (fun t k => XS.lload X1.here hx rfl (hb hby at_110) rfl k) ?_
        show own_Rch p.tables e below (T1.setTop (mkF m 112 #[.val (.int p1), .val (.long q2), .second, .val (.long q3), .second, .val (.long (1 : Int64)), .second, .val (.long ((q2 &&& (9223372036854775807 : Int64)) % (1 : Int64))), .second, .val (.int ((p1 &&& (2147483647 : Int32)) % (3 : Int32))), .val (.ref aH), .val (.int (0 : Int32))] [(.long ((q2 &&& (9223372036854775807 : Int64)) % (1 : Int64))), (.ref aH)])) _
        refine own_via (fun t k => XS.lload X1.here hx rfl (hb hby at_112) rfl k) ?_
        show own_Rch p.tables e below (T1.setTop (mkF m 114 #[.val (.int p1), .val (.long q2), .second, .val (.long q3), .second, .val (.long (1 : Int64)), .second, .val (.long ((q2 &&& (9223372036854775807 : Int64)) % (1 : Int64))), .second, .val (.int ((p1 &&& (2147483647 : Int32)) % (3 : Int32))), .val (.ref aH), .val (.int (0 : Int32))] [(.long (1 : Int64)), (.long ((q2 &&& (9223372036854775807 : Int64)) % (1 : Int64))), (.ref aH)])) _
        obtain ⟨cq2, kq2, q2a, q2b, q2c⟩ := isOf hZ e1 E_aH
        obtain ⟨_, _, ⟨T2, L2, k2, n2⟩, -, X2, ⟨Lc2, hQ2, l2, y2, z2⟩, st2⟩ := X1.virtualBack hx (y := (⟨"com/example/mediation/mediation/rating/RoundingRule", "roundsUp", "(JJ)Z"⟩ : MethodName)) (z := (⟨"com/example/mediation/mediation/rating/RoundingRule", "roundsUp", "(JJ)Z"⟩ : MethodName)) hown (mvT hZ (hw _ (List.mem_of_getElem? (i := 6) rfl))) (mvT hZ (hw _ (List.mem_of_getElem? (i := 7) rfl))) (notFace_of_selects (args := #[]) (mvT hZ (hw _ (List.mem_of_getElem? (i := 9) rfl)))) (mvT hZ (hw _ (List.mem_of_getElem? (i := 9) rfl))) (mvT hZ (hw _ (List.mem_of_getElem? (i := 8) rfl))) (by decide) (backOf (W := 0) (rm1 l Z a0 hw [] aH ((q2 &&& (9223372036854775807 : Int64)) % (1 : Int64)) (1 : Int64) aH aU h0 n0 S_HALF_UP S_UP) hZ (hw _ (List.mem_of_getElem? (i := 10) rfl)) (hw _ (List.mem_of_getElem? (i := 3) rfl)) (by decide) (by decide)) q2a q2c (g := (mkF m 114 #[.val (.int p1), .val (.long q2), .second, .val (.long q3), .second, .val (.long (1 : Int64)), .second, .val (.long ((q2 &&& (9223372036854775807 : Int64)) % (1 : Int64))), .second, .val (.int ((p1 &&& (2147483647 : Int32)) % (3 : Int32))), .val (.ref aH), .val (.int (0 : Int32))] [(.long (1 : Int64)), (.long ((q2 &&& (9223372036854775807 : Int64)) % (1 : Int64))), (.ref aH)])) rfl (by rw [hml]; rfl) (Steps.refl _) (argsL := [(.long ((q2 &&& (9223372036854775807 : Int64)) % (1 : Int64))), (.long (1 : Int64))]) (rest := []) (lenOf pd_0 rfl) rfl (by show 2 * 0 + _ ≤ _; exact Nat.le_of_eq rfl) (hb hby at_114) (fun _ _ => ⟨rfl, e1, (by decide : 0 + 0 ≤ _), (by decide : 0 + 0 ≤ _)⟩)
        dsimp only [Pt.U, Pt.locs, Pt.cells, Pt.slots] at X2 l2 y2 z2 st2 hQ2
        subst l2 y2 z2
        obtain ⟨rfl, N2q, eh2⟩ := hQ2
        have N2 := Fr.app N0 N2q
        refine own_via (fun t k => st2.trans k) ?_
        show own_Rch p.tables e below (T2.setTop (mkF m 117 #[.val (.int p1), .val (.long q2), .second, .val (.long q3), .second, .val (.long (1 : Int64)), .second, .val (.long ((q2 &&& (9223372036854775807 : Int64)) % (1 : Int64))), .second, .val (.int ((p1 &&& (2147483647 : Int32)) % (3 : Int32))), .val (.ref aH), .val (.int (0 : Int32))] [(.int (own_up aH aH aU ((q2 &&& (9223372036854775807 : Int64)) % (1 : Int64)) (1 : Int64)))])) _
        refine own_via (fun t k => XS.iload X2.here hx rfl (hb hby at_117) rfl k) ?_
        show own_Rch p.tables e below (T2.setTop (mkF m 119 #[.val (.int p1), .val (.long q2), .second, .val (.long q3), .second, .val (.long (1 : Int64)), .second, .val (.long ((q2 &&& (9223372036854775807 : Int64)) % (1 : Int64))), .second, .val (.int ((p1 &&& (2147483647 : Int32)) % (3 : Int32))), .val (.ref aH), .val (.int (0 : Int32))] [(.int (0 : Int32)), (.int (own_up aH aH aU ((q2 &&& (9223372036854775807 : Int64)) % (1 : Int64)) (1 : Int64)))])) _
        have hq : (own_up aH aH aU ((q2 &&& (9223372036854775807 : Int64)) % (1 : Int64)) (1 : Int64)) = (0 : Int32) := (own_L0 aH aU _ _ (own_rem q2 (1 : Int64) (by decide : 0 < (1 : Int64).toInt)).1 (own_rem q2 (1 : Int64) (by decide : 0 < (1 : Int64).toInt)).2).trans (if_pos c59)
        refine own_via (fun t k => XS.icmpNo X2.here hx rfl (hb hby at_119) rfl (teq hq).2 k) ?_
        show own_Rch p.tables e below (T2.setTop (mkF m 122 #[.val (.int p1), .val (.long q2), .second, .val (.long q3), .second, .val (.long (1 : Int64)), .second, .val (.long ((q2 &&& (9223372036854775807 : Int64)) % (1 : Int64))), .second, .val (.int ((p1 &&& (2147483647 : Int32)) % (3 : Int32))), .val (.ref aH), .val (.int (0 : Int32))] [])) _
        refine own_via (fun t k => XS.iconst X2.here hx rfl (hb hby at_122) k) ?_
        show own_Rch p.tables e below (T2.setTop (mkF m 123 #[.val (.int p1), .val (.long q2), .second, .val (.long q3), .second, .val (.long (1 : Int64)), .second, .val (.long ((q2 &&& (9223372036854775807 : Int64)) % (1 : Int64))), .second, .val (.int ((p1 &&& (2147483647 : Int32)) % (3 : Int32))), .val (.ref aH), .val (.int (0 : Int32))] [(.int (1 : Int32))])) _
        refine own_via (fun t k => XS.goto X2.here hx rfl (pc0 := 123) (pc' := 127) rfl (hb hby at_123) (by decide) (by decide) k) ?_
        show own_Rch p.tables e below (T2.setTop (mkF m 127 #[.val (.int p1), .val (.long q2), .second, .val (.long q3), .second, .val (.long (1 : Int64)), .second, .val (.long ((q2 &&& (9223372036854775807 : Int64)) % (1 : Int64))), .second, .val (.int ((p1 &&& (2147483647 : Int32)) % (3 : Int32))), .val (.ref aH), .val (.int (0 : Int32))] [(.int (1 : Int32))])) _
        exact own_fin X2 hx (t := .boolean) (i := .ireturn) Bd.returns Bd.notSynchronized rfl (Or.inl ⟨rfl, by simp, _, rfl⟩) (hb hby at_127) (by decide) (by decide) ⟨rfl, N2⟩
      · refine own_via (fun t k => XS.ifNo X1.here hx rfl (hb hby at_59) rfl ((if0 _ _).trans (flt (fun q => c59 ((lw_lt ((q2 &&& (9223372036854775807 : Int64)) % (1 : Int64)) (((1 : Int64) / (2 : Int64)) + (1 : Int64))).mp q))).1) k) ?_
        show own_Rch p.tables e below (T1.setTop (mkF m 62 #[.val (.int p1), .val (.long q2), .second, .val (.long q3), .second, .val (.long (1 : Int64)), .second, .val (.long ((q2 &&& (9223372036854775807 : Int64)) % (1 : Int64))), .second, .val (.int ((p1 &&& (2147483647 : Int32)) % (3 : Int32))), .val (.ref aH), .unset] [])) _
        refine own_via (fun t k => XS.iconst X1.here hx rfl (hb hby at_62) k) ?_
        show own_Rch p.tables e below (T1.setTop (mkF m 63 #[.val (.int p1), .val (.long q2), .second, .val (.long q3), .second, .val (.long (1 : Int64)), .second, .val (.long ((q2 &&& (9223372036854775807 : Int64)) % (1 : Int64))), .second, .val (.int ((p1 &&& (2147483647 : Int32)) % (3 : Int32))), .val (.ref aH), .unset] [(.int (1 : Int32))])) _
        refine own_via (fun t k => XS.goto X1.here hx rfl (pc0 := 63) (pc' := 67) rfl (hb hby at_63) (by decide) (by decide) k) ?_
        show own_Rch p.tables e below (T1.setTop (mkF m 67 #[.val (.int p1), .val (.long q2), .second, .val (.long q3), .second, .val (.long (1 : Int64)), .second, .val (.long ((q2 &&& (9223372036854775807 : Int64)) % (1 : Int64))), .second, .val (.int ((p1 &&& (2147483647 : Int32)) % (3 : Int32))), .val (.ref aH), .unset] [(.int (1 : Int32))])) _
        refine own_via (fun t k => XS.istore X1.here hx rfl (hb hby at_67) rfl (l' := #[.val (.int p1), .val (.long q2), .second, .val (.long q3), .second, .val (.long (1 : Int64)), .second, .val (.long ((q2 &&& (9223372036854775807 : Int64)) % (1 : Int64))), .second, .val (.int ((p1 &&& (2147483647 : Int32)) % (3 : Int32))), .val (.ref aH), .val (.int (1 : Int32))]) rfl k) ?_
        show own_Rch p.tables e below (T1.setTop (mkF m 69 #[.val (.int p1), .val (.long q2), .second, .val (.long q3), .second, .val (.long (1 : Int64)), .second, .val (.long ((q2 &&& (9223372036854775807 : Int64)) % (1 : Int64))), .second, .val (.int ((p1 &&& (2147483647 : Int32)) % (3 : Int32))), .val (.ref aH), .val (.int (1 : Int32))] [])) _
        refine own_via (fun t k => XS.goto X1.here hx rfl (pc0 := 69) (pc' := 108) rfl (hb hby at_69) (by decide) (by decide) k) ?_
        show own_Rch p.tables e below (T1.setTop (mkF m 108 #[.val (.int p1), .val (.long q2), .second, .val (.long q3), .second, .val (.long (1 : Int64)), .second, .val (.long ((q2 &&& (9223372036854775807 : Int64)) % (1 : Int64))), .second, .val (.int ((p1 &&& (2147483647 : Int32)) % (3 : Int32))), .val (.ref aH), .val (.int (1 : Int32))] [])) _
        refine own_via (fun t k => XS.aload X1.here hx rfl (hb hby at_108) rfl rfl k) ?_
        show own_Rch p.tables e below (T1.setTop (mkF m 110 #[.val (.int p1), .val (.long q2), .second, .val (.long q3), .second, .val (.long (1 : Int64)), .second, .val (.long ((q2 &&& (9223372036854775807 : Int64)) % (1 : Int64))), .second, .val (.int ((p1 &&& (2147483647 : Int32)) % (3 : Int32))), .val (.ref aH), .val (.int (1 : Int32))] [(.ref aH)])) _
        refine own_via (fun t k => XS.lload X1.here hx rfl (hb hby at_110) rfl k) ?_
        show own_Rch p.tables e below (T1.setTop (mkF m 112 #[.val (.int p1), .val (.long q2), .second, .val (.long q3), .second, .val (.long (1 : Int64)), .second, .val (.long ((q2 &&& (9223372036854775807 : Int64)) % (1 : Int64))), .second, .val (.int ((p1 &&& (2147483647 : Int32)) % (3 : Int32))), .val (.ref aH), .val (.int (1 : Int32))] [(.long ((q2 &&& (9223372036854775807 : Int64)) % (1 : Int64))), (.ref aH)])) _
        refine own_via (fun t k => XS.lload X1.here hx rfl (hb hby at_112) rfl k) ?_
        show own_Rch p.tables e below (T1.setTop (mkF m 114 #[.val (.int p1), .val (.long q2), .second, .val (.long q3), .second, .val (.long (1 : Int64)), .second, .val (.long ((q2 &&& (9223372036854775807 : Int64)) % (1 : Int64))), .second, .val (.int ((p1 &&& (2147483647 : Int32)) % (3 : Int32))), .val (.ref aH), .val (.int (1 : Int32))] [(.long (1 : Int64)), (.long ((q2 &&& (9223372036854775807 : Int64)) % (1 : Int64))), (.ref aH)])) _
        obtain ⟨cq3, kq3, q3a, q3b, q3c⟩ := isOf hZ e1 E_aH
        obtain ⟨_, _, ⟨T3, L3, k3, n3⟩, -, X3, ⟨Lc3, hQ3, l3, y3, z3⟩, st3⟩ := X1.virtualBack hx (y := (⟨"com/example/mediation/mediation/rating/RoundingRule", "roundsUp", "(JJ)Z"⟩ : MethodName)) (z := (⟨"com/example/mediation/mediation/rating/RoundingRule", "roundsUp", "(JJ)Z"⟩ : MethodName)) hown (mvT hZ (hw _ (List.mem_of_getElem? (i := 6) rfl))) (mvT hZ (hw _ (List.mem_of_getElem? (i := 7) rfl))) (notFace_of_selects (args := #[]) (mvT hZ (hw _ (List.mem_of_getElem? (i := 9) rfl)))) (mvT hZ (hw _ (List.mem_of_getElem? (i := 9) rfl))) (mvT hZ (hw _ (List.mem_of_getElem? (i := 8) rfl))) (by decide) (backOf (W := 0) (rm1 l Z a0 hw [] aH ((q2 &&& (9223372036854775807 : Int64)) % (1 : Int64)) (1 : Int64) aH aU h0 n0 S_HALF_UP S_UP) hZ (hw _ (List.mem_of_getElem? (i := 10) rfl)) (hw _ (List.mem_of_getElem? (i := 3) rfl)) (by decide) (by decide)) q3a q3c (g := (mkF m 114 #[.val (.int p1), .val (.long q2), .second, .val (.long q3), .second, .val (.long (1 : Int64)), .second, .val (.long ((q2 &&& (9223372036854775807 : Int64)) % (1 : Int64))), .second, .val (.int ((p1 &&& (2147483647 : Int32)) % (3 : Int32))), .val (.ref aH), .val (.int (1 : Int32))] [(.long (1 : Int64)), (.long ((q2 &&& (9223372036854775807 : Int64)) % (1 : Int64))), (.ref aH)])) rfl (by rw [hml]; rfl) (Steps.refl _) (argsL := [(.long ((q2 &&& (9223372036854775807 : Int64)) % (1 : Int64))), (.long (1 : Int64))]) (rest := []) (lenOf pd_0 rfl) rfl (by show 2 * 0 + _ ≤ _; exact Nat.le_of_eq rfl) (hb hby at_114) (fun _ _ => ⟨rfl, e1, (by decide : 0 + 0 ≤ _), (by decide : 0 + 0 ≤ _)⟩)
        dsimp only [Pt.U, Pt.locs, Pt.cells, Pt.slots] at X3 l3 y3 z3 st3 hQ3
        subst l3 y3 z3
        obtain ⟨rfl, N3q, eh3⟩ := hQ3
        have N3 := Fr.app N0 N3q
        refine own_via (fun t k => st3.trans k) ?_
        show own_Rch p.tables e below (T3.setTop (mkF m 117 #[.val (.int p1), .val (.long q2), .second, .val (.long q3), .second, .val (.long (1 : Int64)), .second, .val (.long ((q2 &&& (9223372036854775807 : Int64)) % (1 : Int64))), .second, .val (.int ((p1 &&& (2147483647 : Int32)) % (3 : Int32))), .val (.ref aH), .val (.int (1 : Int32))] [(.int (own_up aH aH aU ((q2 &&& (9223372036854775807 : Int64)) % (1 : Int64)) (1 : Int64)))])) _
        refine own_via (fun t k => XS.iload X3.here hx rfl (hb hby at_117) rfl k) ?_
        show own_Rch p.tables e below (T3.setTop (mkF m 119 #[.val (.int p1), .val (.long q2), .second, .val (.long q3), .second, .val (.long (1 : Int64)), .second, .val (.long ((q2 &&& (9223372036854775807 : Int64)) % (1 : Int64))), .second, .val (.int ((p1 &&& (2147483647 : Int32)) % (3 : Int32))), .val (.ref aH), .val (.int (1 : Int32))] [(.int (1 : Int32)), (.int (own_up aH aH aU ((q2 &&& (9223372036854775807 : Int64)) % (1 : Int64)) (1 : Int64)))])) _
        have hq : (own_up aH aH aU ((q2 &&& (9223372036854775807 : Int64)) % (1 : Int64)) (1 : Int64)) = (1 : Int32) := (own_L0 aH aU _ _ (own_rem q2 (1 : Int64) (by decide : 0 < (1 : Int64).toInt)).1 (own_rem q2 (1 : Int64) (by decide : 0 < (1 : Int64).toInt)).2).trans (if_neg c59)
        refine own_via (fun t k => XS.icmpNo X3.here hx rfl (hb hby at_119) rfl (teq hq).2 k) ?_
        show own_Rch p.tables e below (T3.setTop (mkF m 122 #[.val (.int p1), .val (.long q2), .second, .val (.long q3), .second, .val (.long (1 : Int64)), .second, .val (.long ((q2 &&& (9223372036854775807 : Int64)) % (1 : Int64))), .second, .val (.int ((p1 &&& (2147483647 : Int32)) % (3 : Int32))), .val (.ref aH), .val (.int (1 : Int32))] [])) _
        refine own_via (fun t k => XS.iconst X3.here hx rfl (hb hby at_122) k) ?_
        show own_Rch p.tables e below (T3.setTop (mkF m 123 #[.val (.int p1), .val (.long q2), .second, .val (.long q3), .second, .val (.long (1 : Int64)), .second, .val (.long ((q2 &&& (9223372036854775807 : Int64)) % (1 : Int64))), .second, .val (.int ((p1 &&& (2147483647 : Int32)) % (3 : Int32))), .val (.ref aH), .val (.int (1 : Int32))] [(.int (1 : Int32))])) _
        refine own_via (fun t k => XS.goto X3.here hx rfl (pc0 := 123) (pc' := 127) rfl (hb hby at_123) (by decide) (by decide) k) ?_
        show own_Rch p.tables e below (T3.setTop (mkF m 127 #[.val (.int p1), .val (.long q2), .second, .val (.long q3), .second, .val (.long (1 : Int64)), .second, .val (.long ((q2 &&& (9223372036854775807 : Int64)) % (1 : Int64))), .second, .val (.int ((p1 &&& (2147483647 : Int32)) % (3 : Int32))), .val (.ref aH), .val (.int (1 : Int32))] [(.int (1 : Int32))])) _
        exact own_fin X3 hx (t := .boolean) (i := .ireturn) Bd.returns Bd.notSynchronized rfl (Or.inl ⟨rfl, by simp, _, rfl⟩) (hb hby at_127) (by decide) (by decide) ⟨rfl, N3⟩
    · refine own_via (fun t k => XS.ifYes X0.here hx rfl (pc0 := 37) (pc' := 72) rfl (hb hby at_37) rfl ((if0 _ _).trans (feq c37).2) (by decide) (by decide) k) ?_
      show own_Rch p.tables e below (s₁.setTop (mkF m 72 #[.val (.int p1), .val (.long q2), .second, .val (.long q3), .second, .val (.long (1 : Int64)), .second, .val (.long ((q2 &&& (9223372036854775807 : Int64)) % (1 : Int64))), .second, .val (.int ((p1 &&& (2147483647 : Int32)) % (3 : Int32))), .unset, .unset] [])) _
      refine own_via (fun t k => XS.iload X0.here hx rfl (hb hby at_72) rfl k) ?_
      show own_Rch p.tables e below (s₁.setTop (mkF m 74 #[.val (.int p1), .val (.long q2), .second, .val (.long q3), .second, .val (.long (1 : Int64)), .second, .val (.long ((q2 &&& (9223372036854775807 : Int64)) % (1 : Int64))), .second, .val (.int ((p1 &&& (2147483647 : Int32)) % (3 : Int32))), .unset, .unset] [(.int ((p1 &&& (2147483647 : Int32)) % (3 : Int32)))])) _
      refine own_via (fun t k => XS.iconst X0.here hx rfl (hb hby at_74) k) ?_
      show own_Rch p.tables e below (s₁.setTop (mkF m 75 #[.val (.int p1), .val (.long q2), .second, .val (.long q3), .second, .val (.long (1 : Int64)), .second, .val (.long ((q2 &&& (9223372036854775807 : Int64)) % (1 : Int64))), .second, .val (.int ((p1 &&& (2147483647 : Int32)) % (3 : Int32))), .unset, .unset] [(.int (1 : Int32)), (.int ((p1 &&& (2147483647 : Int32)) % (3 : Int32)))])) _
      by_cases c75 : ((p1 &&& (2147483647 : Int32)) % (3 : Int32)) = (1 : Int32)
      · refine own_via (fun t k => XS.icmpNo X0.here hx rfl (hb hby at_75) rfl (teq c75).2 k) ?_
        show own_Rch p.tables e below (s₁.setTop (mkF m 78 #[.val (.int p1), .val (.long q2), .second, .val (.long q3), .second, .val (.long (1 : Int64)), .second, .val (.long ((q2 &&& (9223372036854775807 : Int64)) % (1 : Int64))), .second, .val (.int ((p1 &&& (2147483647 : Int32)) % (3 : Int32))), .unset, .unset] [])) _
        obtain ⟨T4, X4, e4, st4⟩ := getS2 X0 hx hZ hown (host := "") (Or.inl (hw _ (List.mem_of_getElem? (i := 12) rfl))) Via.refl e0 S_UP (g := (mkF m 78 #[.val (.int p1), .val (.long q2), .second, .val (.long q3), .second, .val (.long (1 : Int64)), .second, .val (.long ((q2 &&& (9223372036854775807 : Int64)) % (1 : Int64))), .second, .val (.int ((p1 &&& (2147483647 : Int32)) % (3 : Int32))), .unset, .unset] [])) rfl (hb hby at_78)
        refine own_via st4 ?_
        show own_Rch p.tables e below (T4.setTop (mkF m 81 #[.val (.int p1), .val (.long q2), .second, .val (.long q3), .second, .val (.long (1 : Int64)), .second, .val (.long ((q2 &&& (9223372036854775807 : Int64)) % (1 : Int64))), .second, .val (.int ((p1 &&& (2147483647 : Int32)) % (3 : Int32))), .unset, .unset] [(.ref aU)])) _
        refine own_via (fun t k => XS.astore X4.here hx rfl (hb hby at_81) rfl rfl (l' := #[.val (.int p1), .val (.long q2), .second, .val (.long q3), .second, .val (.long (1 : Int64)), .second, .val (.long ((q2 &&& (9223372036854775807 : Int64)) % (1 : Int64))), .second, .val (.int ((p1 &&& (2147483647 : Int32)) % (3 : Int32))), .val (.ref aU), .unset]) rfl k) ?_
        show own_Rch p.tables e below (T4.setTop (mkF m 83 #[.val (.int p1), .val (.long q2), .second, .val (.long q3), .second, .val (.long (1 : Int64)), .second, .val (.long ((q2 &&& (9223372036854775807 : Int64)) % (1 : Int64))), .second, .val (.int ((p1 &&& (2147483647 : Int32)) % (3 : Int32))), .val (.ref aU), .unset] [])) _
        refine own_via (fun t k => XS.lload X4.here hx rfl (hb hby at_83) rfl k) ?_
        show own_Rch p.tables e below (T4.setTop (mkF m 85 #[.val (.int p1), .val (.long q2), .second, .val (.long q3), .second, .val (.long (1 : Int64)), .second, .val (.long ((q2 &&& (9223372036854775807 : Int64)) % (1 : Int64))), .second, .val (.int ((p1 &&& (2147483647 : Int32)) % (3 : Int32))), .val (.ref aU), .unset] [(.long ((q2 &&& (9223372036854775807 : Int64)) % (1 : Int64)))])) _
        refine own_via (fun t k => XS.lconst X4.here hx rfl (hb hby at_85) k) ?_
        show own_Rch p.tables e below (T4.setTop (mkF m 86 #[.val (.int p1), .val (.long q2), .second, .val (.long q3), .second, .val (.long (1 : Int64)), .second, .val (.long ((q2 &&& (9223372036854775807 : Int64)) % (1 : Int64))), .second, .val (.int ((p1 &&& (2147483647 : Int32)) % (3 : Int32))), .val (.ref aU), .unset] [(.long (0 : Int64)), (.long ((q2 &&& (9223372036854775807 : Int64)) % (1 : Int64)))])) _
        refine own_via (fun t k => XS.lcmp X4.here hx rfl (hb hby at_86) rfl k) ?_
        show own_Rch p.tables e below (T4.setTop (mkF m 87 #[.val (.int p1), .val (.long q2), .second, .val (.long q3), .second, .val (.long (1 : Int64)), .second, .val (.long ((q2 &&& (9223372036854775807 : Int64)) % (1 : Int64))), .second, .val (.int ((p1 &&& (2147483647 : Int32)) % (3 : Int32))), .val (.ref aU), .unset] [(.int (lcmpW ((q2 &&& (9223372036854775807 : Int64)) % (1 : Int64)) (0 : Int64)))])) _
        by_cases c87 : ((q2 &&& (9223372036854775807 : Int64)) % (1 : Int64)) = (0 : Int64)
        · refine own_via (fun t k => XS.ifYes X4.here hx rfl (pc0 := 87) (pc' := 94) rfl (hb hby at_87) rfl ((if0 _ _).trans (teq ((lw_eq ((q2 &&& (9223372036854775807 : Int64)) % (1 : Int64)) (0 : Int64)).mpr c87)).1) (by decide) (by decide) k) ?_
          show own_Rch p.tables e below (T4.setTop (mkF m 94 #[.val (.int p1), .val (.long q2), .second, .val (.long q3), .second, .val (.long (1 : Int64)), .second, .val (.long ((q2 &&& (9223372036854775807 : Int64)) % (1 : Int64))), .second, .val (.int ((p1 &&& (2147483647 : Int32)) % (3 : Int32))), .val (.ref aU), .unset] [])) _
          refine own_via (fun t k => XS.iconst X4.here hx rfl (hb hby at_94) k) ?_
          show own_Rch p.tables e below (T4.setTop (mkF m 95 #[.val (.int p1), .val (.long q2), .second, .val (.long q3), .second, .val (.long (1 : Int64)), .second, .val (.long ((q2 &&& (9223372036854775807 : Int64)) % (1 : Int64))), .second, .val (.int ((p1 &&& (2147483647 : Int32)) % (3 : Int32))), .val (.ref aU), .unset] [(.int (0 : Int32))])) _
          refine own_via (fun t k => XS.istore X4.here hx rfl (hb hby at_95) rfl (l' := #[.val (.int p1), .val (.long q2), .second, .val (.long q3), .second, .val (.long (1 : Int64)), .second, .val (.long ((q2 &&& (9223372036854775807 : Int64)) % (1 : Int64))), .second, .val (.int ((p1 &&& (2147483647 : Int32)) % (3 : Int32))), .val (.ref aU), .val (.int (0 : Int32))]) rfl k) ?_
          show own_Rch p.tables e below (T4.setTop (mkF m 97 #[.val (.int p1), .val (.long q2), .second, .val (.long q3), .second, .val (.long (1 : Int64)), .second, .val (.long ((q2 &&& (9223372036854775807 : Int64)) % (1 : Int64))), .second, .val (.int ((p1 &&& (2147483647 : Int32)) % (3 : Int32))), .val (.ref aU), .val (.int (0 : Int32))] [])) _
          refine own_via (fun t k => XS.goto X4.here hx rfl (pc0 := 97) (pc' := 108) rfl (hb hby at_97) (by decide) (by decide) k) ?_
          show own_Rch p.tables e below (T4.setTop (mkF m 108 #[.val (.int p1), .val (.long q2), .second, .val (.long q3), .second, .val (.long (1 : Int64)), .second, .val (.long ((q2 &&& (9223372036854775807 : Int64)) % (1 : Int64))), .second, .val (.int ((p1 &&& (2147483647 : Int32)) % (3 : Int32))), .val (.ref aU), .val (.int (0 : Int32))] [])) _
          refine own_via (fun t k => XS.aload X4.here hx rfl (hb hby at_108) rfl rfl k) ?_
          show own_Rch p.tables e below (T4.setTop (mkF m 110 #[.val (.int p1), .val (.long q2), .second, .val (.long q3), .second, .val (.long (1 : Int64)), .second, .val (.long ((q2 &&& (9223372036854775807 : Int64)) % (1 : Int64))), .second, .val (.int ((p1 &&& (2147483647 : Int32)) % (3 : Int32))), .val (.ref aU), .val (.int (0 : Int32))] [(.ref aU)])) _
          refine own_via (fun t k => XS.lload X4.here hx rfl (hb hby at_110) rfl k) ?_
          show own_Rch p.tables e below (T4.setTop (mkF m 112 #[.val (.int p1), .val (.long q2), .second, .val (.long q3), .second, .val (.long (1 : Int64)), .second, .val (.long ((q2 &&& (9223372036854775807 : Int64)) % (1 : Int64))), .second, .val (.int ((p1 &&& (2147483647 : Int32)) % (3 : Int32))), .val (.ref aU), .val (.int (0 : Int32))] [(.long ((q2 &&& (9223372036854775807 : Int64)) % (1 : Int64))), (.ref aU)])) _
          refine own_via (fun t k => XS.lload X4.here hx rfl (hb hby at_112) rfl k) ?_
          show own_Rch p.tables e below (T4.setTop (mkF m 114 #[.val (.int p1), .val (.long q2), .second, .val (.long q3), .second, .val (.long (1 : Int64)), .second, .val (.long ((q2 &&& (9223372036854775807 : Int64)) % (1 : Int64))), .second, .val (.int ((p1 &&& (2147483647 : Int32)) % (3 : Int32))), .val (.ref aU), .val (.int (0 : Int32))] [(.long (1 : Int64)), (.long ((q2 &&& (9223372036854775807 : Int64)) % (1 : Int64))), (.ref aU)])) _
          obtain ⟨cq5, kq5, q5a, q5b, q5c⟩ := isOf hZ e4 E_aU
          obtain ⟨_, _, ⟨T5, L5, k5, n5⟩, -, X5, ⟨Lc5, hQ5, l5, y5, z5⟩, st5⟩ := X4.virtualBack hx (y := (⟨"com/example/mediation/mediation/rating/RoundingRule", "roundsUp", "(JJ)Z"⟩ : MethodName)) (z := (⟨"com/example/mediation/mediation/rating/RoundingRule", "roundsUp", "(JJ)Z"⟩ : MethodName)) hown (mvT hZ (hw _ (List.mem_of_getElem? (i := 6) rfl))) (mvT hZ (hw _ (List.mem_of_getElem? (i := 7) rfl))) (notFace_of_selects (args := #[]) (mvT hZ (hw _ (List.mem_of_getElem? (i := 9) rfl)))) (mvT hZ (hw _ (List.mem_of_getElem? (i := 9) rfl))) (mvT hZ (hw _ (List.mem_of_getElem? (i := 8) rfl))) (by decide) (backOf (W := 0) (rm1 l Z a0 hw [] aU ((q2 &&& (9223372036854775807 : Int64)) % (1 : Int64)) (1 : Int64) aH aU h0 n0 S_HALF_UP S_UP) hZ (hw _ (List.mem_of_getElem? (i := 10) rfl)) (hw _ (List.mem_of_getElem? (i := 3) rfl)) (by decide) (by decide)) q5a q5c (g := (mkF m 114 #[.val (.int p1), .val (.long q2), .second, .val (.long q3), .second, .val (.long (1 : Int64)), .second, .val (.long ((q2 &&& (9223372036854775807 : Int64)) % (1 : Int64))), .second, .val (.int ((p1 &&& (2147483647 : Int32)) % (3 : Int32))), .val (.ref aU), .val (.int (0 : Int32))] [(.long (1 : Int64)), (.long ((q2 &&& (9223372036854775807 : Int64)) % (1 : Int64))), (.ref aU)])) rfl (by rw [hml]; rfl) (Steps.refl _) (argsL := [(.long ((q2 &&& (9223372036854775807 : Int64)) % (1 : Int64))), (.long (1 : Int64))]) (rest := []) (lenOf pd_0 rfl) rfl (by show 2 * 0 + _ ≤ _; exact Nat.le_of_eq rfl) (hb hby at_114) (fun _ _ => ⟨rfl, e4, (by decide : 0 + 0 ≤ _), (by decide : 0 + 0 ≤ _)⟩)
          dsimp only [Pt.U, Pt.locs, Pt.cells, Pt.slots] at X5 l5 y5 z5 st5 hQ5
          subst l5 y5 z5
          obtain ⟨rfl, N5q, eh5⟩ := hQ5
          have N5 := Fr.app N0 N5q
          refine own_via (fun t k => st5.trans k) ?_
          show own_Rch p.tables e below (T5.setTop (mkF m 117 #[.val (.int p1), .val (.long q2), .second, .val (.long q3), .second, .val (.long (1 : Int64)), .second, .val (.long ((q2 &&& (9223372036854775807 : Int64)) % (1 : Int64))), .second, .val (.int ((p1 &&& (2147483647 : Int32)) % (3 : Int32))), .val (.ref aU), .val (.int (0 : Int32))] [(.int (own_up aU aH aU ((q2 &&& (9223372036854775807 : Int64)) % (1 : Int64)) (1 : Int64)))])) _
          refine own_via (fun t k => XS.iload X5.here hx rfl (hb hby at_117) rfl k) ?_
          show own_Rch p.tables e below (T5.setTop (mkF m 119 #[.val (.int p1), .val (.long q2), .second, .val (.long q3), .second, .val (.long (1 : Int64)), .second, .val (.long ((q2 &&& (9223372036854775807 : Int64)) % (1 : Int64))), .second, .val (.int ((p1 &&& (2147483647 : Int32)) % (3 : Int32))), .val (.ref aU), .val (.int (0 : Int32))] [(.int (0 : Int32)), (.int (own_up aU aH aU ((q2 &&& (9223372036854775807 : Int64)) % (1 : Int64)) (1 : Int64)))])) _
          have hq : (own_up aU aH aU ((q2 &&& (9223372036854775807 : Int64)) % (1 : Int64)) (1 : Int64)) = (0 : Int32) := (own_L1 aH aU _ _ hUH (own_rem q2 (1 : Int64) (by decide : 0 < (1 : Int64).toInt)).1).trans (if_pos c87)
          refine own_via (fun t k => XS.icmpNo X5.here hx rfl (hb hby at_119) rfl (teq hq).2 k) ?_
          show own_Rch p.tables e below (T5.setTop (mkF m 122 #[.val (.int p1), .val (.long q2), .second, .val (.long q3), .second, .val (.long (1 : Int64)), .second, .val (.long ((q2 &&& (9223372036854775807 : Int64)) % (1 : Int64))), .second, .val (.int ((p1 &&& (2147483647 : Int32)) % (3 : Int32))), .val (.ref aU), .val (.int (0 : Int32))] [])) _
          refine own_via (fun t k => XS.iconst X5.here hx rfl (hb hby at_122) k) ?_
          show own_Rch p.tables e below (T5.setTop (mkF m 123 #[.val (.int p1), .val (.long q2), .second, .val (.long q3), .second, .val (.long (1 : Int64)), .second, .val (.long ((q2 &&& (9223372036854775807 : Int64)) % (1 : Int64))), .second, .val (.int ((p1 &&& (2147483647 : Int32)) % (3 : Int32))), .val (.ref aU), .val (.int (0 : Int32))] [(.int (1 : Int32))])) _
          refine own_via (fun t k => XS.goto X5.here hx rfl (pc0 := 123) (pc' := 127) rfl (hb hby at_123) (by decide) (by decide) k) ?_
          show own_Rch p.tables e below (T5.setTop (mkF m 127 #[.val (.int p1), .val (.long q2), .second, .val (.long q3), .second, .val (.long (1 : Int64)), .second, .val (.long ((q2 &&& (9223372036854775807 : Int64)) % (1 : Int64))), .second, .val (.int ((p1 &&& (2147483647 : Int32)) % (3 : Int32))), .val (.ref aU), .val (.int (0 : Int32))] [(.int (1 : Int32))])) _
          exact own_fin X5 hx (t := .boolean) (i := .ireturn) Bd.returns Bd.notSynchronized rfl (Or.inl ⟨rfl, by simp, _, rfl⟩) (hb hby at_127) (by decide) (by decide) ⟨rfl, N5⟩
        · refine own_via (fun t k => XS.ifNo X4.here hx rfl (hb hby at_87) rfl ((if0 _ _).trans (feq (fun q => c87 ((lw_eq ((q2 &&& (9223372036854775807 : Int64)) % (1 : Int64)) (0 : Int64)).mp q))).1) k) ?_
          show own_Rch p.tables e below (T4.setTop (mkF m 90 #[.val (.int p1), .val (.long q2), .second, .val (.long q3), .second, .val (.long (1 : Int64)), .second, .val (.long ((q2 &&& (9223372036854775807 : Int64)) % (1 : Int64))), .second, .val (.int ((p1 &&& (2147483647 : Int32)) % (3 : Int32))), .val (.ref aU), .unset] [])) _
          refine own_via (fun t k => XS.iconst X4.here hx rfl (hb hby at_90) k) ?_
          show own_Rch p.tables e below (T4.setTop (mkF m 91 #[.val (.int p1), .val (.long q2), .second, .val (.long q3), .second, .val (.long (1 : Int64)), .second, .val (.long ((q2 &&& (9223372036854775807 : Int64)) % (1 : Int64))), .second, .val (.int ((p1 &&& (2147483647 : Int32)) % (3 : Int32))), .val (.ref aU), .unset] [(.int (1 : Int32))])) _
          refine own_via (fun t k => XS.goto X4.here hx rfl (pc0 := 91) (pc' := 95) rfl (hb hby at_91) (by decide) (by decide) k) ?_
          show own_Rch p.tables e below (T4.setTop (mkF m 95 #[.val (.int p1), .val (.long q2), .second, .val (.long q3), .second, .val (.long (1 : Int64)), .second, .val (.long ((q2 &&& (9223372036854775807 : Int64)) % (1 : Int64))), .second, .val (.int ((p1 &&& (2147483647 : Int32)) % (3 : Int32))), .val (.ref aU), .unset] [(.int (1 : Int32))])) _
          refine own_via (fun t k => XS.istore X4.here hx rfl (hb hby at_95) rfl (l' := #[.val (.int p1), .val (.long q2), .second, .val (.long q3), .second, .val (.long (1 : Int64)), .second, .val (.long ((q2 &&& (9223372036854775807 : Int64)) % (1 : Int64))), .second, .val (.int ((p1 &&& (2147483647 : Int32)) % (3 : Int32))), .val (.ref aU), .val (.int (1 : Int32))]) rfl k) ?_
          show own_Rch p.tables e below (T4.setTop (mkF m 97 #[.val (.int p1), .val (.long q2), .second, .val (.long q3), .second, .val (.long (1 : Int64)), .second, .val (.long ((q2 &&& (9223372036854775807 : Int64)) % (1 : Int64))), .second, .val (.int ((p1 &&& (2147483647 : Int32)) % (3 : Int32))), .val (.ref aU), .val (.int (1 : Int32))] [])) _
          refine own_via (fun t k => XS.goto X4.here hx rfl (pc0 := 97) (pc' := 108) rfl (hb hby at_97) (by decide) (by decide) k) ?_
          show own_Rch p.tables e below (T4.setTop (mkF m 108 #[.val (.int p1), .val (.long q2), .second, .val (.long q3), .second, .val (.long (1 : Int64)), .second, .val (.long ((q2 &&& (9223372036854775807 : Int64)) % (1 : Int64))), .second, .val (.int ((p1 &&& (2147483647 : Int32)) % (3 : Int32))), .val (.ref aU), .val (.int (1 : Int32))] [])) _
          refine own_via (fun t k => XS.aload X4.here hx rfl (hb hby at_108) rfl rfl k) ?_
          show own_Rch p.tables e below (T4.setTop (mkF m 110 #[.val (.int p1), .val (.long q2), .second, .val (.long q3), .second, .val (.long (1 : Int64)), .second, .val (.long ((q2 &&& (9223372036854775807 : Int64)) % (1 : Int64))), .second, .val (.int ((p1 &&& (2147483647 : Int32)) % (3 : Int32))), .val (.ref aU), .val (.int (1 : Int32))] [(.ref aU)])) _
          refine own_via (fun t k => XS.lload X4.here hx rfl (hb hby at_110) rfl k) ?_
          show own_Rch p.tables e below (T4.setTop (mkF m 112 #[.val (.int p1), .val (.long q2), .second, .val (.long q3), .second, .val (.long (1 : Int64)), .second, .val (.long ((q2 &&& (9223372036854775807 : Int64)) % (1 : Int64))), .second, .val (.int ((p1 &&& (2147483647 : Int32)) % (3 : Int32))), .val (.ref aU), .val (.int (1 : Int32))] [(.long ((q2 &&& (9223372036854775807 : Int64)) % (1 : Int64))), (.ref aU)])) _
          refine own_via (fun t k => XS.lload X4.here hx rfl (hb hby at_112) rfl k) ?_
          show own_Rch p.tables e below (T4.setTop (mkF m 114 #[.val (.int p1), .val (.long q2), .second, .val (.long q3), .second, .val (.long (1 : Int64)), .second, .val (.long ((q2 &&& (9223372036854775807 : Int64)) % (1 : Int64))), .second, .val (.int ((p1 &&& (2147483647 : Int32)) % (3 : Int32))), .val (.ref aU), .val (.int (1 : Int32))] [(.long (1 : Int64)), (.long ((q2 &&& (9223372036854775807 : Int64)) % (1 : Int64))), (.ref aU)])) _
          obtain ⟨cq6, kq6, q6a, q6b, q6c⟩ := isOf hZ e4 E_aU
          obtain ⟨_, _, ⟨T6, L6, k6, n6⟩, -, X6, ⟨Lc6, hQ6, l6, y6, z6⟩, st6⟩ := X4.virtualBack hx (y := (⟨"com/example/mediation/mediation/rating/RoundingRule", "roundsUp", "(JJ)Z"⟩ : MethodName)) (z := (⟨"com/example/mediation/mediation/rating/RoundingRule", "roundsUp", "(JJ)Z"⟩ : MethodName)) hown (mvT hZ (hw _ (List.mem_of_getElem? (i := 6) rfl))) (mvT hZ (hw _ (List.mem_of_getElem? (i := 7) rfl))) (notFace_of_selects (args := #[]) (mvT hZ (hw _ (List.mem_of_getElem? (i := 9) rfl)))) (mvT hZ (hw _ (List.mem_of_getElem? (i := 9) rfl))) (mvT hZ (hw _ (List.mem_of_getElem? (i := 8) rfl))) (by decide) (backOf (W := 0) (rm1 l Z a0 hw [] aU ((q2 &&& (9223372036854775807 : Int64)) % (1 : Int64)) (1 : Int64) aH aU h0 n0 S_HALF_UP S_UP) hZ (hw _ (List.mem_of_getElem? (i := 10) rfl)) (hw _ (List.mem_of_getElem? (i := 3) rfl)) (by decide) (by decide)) q6a q6c (g := (mkF m 114 #[.val (.int p1), .val (.long q2), .second, .val (.long q3), .second, .val (.long (1 : Int64)), .second, .val (.long ((q2 &&& (9223372036854775807 : Int64)) % (1 : Int64))), .second, .val (.int ((p1 &&& (2147483647 : Int32)) % (3 : Int32))), .val (.ref aU), .val (.int (1 : Int32))] [(.long (1 : Int64)), (.long ((q2 &&& (9223372036854775807 : Int64)) % (1 : Int64))), (.ref aU)])) rfl (by rw [hml]; rfl) (Steps.refl _) (argsL := [(.long ((q2 &&& (9223372036854775807 : Int64)) % (1 : Int64))), (.long (1 : Int64))]) (rest := []) (lenOf pd_0 rfl) rfl (by show 2 * 0 + _ ≤ _; exact Nat.le_of_eq rfl) (hb hby at_114) (fun _ _ => ⟨rfl, e4, (by decide : 0 + 0 ≤ _), (by decide : 0 + 0 ≤ _)⟩)
          dsimp only [Pt.U, Pt.locs, Pt.cells, Pt.slots] at X6 l6 y6 z6 st6 hQ6
          subst l6 y6 z6
          obtain ⟨rfl, N6q, eh6⟩ := hQ6
          have N6 := Fr.app N0 N6q
          refine own_via (fun t k => st6.trans k) ?_
          show own_Rch p.tables e below (T6.setTop (mkF m 117 #[.val (.int p1), .val (.long q2), .second, .val (.long q3), .second, .val (.long (1 : Int64)), .second, .val (.long ((q2 &&& (9223372036854775807 : Int64)) % (1 : Int64))), .second, .val (.int ((p1 &&& (2147483647 : Int32)) % (3 : Int32))), .val (.ref aU), .val (.int (1 : Int32))] [(.int (own_up aU aH aU ((q2 &&& (9223372036854775807 : Int64)) % (1 : Int64)) (1 : Int64)))])) _
          refine own_via (fun t k => XS.iload X6.here hx rfl (hb hby at_117) rfl k) ?_
          show own_Rch p.tables e below (T6.setTop (mkF m 119 #[.val (.int p1), .val (.long q2), .second, .val (.long q3), .second, .val (.long (1 : Int64)), .second, .val (.long ((q2 &&& (9223372036854775807 : Int64)) % (1 : Int64))), .second, .val (.int ((p1 &&& (2147483647 : Int32)) % (3 : Int32))), .val (.ref aU), .val (.int (1 : Int32))] [(.int (1 : Int32)), (.int (own_up aU aH aU ((q2 &&& (9223372036854775807 : Int64)) % (1 : Int64)) (1 : Int64)))])) _
          have hq : (own_up aU aH aU ((q2 &&& (9223372036854775807 : Int64)) % (1 : Int64)) (1 : Int64)) = (1 : Int32) := (own_L1 aH aU _ _ hUH (own_rem q2 (1 : Int64) (by decide : 0 < (1 : Int64).toInt)).1).trans (if_neg c87)
          refine own_via (fun t k => XS.icmpNo X6.here hx rfl (hb hby at_119) rfl (teq hq).2 k) ?_
          show own_Rch p.tables e below (T6.setTop (mkF m 122 #[.val (.int p1), .val (.long q2), .second, .val (.long q3), .second, .val (.long (1 : Int64)), .second, .val (.long ((q2 &&& (9223372036854775807 : Int64)) % (1 : Int64))), .second, .val (.int ((p1 &&& (2147483647 : Int32)) % (3 : Int32))), .val (.ref aU), .val (.int (1 : Int32))] [])) _
          refine own_via (fun t k => XS.iconst X6.here hx rfl (hb hby at_122) k) ?_
          show own_Rch p.tables e below (T6.setTop (mkF m 123 #[.val (.int p1), .val (.long q2), .second, .val (.long q3), .second, .val (.long (1 : Int64)), .second, .val (.long ((q2 &&& (9223372036854775807 : Int64)) % (1 : Int64))), .second, .val (.int ((p1 &&& (2147483647 : Int32)) % (3 : Int32))), .val (.ref aU), .val (.int (1 : Int32))] [(.int (1 : Int32))])) _
          refine own_via (fun t k => XS.goto X6.here hx rfl (pc0 := 123) (pc' := 127) rfl (hb hby at_123) (by decide) (by decide) k) ?_
          show own_Rch p.tables e below (T6.setTop (mkF m 127 #[.val (.int p1), .val (.long q2), .second, .val (.long q3), .second, .val (.long (1 : Int64)), .second, .val (.long ((q2 &&& (9223372036854775807 : Int64)) % (1 : Int64))), .second, .val (.int ((p1 &&& (2147483647 : Int32)) % (3 : Int32))), .val (.ref aU), .val (.int (1 : Int32))] [(.int (1 : Int32))])) _
          exact own_fin X6 hx (t := .boolean) (i := .ireturn) Bd.returns Bd.notSynchronized rfl (Or.inl ⟨rfl, by simp, _, rfl⟩) (hb hby at_127) (by decide) (by decide) ⟨rfl, N6⟩
      · refine own_via (fun t k => XS.icmpYes X0.here hx rfl (pc0 := 75) (pc' := 100) rfl (hb hby at_75) rfl (feq c75).2 (by decide) (by decide) k) ?_
        show own_Rch p.tables e below (s₁.setTop (mkF m 100 #[.val (.int p1), .val (.long q2), .second, .val (.long q3), .second, .val (.long (1 : Int64)), .second, .val (.long ((q2 &&& (9223372036854775807 : Int64)) % (1 : Int64))), .second, .val (.int ((p1 &&& (2147483647 : Int32)) % (3 : Int32))), .unset, .unset] [])) _
        obtain ⟨T7, X7, e7, st7⟩ := getS2 X0 hx hZ hown (host := "") (Or.inl (hw _ (List.mem_of_getElem? (i := 15) rfl))) Via.refl e0 S_DOWN (g := (mkF m 100 #[.val (.int p1), .val (.long q2), .second, .val (.long q3), .second, .val (.long (1 : Int64)), .second, .val (.long ((q2 &&& (9223372036854775807 : Int64)) % (1 : Int64))), .second, .val (.int ((p1 &&& (2147483647 : Int32)) % (3 : Int32))), .unset, .unset] [])) rfl (hb hby at_100)
        refine own_via st7 ?_
        show own_Rch p.tables e below (T7.setTop (mkF m 103 #[.val (.int p1), .val (.long q2), .second, .val (.long q3), .second, .val (.long (1 : Int64)), .second, .val (.long ((q2 &&& (9223372036854775807 : Int64)) % (1 : Int64))), .second, .val (.int ((p1 &&& (2147483647 : Int32)) % (3 : Int32))), .unset, .unset] [(.ref aD)])) _
        refine own_via (fun t k => XS.astore X7.here hx rfl (hb hby at_103) rfl rfl (l' := #[.val (.int p1), .val (.long q2), .second, .val (.long q3), .second, .val (.long (1 : Int64)), .second, .val (.long ((q2 &&& (9223372036854775807 : Int64)) % (1 : Int64))), .second, .val (.int ((p1 &&& (2147483647 : Int32)) % (3 : Int32))), .val (.ref aD), .unset]) rfl k) ?_
        show own_Rch p.tables e below (T7.setTop (mkF m 105 #[.val (.int p1), .val (.long q2), .second, .val (.long q3), .second, .val (.long (1 : Int64)), .second, .val (.long ((q2 &&& (9223372036854775807 : Int64)) % (1 : Int64))), .second, .val (.int ((p1 &&& (2147483647 : Int32)) % (3 : Int32))), .val (.ref aD), .unset] [])) _
        refine own_via (fun t k => XS.iconst X7.here hx rfl (hb hby at_105) k) ?_
        show own_Rch p.tables e below (T7.setTop (mkF m 106 #[.val (.int p1), .val (.long q2), .second, .val (.long q3), .second, .val (.long (1 : Int64)), .second, .val (.long ((q2 &&& (9223372036854775807 : Int64)) % (1 : Int64))), .second, .val (.int ((p1 &&& (2147483647 : Int32)) % (3 : Int32))), .val (.ref aD), .unset] [(.int (0 : Int32))])) _
        refine own_via (fun t k => XS.istore X7.here hx rfl (hb hby at_106) rfl (l' := #[.val (.int p1), .val (.long q2), .second, .val (.long q3), .second, .val (.long (1 : Int64)), .second, .val (.long ((q2 &&& (9223372036854775807 : Int64)) % (1 : Int64))), .second, .val (.int ((p1 &&& (2147483647 : Int32)) % (3 : Int32))), .val (.ref aD), .val (.int (0 : Int32))]) rfl k) ?_
        show own_Rch p.tables e below (T7.setTop (mkF m 108 #[.val (.int p1), .val (.long q2), .second, .val (.long q3), .second, .val (.long (1 : Int64)), .second, .val (.long ((q2 &&& (9223372036854775807 : Int64)) % (1 : Int64))), .second, .val (.int ((p1 &&& (2147483647 : Int32)) % (3 : Int32))), .val (.ref aD), .val (.int (0 : Int32))] [])) _
        refine own_via (fun t k => XS.aload X7.here hx rfl (hb hby at_108) rfl rfl k) ?_
        show own_Rch p.tables e below (T7.setTop (mkF m 110 #[.val (.int p1), .val (.long q2), .second, .val (.long q3), .second, .val (.long (1 : Int64)), .second, .val (.long ((q2 &&& (9223372036854775807 : Int64)) % (1 : Int64))), .second, .val (.int ((p1 &&& (2147483647 : Int32)) % (3 : Int32))), .val (.ref aD), .val (.int (0 : Int32))] [(.ref aD)])) _
        refine own_via (fun t k => XS.lload X7.here hx rfl (hb hby at_110) rfl k) ?_
        show own_Rch p.tables e below (T7.setTop (mkF m 112 #[.val (.int p1), .val (.long q2), .second, .val (.long q3), .second, .val (.long (1 : Int64)), .second, .val (.long ((q2 &&& (9223372036854775807 : Int64)) % (1 : Int64))), .second, .val (.int ((p1 &&& (2147483647 : Int32)) % (3 : Int32))), .val (.ref aD), .val (.int (0 : Int32))] [(.long ((q2 &&& (9223372036854775807 : Int64)) % (1 : Int64))), (.ref aD)])) _
        refine own_via (fun t k => XS.lload X7.here hx rfl (hb hby at_112) rfl k) ?_
        show own_Rch p.tables e below (T7.setTop (mkF m 114 #[.val (.int p1), .val (.long q2), .second, .val (.long q3), .second, .val (.long (1 : Int64)), .second, .val (.long ((q2 &&& (9223372036854775807 : Int64)) % (1 : Int64))), .second, .val (.int ((p1 &&& (2147483647 : Int32)) % (3 : Int32))), .val (.ref aD), .val (.int (0 : Int32))] [(.long (1 : Int64)), (.long ((q2 &&& (9223372036854775807 : Int64)) % (1 : Int64))), (.ref aD)])) _
        obtain ⟨cq8, kq8, q8a, q8b, q8c⟩ := isOf hZ e7 E_aD
        obtain ⟨_, _, ⟨T8, L8, k8, n8⟩, -, X8, ⟨Lc8, hQ8, l8, y8, z8⟩, st8⟩ := X7.virtualBack hx (y := (⟨"com/example/mediation/mediation/rating/RoundingRule", "roundsUp", "(JJ)Z"⟩ : MethodName)) (z := (⟨"com/example/mediation/mediation/rating/RoundingRule", "roundsUp", "(JJ)Z"⟩ : MethodName)) hown (mvT hZ (hw _ (List.mem_of_getElem? (i := 6) rfl))) (mvT hZ (hw _ (List.mem_of_getElem? (i := 7) rfl))) (notFace_of_selects (args := #[]) (mvT hZ (hw _ (List.mem_of_getElem? (i := 9) rfl)))) (mvT hZ (hw _ (List.mem_of_getElem? (i := 9) rfl))) (mvT hZ (hw _ (List.mem_of_getElem? (i := 8) rfl))) (by decide) (backOf (W := 0) (rm1 l Z a0 hw [] aD ((q2 &&& (9223372036854775807 : Int64)) % (1 : Int64)) (1 : Int64) aH aU h0 n0 S_HALF_UP S_UP) hZ (hw _ (List.mem_of_getElem? (i := 10) rfl)) (hw _ (List.mem_of_getElem? (i := 3) rfl)) (by decide) (by decide)) q8a q8c (g := (mkF m 114 #[.val (.int p1), .val (.long q2), .second, .val (.long q3), .second, .val (.long (1 : Int64)), .second, .val (.long ((q2 &&& (9223372036854775807 : Int64)) % (1 : Int64))), .second, .val (.int ((p1 &&& (2147483647 : Int32)) % (3 : Int32))), .val (.ref aD), .val (.int (0 : Int32))] [(.long (1 : Int64)), (.long ((q2 &&& (9223372036854775807 : Int64)) % (1 : Int64))), (.ref aD)])) rfl (by rw [hml]; rfl) (Steps.refl _) (argsL := [(.long ((q2 &&& (9223372036854775807 : Int64)) % (1 : Int64))), (.long (1 : Int64))]) (rest := []) (lenOf pd_0 rfl) rfl (by show 2 * 0 + _ ≤ _; exact Nat.le_of_eq rfl) (hb hby at_114) (fun _ _ => ⟨rfl, e7, (by decide : 0 + 0 ≤ _), (by decide : 0 + 0 ≤ _)⟩)
        dsimp only [Pt.U, Pt.locs, Pt.cells, Pt.slots] at X8 l8 y8 z8 st8 hQ8
        subst l8 y8 z8
        obtain ⟨rfl, N8q, eh8⟩ := hQ8
        have N8 := Fr.app N0 N8q
        refine own_via (fun t k => st8.trans k) ?_
        show own_Rch p.tables e below (T8.setTop (mkF m 117 #[.val (.int p1), .val (.long q2), .second, .val (.long q3), .second, .val (.long (1 : Int64)), .second, .val (.long ((q2 &&& (9223372036854775807 : Int64)) % (1 : Int64))), .second, .val (.int ((p1 &&& (2147483647 : Int32)) % (3 : Int32))), .val (.ref aD), .val (.int (0 : Int32))] [(.int (own_up aD aH aU ((q2 &&& (9223372036854775807 : Int64)) % (1 : Int64)) (1 : Int64)))])) _
        refine own_via (fun t k => XS.iload X8.here hx rfl (hb hby at_117) rfl k) ?_
        show own_Rch p.tables e below (T8.setTop (mkF m 119 #[.val (.int p1), .val (.long q2), .second, .val (.long q3), .second, .val (.long (1 : Int64)), .second, .val (.long ((q2 &&& (9223372036854775807 : Int64)) % (1 : Int64))), .second, .val (.int ((p1 &&& (2147483647 : Int32)) % (3 : Int32))), .val (.ref aD), .val (.int (0 : Int32))] [(.int (0 : Int32)), (.int (own_up aD aH aU ((q2 &&& (9223372036854775807 : Int64)) % (1 : Int64)) (1 : Int64)))])) _
        have hq : (own_up aD aH aU ((q2 &&& (9223372036854775807 : Int64)) % (1 : Int64)) (1 : Int64)) = (0 : Int32) := own_L2 _ _ _ _ _ hDH hDU
        refine own_via (fun t k => XS.icmpNo X8.here hx rfl (hb hby at_119) rfl (teq hq).2 k) ?_
        show own_Rch p.tables e below (T8.setTop (mkF m 122 #[.val (.int p1), .val (.long q2), .second, .val (.long q3), .second, .val (.long (1 : Int64)), .second, .val (.long ((q2 &&& (9223372036854775807 : Int64)) % (1 : Int64))), .second, .val (.int ((p1 &&& (2147483647 : Int32)) % (3 : Int32))), .val (.ref aD), .val (.int (0 : Int32))] [])) _
        refine own_via (fun t k => XS.iconst X8.here hx rfl (hb hby at_122) k) ?_
        show own_Rch p.tables e below (T8.setTop (mkF m 123 #[.val (.int p1), .val (.long q2), .second, .val (.long q3), .second, .val (.long (1 : Int64)), .second, .val (.long ((q2 &&& (9223372036854775807 : Int64)) % (1 : Int64))), .second, .val (.int ((p1 &&& (2147483647 : Int32)) % (3 : Int32))), .val (.ref aD), .val (.int (0 : Int32))] [(.int (1 : Int32))])) _
        refine own_via (fun t k => XS.goto X8.here hx rfl (pc0 := 123) (pc' := 127) rfl (hb hby at_123) (by decide) (by decide) k) ?_
        show own_Rch p.tables e below (T8.setTop (mkF m 127 #[.val (.int p1), .val (.long q2), .second, .val (.long q3), .second, .val (.long (1 : Int64)), .second, .val (.long ((q2 &&& (9223372036854775807 : Int64)) % (1 : Int64))), .second, .val (.int ((p1 &&& (2147483647 : Int32)) % (3 : Int32))), .val (.ref aD), .val (.int (0 : Int32))] [(.int (1 : Int32))])) _
        exact own_fin X8 hx (t := .boolean) (i := .ireturn) Bd.returns Bd.notSynchronized rfl (Or.inl ⟨rfl, by simp, _, rfl⟩) (hb hby at_127) (by decide) (by decide) ⟨rfl, N8⟩
  · refine own_via (fun t k => XS.ifYes X0.here hx rfl (pc0 := 11) (pc' := 17) rfl (hb hby at_11) rfl ((if0 _ _).trans (feq (fun q => c11 ((lw_eq (q3 &&& (9223372036854775807 : Int64)) (0 : Int64)).mp q))).2) (by decide) (by decide) k) ?_
    show own_Rch p.tables e below (s₁.setTop (mkF m 17 #[.val (.int p1), .val (.long q2), .second, .val (.long q3), .second, .val (.long (q3 &&& (9223372036854775807 : Int64))), .second, .unset, .unset, .unset, .unset, .unset] [])) _
    refine own_via (fun t k => XS.lloadN X0.here hx rfl (hb hby at_17) rfl k) ?_
    show own_Rch p.tables e below (s₁.setTop (mkF m 18 #[.val (.int p1), .val (.long q2), .second, .val (.long q3), .second, .val (.long (q3 &&& (9223372036854775807 : Int64))), .second, .unset, .unset, .unset, .unset, .unset] [(.long q2)])) _
    refine own_via (X0.ldc2Long hx hown (mvT hZ (hw _ (List.mem_of_getElem? (i := 0) rfl))) (g := (mkF m 18 #[.val (.int p1), .val (.long q2), .second, .val (.long q3), .second, .val (.long (q3 &&& (9223372036854775807 : Int64))), .second, .unset, .unset, .unset, .unset, .unset] [(.long q2)])) rfl (hb hby at_18)) ?_
    show own_Rch p.tables e below (s₁.setTop (mkF m 21 #[.val (.int p1), .val (.long q2), .second, .val (.long q3), .second, .val (.long (q3 &&& (9223372036854775807 : Int64))), .second, .unset, .unset, .unset, .unset, .unset] [(.long (9223372036854775807 : Int64)), (.long q2)])) _
    refine own_via (fun t k => XS.land X0.here hx rfl (hb hby at_21) rfl k) ?_
    show own_Rch p.tables e below (s₁.setTop (mkF m 22 #[.val (.int p1), .val (.long q2), .second, .val (.long q3), .second, .val (.long (q3 &&& (9223372036854775807 : Int64))), .second, .unset, .unset, .unset, .unset, .unset] [(.long (q2 &&& (9223372036854775807 : Int64)))])) _
    refine own_via (fun t k => XS.lload X0.here hx rfl (hb hby at_22) rfl k) ?_
    show own_Rch p.tables e below (s₁.setTop (mkF m 24 #[.val (.int p1), .val (.long q2), .second, .val (.long q3), .second, .val (.long (q3 &&& (9223372036854775807 : Int64))), .second, .unset, .unset, .unset, .unset, .unset] [(.long (q3 &&& (9223372036854775807 : Int64))), (.long (q2 &&& (9223372036854775807 : Int64)))])) _
    refine own_via (fun t k => own_lrem X0 hx rfl (hb hby at_24) rfl c11 k) ?_
    show own_Rch p.tables e below (s₁.setTop (mkF m 25 #[.val (.int p1), .val (.long q2), .second, .val (.long q3), .second, .val (.long (q3 &&& (9223372036854775807 : Int64))), .second, .unset, .unset, .unset, .unset, .unset] [(.long ((q2 &&& (9223372036854775807 : Int64)) % (q3 &&& (9223372036854775807 : Int64))))])) _
    refine own_via (fun t k => XS.lstore X0.here hx rfl (hb hby at_25) rfl (l' := #[.val (.int p1), .val (.long q2), .second, .val (.long q3), .second, .val (.long (q3 &&& (9223372036854775807 : Int64))), .second, .val (.long ((q2 &&& (9223372036854775807 : Int64)) % (q3 &&& (9223372036854775807 : Int64)))), .second, .unset, .unset, .unset]) rfl k) ?_
    show own_Rch p.tables e below (s₁.setTop (mkF m 27 #[.val (.int p1), .val (.long q2), .second, .val (.long q3), .second, .val (.long (q3 &&& (9223372036854775807 : Int64))), .second, .val (.long ((q2 &&& (9223372036854775807 : Int64)) % (q3 &&& (9223372036854775807 : Int64)))), .second, .unset, .unset, .unset] [])) _
    refine own_via (fun t k => XS.iloadN X0.here hx rfl (hb hby at_27) rfl k) ?_
    show own_Rch p.tables e below (s₁.setTop (mkF m 28 #[.val (.int p1), .val (.long q2), .second, .val (.long q3), .second, .val (.long (q3 &&& (9223372036854775807 : Int64))), .second, .val (.long ((q2 &&& (9223372036854775807 : Int64)) % (q3 &&& (9223372036854775807 : Int64)))), .second, .unset, .unset, .unset] [(.int p1)])) _
    refine own_via (X0.ldcInt hx hown (mvT hZ (hw _ (List.mem_of_getElem? (i := 1) rfl))) (g := (mkF m 28 #[.val (.int p1), .val (.long q2), .second, .val (.long q3), .second, .val (.long (q3 &&& (9223372036854775807 : Int64))), .second, .val (.long ((q2 &&& (9223372036854775807 : Int64)) % (q3 &&& (9223372036854775807 : Int64)))), .second, .unset, .unset, .unset] [(.int p1)])) rfl (hb hby at_28)) ?_
    show own_Rch p.tables e below (s₁.setTop (mkF m 30 #[.val (.int p1), .val (.long q2), .second, .val (.long q3), .second, .val (.long (q3 &&& (9223372036854775807 : Int64))), .second, .val (.long ((q2 &&& (9223372036854775807 : Int64)) % (q3 &&& (9223372036854775807 : Int64)))), .second, .unset, .unset, .unset] [(.int (2147483647 : Int32)), (.int p1)])) _
    refine own_via (fun t k => XS.iand X0.here hx rfl (hb hby at_30) rfl k) ?_
    show own_Rch p.tables e below (s₁.setTop (mkF m 31 #[.val (.int p1), .val (.long q2), .second, .val (.long q3), .second, .val (.long (q3 &&& (9223372036854775807 : Int64))), .second, .val (.long ((q2 &&& (9223372036854775807 : Int64)) % (q3 &&& (9223372036854775807 : Int64)))), .second, .unset, .unset, .unset] [(.int (p1 &&& (2147483647 : Int32)))])) _
    refine own_via (fun t k => XS.iconst X0.here hx rfl (hb hby at_31) k) ?_
    show own_Rch p.tables e below (s₁.setTop (mkF m 32 #[.val (.int p1), .val (.long q2), .second, .val (.long q3), .second, .val (.long (q3 &&& (9223372036854775807 : Int64))), .second, .val (.long ((q2 &&& (9223372036854775807 : Int64)) % (q3 &&& (9223372036854775807 : Int64)))), .second, .unset, .unset, .unset] [(.int (3 : Int32)), (.int (p1 &&& (2147483647 : Int32)))])) _
    refine own_via (fun t k => iremM X0 hx rfl (hb hby at_32) rfl (by decide) k) ?_
    show own_Rch p.tables e below (s₁.setTop (mkF m 33 #[.val (.int p1), .val (.long q2), .second, .val (.long q3), .second, .val (.long (q3 &&& (9223372036854775807 : Int64))), .second, .val (.long ((q2 &&& (9223372036854775807 : Int64)) % (q3 &&& (9223372036854775807 : Int64)))), .second, .unset, .unset, .unset] [(.int ((p1 &&& (2147483647 : Int32)) % (3 : Int32)))])) _
    refine own_via (fun t k => XS.istore X0.here hx rfl (hb hby at_33) rfl (l' := #[.val (.int p1), .val (.long q2), .second, .val (.long q3), .second, .val (.long (q3 &&& (9223372036854775807 : Int64))), .second, .val (.long ((q2 &&& (9223372036854775807 : Int64)) % (q3 &&& (9223372036854775807 : Int64)))), .second, .val (.int ((p1 &&& (2147483647 : Int32)) % (3 : Int32))), .unset, .unset]) rfl k) ?_
    show own_Rch p.tables e below (s₁.setTop (mkF m 35 #[.val (.int p1), .val (.long q2), .second, .val (.long q3), .second, .val (.long (q3 &&& (9223372036854775807 : Int64))), .second, .val (.long ((q2 &&& (9223372036854775807 : Int64)) % (q3 &&& (9223372036854775807 : Int64)))), .second, .val (.int ((p1 &&& (2147483647 : Int32)) % (3 : Int32))), .unset, .unset] [])) _
    refine own_via (fun t k => XS.iload X0.here hx rfl (hb hby at_35) rfl k) ?_
    show own_Rch p.tables e below (s₁.setTop (mkF m 37 #[.val (.int p1), .val (.long q2), .second, .val (.long q3), .second, .val (.long (q3 &&& (9223372036854775807 : Int64))), .second, .val (.long ((q2 &&& (9223372036854775807 : Int64)) % (q3 &&& (9223372036854775807 : Int64)))), .second, .val (.int ((p1 &&& (2147483647 : Int32)) % (3 : Int32))), .unset, .unset] [(.int ((p1 &&& (2147483647 : Int32)) % (3 : Int32)))])) _
    by_cases c37 : ((p1 &&& (2147483647 : Int32)) % (3 : Int32)) = (0 : Int32)
    · refine own_via (fun t k => XS.ifNo X0.here hx rfl (hb hby at_37) rfl ((if0 _ _).trans (teq c37).2) k) ?_
      show own_Rch p.tables e below (s₁.setTop (mkF m 40 #[.val (.int p1), .val (.long q2), .second, .val (.long q3), .second, .val (.long (q3 &&& (9223372036854775807 : Int64))), .second, .val (.long ((q2 &&& (9223372036854775807 : Int64)) % (q3 &&& (9223372036854775807 : Int64)))), .second, .val (.int ((p1 &&& (2147483647 : Int32)) % (3 : Int32))), .unset, .unset] [])) _
      obtain ⟨T9, X9, e9, st9⟩ := getS2 X0 hx hZ hown (host := "") (Or.inl (hw _ (List.mem_of_getElem? (i := 2) rfl))) Via.refl e0 S_HALF_UP (g := (mkF m 40 #[.val (.int p1), .val (.long q2), .second, .val (.long q3), .second, .val (.long (q3 &&& (9223372036854775807 : Int64))), .second, .val (.long ((q2 &&& (9223372036854775807 : Int64)) % (q3 &&& (9223372036854775807 : Int64)))), .second, .val (.int ((p1 &&& (2147483647 : Int32)) % (3 : Int32))), .unset, .unset] [])) rfl (hb hby at_40)
      refine own_via st9 ?_
      show own_Rch p.tables e below (T9.setTop (mkF m 43 #[.val (.int p1), .val (.long q2), .second, .val (.long q3), .second, .val (.long (q3 &&& (9223372036854775807 : Int64))), .second, .val (.long ((q2 &&& (9223372036854775807 : Int64)) % (q3 &&& (9223372036854775807 : Int64)))), .second, .val (.int ((p1 &&& (2147483647 : Int32)) % (3 : Int32))), .unset, .unset] [(.ref aH)])) _
      refine own_via (fun t k => XS.astore X9.here hx rfl (hb hby at_43) rfl rfl (l' := #[.val (.int p1), .val (.long q2), .second, .val (.long q3), .second, .val (.long (q3 &&& (9223372036854775807 : Int64))), .second, .val (.long ((q2 &&& (9223372036854775807 : Int64)) % (q3 &&& (9223372036854775807 : Int64)))), .second, .val (.int ((p1 &&& (2147483647 : Int32)) % (3 : Int32))), .val (.ref aH), .unset]) rfl k) ?_
      show own_Rch p.tables e below (T9.setTop (mkF m 45 #[.val (.int p1), .val (.long q2), .second, .val (.long q3), .second, .val (.long (q3 &&& (9223372036854775807 : Int64))), .second, .val (.long ((q2 &&& (9223372036854775807 : Int64)) % (q3 &&& (9223372036854775807 : Int64)))), .second, .val (.int ((p1 &&& (2147483647 : Int32)) % (3 : Int32))), .val (.ref aH), .unset] [])) _
      refine own_via (fun t k => XS.lload X9.here hx rfl (hb hby at_45) rfl k) ?_
      show own_Rch p.tables e below (T9.setTop (mkF m 47 #[.val (.int p1), .val (.long q2), .second, .val (.long q3), .second, .val (.long (q3 &&& (9223372036854775807 : Int64))), .second, .val (.long ((q2 &&& (9223372036854775807 : Int64)) % (q3 &&& (9223372036854775807 : Int64)))), .second, .val (.int ((p1 &&& (2147483647 : Int32)) % (3 : Int32))), .val (.ref aH), .unset] [(.long ((q2 &&& (9223372036854775807 : Int64)) % (q3 &&& (9223372036854775807 : Int64))))])) _
      refine own_via (fun t k => XS.lload X9.here hx rfl (hb hby at_47) rfl k) ?_
      show own_Rch p.tables e below (T9.setTop (mkF m 49 #[.val (.int p1), .val (.long q2), .second, .val (.long q3), .second, .val (.long (q3 &&& (9223372036854775807 : Int64))), .second, .val (.long ((q2 &&& (9223372036854775807 : Int64)) % (q3 &&& (9223372036854775807 : Int64)))), .second, .val (.int ((p1 &&& (2147483647 : Int32)) % (3 : Int32))), .val (.ref aH), .unset] [(.long (q3 &&& (9223372036854775807 : Int64))), (.long ((q2 &&& (9223372036854775807 : Int64)) % (q3 &&& (9223372036854775807 : Int64))))])) _
      refine own_via (X9.ldc2Long hx hown (mvT hZ (hw _ (List.mem_of_getElem? (i := 5) rfl))) (g := (mkF m 49 #[.val (.int p1), .val (.long q2), .second, .val (.long q3), .second, .val (.long (q3 &&& (9223372036854775807 : Int64))), .second, .val (.long ((q2 &&& (9223372036854775807 : Int64)) % (q3 &&& (9223372036854775807 : Int64)))), .second, .val (.int ((p1 &&& (2147483647 : Int32)) % (3 : Int32))), .val (.ref aH), .unset] [(.long (q3 &&& (9223372036854775807 : Int64))), (.long ((q2 &&& (9223372036854775807 : Int64)) % (q3 &&& (9223372036854775807 : Int64))))])) rfl (hb hby at_49)) ?_
      show own_Rch p.tables e below (T9.setTop (mkF m 52 #[.val (.int p1), .val (.long q2), .second, .val (.long q3), .second, .val (.long (q3 &&& (9223372036854775807 : Int64))), .second, .val (.long ((q2 &&& (9223372036854775807 : Int64)) % (q3 &&& (9223372036854775807 : Int64)))), .second, .val (.int ((p1 &&& (2147483647 : Int32)) % (3 : Int32))), .val (.ref aH), .unset] [(.long (2 : Int64)), (.long (q3 &&& (9223372036854775807 : Int64))), (.long ((q2 &&& (9223372036854775807 : Int64)) % (q3 &&& (9223372036854775807 : Int64))))])) _
      refine own_via (fun t k => XS.ldiv X9.here hx rfl (hb hby at_52) rfl (by decide) k) ?_
      show own_Rch p.tables e below (T9.setTop (mkF m 53 #[.val (.int p1), .val (.long q2), .second, .val (.long q3), .second, .val (.long (q3 &&& (9223372036854775807 : Int64))), .second, .val (.long ((q2 &&& (9223372036854775807 : Int64)) % (q3 &&& (9223372036854775807 : Int64)))), .second, .val (.int ((p1 &&& (2147483647 : Int32)) % (3 : Int32))), .val (.ref aH), .unset] [(.long ((q3 &&& (9223372036854775807 : Int64)) / (2 : Int64))), (.long ((q2 &&& (9223372036854775807 : Int64)) % (q3 &&& (9223372036854775807 : Int64))))])) _
      refine own_via (fun t k => XS.lload X9.here hx rfl (hb hby at_53) rfl k) ?_
      show own_Rch p.tables e below (T9.setTop (mkF m 55 #[.val (.int p1), .val (.long q2), .second, .val (.long q3), .second, .val (.long (q3 &&& (9223372036854775807 : Int64))), .second, .val (.long ((q2 &&& (9223372036854775807 : Int64)) % (q3 &&& (9223372036854775807 : Int64)))), .second, .val (.int ((p1 &&& (2147483647 : Int32)) % (3 : Int32))), .val (.ref aH), .unset] [(.long (q3 &&& (9223372036854775807 : Int64))), (.long ((q3 &&& (9223372036854775807 : Int64)) / (2 : Int64))), (.long ((q2 &&& (9223372036854775807 : Int64)) % (q3 &&& (9223372036854775807 : Int64))))])) _
      refine own_via (fun t k => XS.lconst X9.here hx rfl (hb hby at_55) k) ?_
      show own_Rch p.tables e below (T9.setTop (mkF m 56 #[.val (.int p1), .val (.long q2), .second, .val (.long q3), .second, .val (.long (q3 &&& (9223372036854775807 : Int64))), .second, .val (.long ((q2 &&& (9223372036854775807 : Int64)) % (q3 &&& (9223372036854775807 : Int64)))), .second, .val (.int ((p1 &&& (2147483647 : Int32)) % (3 : Int32))), .val (.ref aH), .unset] [(.long (1 : Int64)), (.long (q3 &&& (9223372036854775807 : Int64))), (.long ((q3 &&& (9223372036854775807 : Int64)) / (2 : Int64))), (.long ((q2 &&& (9223372036854775807 : Int64)) % (q3 &&& (9223372036854775807 : Int64))))])) _
      refine own_via (fun t k => XS.land X9.here hx rfl (hb hby at_56) rfl k) ?_
      show own_Rch p.tables e below (T9.setTop (mkF m 57 #[.val (.int p1), .val (.long q2), .second, .val (.long q3), .second, .val (.long (q3 &&& (9223372036854775807 : Int64))), .second, .val (.long ((q2 &&& (9223372036854775807 : Int64)) % (q3 &&& (9223372036854775807 : Int64)))), .second, .val (.int ((p1 &&& (2147483647 : Int32)) % (3 : Int32))), .val (.ref aH), .unset] [(.long ((q3 &&& (9223372036854775807 : Int64)) &&& (1 : Int64))), (.long ((q3 &&& (9223372036854775807 : Int64)) / (2 : Int64))), (.long ((q2 &&& (9223372036854775807 : Int64)) % (q3 &&& (9223372036854775807 : Int64))))])) _
      refine own_via (fun t k => XS.ladd X9.here hx rfl (hb hby at_57) rfl k) ?_
      show own_Rch p.tables e below (T9.setTop (mkF m 58 #[.val (.int p1), .val (.long q2), .second, .val (.long q3), .second, .val (.long (q3 &&& (9223372036854775807 : Int64))), .second, .val (.long ((q2 &&& (9223372036854775807 : Int64)) % (q3 &&& (9223372036854775807 : Int64)))), .second, .val (.int ((p1 &&& (2147483647 : Int32)) % (3 : Int32))), .val (.ref aH), .unset] [(.long (((q3 &&& (9223372036854775807 : Int64)) / (2 : Int64)) + ((q3 &&& (9223372036854775807 : Int64)) &&& (1 : Int64)))), (.long ((q2 &&& (9223372036854775807 : Int64)) % (q3 &&& (9223372036854775807 : Int64))))])) _
      refine own_via (fun t k => XS.lcmp X9.here hx rfl (hb hby at_58) rfl k) ?_
      show own_Rch p.tables e below (T9.setTop (mkF m 59 #[.val (.int p1), .val (.long q2), .second, .val (.long q3), .second, .val (.long (q3 &&& (9223372036854775807 : Int64))), .second, .val (.long ((q2 &&& (9223372036854775807 : Int64)) % (q3 &&& (9223372036854775807 : Int64)))), .second, .val (.int ((p1 &&& (2147483647 : Int32)) % (3 : Int32))), .val (.ref aH), .unset] [(.int (lcmpW ((q2 &&& (9223372036854775807 : Int64)) % (q3 &&& (9223372036854775807 : Int64))) (((q3 &&& (9223372036854775807 : Int64)) / (2 : Int64)) + ((q3 &&& (9223372036854775807 : Int64)) &&& (1 : Int64)))))])) _
      by_cases c59 : ((q2 &&& (9223372036854775807 : Int64)) % (q3 &&& (9223372036854775807 : Int64))) < (((q3 &&& (9223372036854775807 : Int64)) / (2 : Int64)) + ((q3 &&& (9223372036854775807 : Int64)) &&& (1 : Int64)))
      · refine own_via (fun t k => XS.ifYes X9.here hx rfl (pc0 := 59) (pc' := 66) rfl (hb hby at_59) rfl ((if0 _ _).trans (tlt ((lw_lt ((q2 &&& (9223372036854775807 : Int64)) % (q3 &&& (9223372036854775807 : Int64))) (((q3 &&& (9223372036854775807 : Int64)) / (2 : Int64)) + ((q3 &&& (9223372036854775807 : Int64)) &&& (1 : Int64)))).mpr c59)).1) (by decide) (by decide) k) ?_
        show own_Rch p.tables e below (T9.setTop (mkF m 66 #[.val (.int p1), .val (.long q2), .second, .val (.long q3), .second, .val (.long (q3 &&& (9223372036854775807 : Int64))), .second, .val (.long ((q2 &&& (9223372036854775807 : Int64)) % (q3 &&& (9223372036854775807 : Int64)))), .second, .val (.int ((p1 &&& (2147483647 : Int32)) % (3 : Int32))), .val (.ref aH), .unset] [])) _
        refine own_via (fun t k => XS.iconst X9.here hx rfl (hb hby at_66) k) ?_
        show own_Rch p.tables e below (T9.setTop (mkF m 67 #[.val (.int p1), .val (.long q2), .second, .val (.long q3), .second, .val (.long (q3 &&& (9223372036854775807 : Int64))), .second, .val (.long ((q2 &&& (9223372036854775807 : Int64)) % (q3 &&& (9223372036854775807 : Int64)))), .second, .val (.int ((p1 &&& (2147483647 : Int32)) % (3 : Int32))), .val (.ref aH), .unset] [(.int (0 : Int32))])) _
        refine own_via (fun t k => XS.istore X9.here hx rfl (hb hby at_67) rfl (l' := #[.val (.int p1), .val (.long q2), .second, .val (.long q3), .second, .val (.long (q3 &&& (9223372036854775807 : Int64))), .second, .val (.long ((q2 &&& (9223372036854775807 : Int64)) % (q3 &&& (9223372036854775807 : Int64)))), .second, .val (.int ((p1 &&& (2147483647 : Int32)) % (3 : Int32))), .val (.ref aH), .val (.int (0 : Int32))]) rfl k) ?_
        show own_Rch p.tables e below (T9.setTop (mkF m 69 #[.val (.int p1), .val (.long q2), .second, .val (.long q3), .second, .val (.long (q3 &&& (9223372036854775807 : Int64))), .second, .val (.long ((q2 &&& (9223372036854775807 : Int64)) % (q3 &&& (9223372036854775807 : Int64)))), .second, .val (.int ((p1 &&& (2147483647 : Int32)) % (3 : Int32))), .val (.ref aH), .val (.int (0 : Int32))] [])) _
        refine own_via (fun t k => XS.goto X9.here hx rfl (pc0 := 69) (pc' := 108) rfl (hb hby at_69) (by decide) (by decide) k) ?_
        show own_Rch p.tables e below (T9.setTop (mkF m 108 #[.val (.int p1), .val (.long q2), .second, .val (.long q3), .second, .val (.long (q3 &&& (9223372036854775807 : Int64))), .second, .val (.long ((q2 &&& (9223372036854775807 : Int64)) % (q3 &&& (9223372036854775807 : Int64)))), .second, .val (.int ((p1 &&& (2147483647 : Int32)) % (3 : Int32))), .val (.ref aH), .val (.int (0 : Int32))] [])) _
        refine own_via (fun t k => XS.aload X9.here hx rfl (hb hby at_108) rfl rfl k) ?_
        show own_Rch p.tables e below (T9.setTop (mkF m 110 #[.val (.int p1), .val (.long q2), .second, .val (.long q3), .second, .val (.long (q3 &&& (9223372036854775807 : Int64))), .second, .val (.long ((q2 &&& (9223372036854775807 : Int64)) % (q3 &&& (9223372036854775807 : Int64)))), .second, .val (.int ((p1 &&& (2147483647 : Int32)) % (3 : Int32))), .val (.ref aH), .val (.int (0 : Int32))] [(.ref aH)])) _
        refine own_via (fun t k => XS.lload X9.here hx rfl (hb hby at_110) rfl k) ?_
        show own_Rch p.tables e below (T9.setTop (mkF m 112 #[.val (.int p1), .val (.long q2), .second, .val (.long q3), .second, .val (.long (q3 &&& (9223372036854775807 : Int64))), .second, .val (.long ((q2 &&& (9223372036854775807 : Int64)) % (q3 &&& (9223372036854775807 : Int64)))), .second, .val (.int ((p1 &&& (2147483647 : Int32)) % (3 : Int32))), .val (.ref aH), .val (.int (0 : Int32))] [(.long ((q2 &&& (9223372036854775807 : Int64)) % (q3 &&& (9223372036854775807 : Int64)))), (.ref aH)])) _
        refine own_via (fun t k => XS.lload X9.here hx rfl (hb hby at_112) rfl k) ?_
        show own_Rch p.tables e below (T9.setTop (mkF m 114 #[.val (.int p1), .val (.long q2), .second, .val (.long q3), .second, .val (.long (q3 &&& (9223372036854775807 : Int64))), .second, .val (.long ((q2 &&& (9223372036854775807 : Int64)) % (q3 &&& (9223372036854775807 : Int64)))), .second, .val (.int ((p1 &&& (2147483647 : Int32)) % (3 : Int32))), .val (.ref aH), .val (.int (0 : Int32))] [(.long (q3 &&& (9223372036854775807 : Int64))), (.long ((q2 &&& (9223372036854775807 : Int64)) % (q3 &&& (9223372036854775807 : Int64)))), (.ref aH)])) _
        obtain ⟨cq10, kq10, q10a, q10b, q10c⟩ := isOf hZ e9 E_aH
        obtain ⟨_, _, ⟨T10, L10, k10, n10⟩, -, X10, ⟨Lc10, hQ10, l10, y10, z10⟩, st10⟩ := X9.virtualBack hx (y := (⟨"com/example/mediation/mediation/rating/RoundingRule", "roundsUp", "(JJ)Z"⟩ : MethodName)) (z := (⟨"com/example/mediation/mediation/rating/RoundingRule", "roundsUp", "(JJ)Z"⟩ : MethodName)) hown (mvT hZ (hw _ (List.mem_of_getElem? (i := 6) rfl))) (mvT hZ (hw _ (List.mem_of_getElem? (i := 7) rfl))) (notFace_of_selects (args := #[]) (mvT hZ (hw _ (List.mem_of_getElem? (i := 9) rfl)))) (mvT hZ (hw _ (List.mem_of_getElem? (i := 9) rfl))) (mvT hZ (hw _ (List.mem_of_getElem? (i := 8) rfl))) (by decide) (backOf (W := 0) (rm1 l Z a0 hw [] aH ((q2 &&& (9223372036854775807 : Int64)) % (q3 &&& (9223372036854775807 : Int64))) (q3 &&& (9223372036854775807 : Int64)) aH aU h0 n0 S_HALF_UP S_UP) hZ (hw _ (List.mem_of_getElem? (i := 10) rfl)) (hw _ (List.mem_of_getElem? (i := 3) rfl)) (by decide) (by decide)) q10a q10c (g := (mkF m 114 #[.val (.int p1), .val (.long q2), .second, .val (.long q3), .second, .val (.long (q3 &&& (9223372036854775807 : Int64))), .second, .val (.long ((q2 &&& (9223372036854775807 : Int64)) % (q3 &&& (9223372036854775807 : Int64)))), .second, .val (.int ((p1 &&& (2147483647 : Int32)) % (3 : Int32))), .val (.ref aH), .val (.int (0 : Int32))] [(.long (q3 &&& (9223372036854775807 : Int64))), (.long ((q2 &&& (9223372036854775807 : Int64)) % (q3 &&& (9223372036854775807 : Int64)))), (.ref aH)])) rfl (by rw [hml]; rfl) (Steps.refl _) (argsL := [(.long ((q2 &&& (9223372036854775807 : Int64)) % (q3 &&& (9223372036854775807 : Int64)))), (.long (q3 &&& (9223372036854775807 : Int64)))]) (rest := []) (lenOf pd_0 rfl) rfl (by show 2 * 0 + _ ≤ _; exact Nat.le_of_eq rfl) (hb hby at_114) (fun _ _ => ⟨rfl, e9, (by decide : 0 + 0 ≤ _), (by decide : 0 + 0 ≤ _)⟩)
        dsimp only [Pt.U, Pt.locs, Pt.cells, Pt.slots] at X10 l10 y10 z10 st10 hQ10
        subst l10 y10 z10
        obtain ⟨rfl, N10q, eh10⟩ := hQ10
        have N10 := Fr.app N0 N10q
        refine own_via (fun t k => st10.trans k) ?_
        show own_Rch p.tables e below (T10.setTop (mkF m 117 #[.val (.int p1), .val (.long q2), .second, .val (.long q3), .second, .val (.long (q3 &&& (9223372036854775807 : Int64))), .second, .val (.long ((q2 &&& (9223372036854775807 : Int64)) % (q3 &&& (9223372036854775807 : Int64)))), .second, .val (.int ((p1 &&& (2147483647 : Int32)) % (3 : Int32))), .val (.ref aH), .val (.int (0 : Int32))] [(.int (own_up aH aH aU ((q2 &&& (9223372036854775807 : Int64)) % (q3 &&& (9223372036854775807 : Int64))) (q3 &&& (9223372036854775807 : Int64))))])) _
        refine own_via (fun t k => XS.iload X10.here hx rfl (hb hby at_117) rfl k) ?_
        show own_Rch p.tables e below (T10.setTop (mkF m 119 #[.val (.int p1), .val (.long q2), .second, .val (.long q3), .second, .val (.long (q3 &&& (9223372036854775807 : Int64))), .second, .val (.long ((q2 &&& (9223372036854775807 : Int64)) % (q3 &&& (9223372036854775807 : Int64)))), .second, .val (.int ((p1 &&& (2147483647 : Int32)) % (3 : Int32))), .val (.ref aH), .val (.int (0 : Int32))] [(.int (0 : Int32)), (.int (own_up aH aH aU ((q2 &&& (9223372036854775807 : Int64)) % (q3 &&& (9223372036854775807 : Int64))) (q3 &&& (9223372036854775807 : Int64))))])) _
        have hq : (own_up aH aH aU ((q2 &&& (9223372036854775807 : Int64)) % (q3 &&& (9223372036854775807 : Int64))) (q3 &&& (9223372036854775807 : Int64))) = (0 : Int32) := (own_L0 aH aU _ _ (own_rem q2 (q3 &&& (9223372036854775807 : Int64)) (own_pos _ c11)).1 (own_rem q2 (q3 &&& (9223372036854775807 : Int64)) (own_pos _ c11)).2).trans (if_pos c59)
        refine own_via (fun t k => XS.icmpNo X10.here hx rfl (hb hby at_119) rfl (teq hq).2 k) ?_
        show own_Rch p.tables e below (T10.setTop (mkF m 122 #[.val (.int p1), .val (.long q2), .second, .val (.long q3), .second, .val (.long (q3 &&& (9223372036854775807 : Int64))), .second, .val (.long ((q2 &&& (9223372036854775807 : Int64)) % (q3 &&& (9223372036854775807 : Int64)))), .second, .val (.int ((p1 &&& (2147483647 : Int32)) % (3 : Int32))), .val (.ref aH), .val (.int (0 : Int32))] [])) _
        refine own_via (fun t k => XS.iconst X10.here hx rfl (hb hby at_122) k) ?_
        show own_Rch p.tables e below (T10.setTop (mkF m 123 #[.val (.int p1), .val (.long q2), .second, .val (.long q3), .second, .val (.long (q3 &&& (9223372036854775807 : Int64))), .second, .val (.long ((q2 &&& (9223372036854775807 : Int64)) % (q3 &&& (9223372036854775807 : Int64)))), .second, .val (.int ((p1 &&& (2147483647 : Int32)) % (3 : Int32))), .val (.ref aH), .val (.int (0 : Int32))] [(.int (1 : Int32))])) _
        refine own_via (fun t k => XS.goto X10.here hx rfl (pc0 := 123) (pc' := 127) rfl (hb hby at_123) (by decide) (by decide) k) ?_
        show own_Rch p.tables e below (T10.setTop (mkF m 127 #[.val (.int p1), .val (.long q2), .second, .val (.long q3), .second, .val (.long (q3 &&& (9223372036854775807 : Int64))), .second, .val (.long ((q2 &&& (9223372036854775807 : Int64)) % (q3 &&& (9223372036854775807 : Int64)))), .second, .val (.int ((p1 &&& (2147483647 : Int32)) % (3 : Int32))), .val (.ref aH), .val (.int (0 : Int32))] [(.int (1 : Int32))])) _
        exact own_fin X10 hx (t := .boolean) (i := .ireturn) Bd.returns Bd.notSynchronized rfl (Or.inl ⟨rfl, by simp, _, rfl⟩) (hb hby at_127) (by decide) (by decide) ⟨rfl, N10⟩
      · refine own_via (fun t k => XS.ifNo X9.here hx rfl (hb hby at_59) rfl ((if0 _ _).trans (flt (fun q => c59 ((lw_lt ((q2 &&& (9223372036854775807 : Int64)) % (q3 &&& (9223372036854775807 : Int64))) (((q3 &&& (9223372036854775807 : Int64)) / (2 : Int64)) + ((q3 &&& (9223372036854775807 : Int64)) &&& (1 : Int64)))).mp q))).1) k) ?_
        show own_Rch p.tables e below (T9.setTop (mkF m 62 #[.val (.int p1), .val (.long q2), .second, .val (.long q3), .second, .val (.long (q3 &&& (9223372036854775807 : Int64))), .second, .val (.long ((q2 &&& (9223372036854775807 : Int64)) % (q3 &&& (9223372036854775807 : Int64)))), .second, .val (.int ((p1 &&& (2147483647 : Int32)) % (3 : Int32))), .val (.ref aH), .unset] [])) _
        refine own_via (fun t k => XS.iconst X9.here hx rfl (hb hby at_62) k) ?_
        show own_Rch p.tables e below (T9.setTop (mkF m 63 #[.val (.int p1), .val (.long q2), .second, .val (.long q3), .second, .val (.long (q3 &&& (9223372036854775807 : Int64))), .second, .val (.long ((q2 &&& (9223372036854775807 : Int64)) % (q3 &&& (9223372036854775807 : Int64)))), .second, .val (.int ((p1 &&& (2147483647 : Int32)) % (3 : Int32))), .val (.ref aH), .unset] [(.int (1 : Int32))])) _
        refine own_via (fun t k => XS.goto X9.here hx rfl (pc0 := 63) (pc' := 67) rfl (hb hby at_63) (by decide) (by decide) k) ?_
        show own_Rch p.tables e below (T9.setTop (mkF m 67 #[.val (.int p1), .val (.long q2), .second, .val (.long q3), .second, .val (.long (q3 &&& (9223372036854775807 : Int64))), .second, .val (.long ((q2 &&& (9223372036854775807 : Int64)) % (q3 &&& (9223372036854775807 : Int64)))), .second, .val (.int ((p1 &&& (2147483647 : Int32)) % (3 : Int32))), .val (.ref aH), .unset] [(.int (1 : Int32))])) _
        refine own_via (fun t k => XS.istore X9.here hx rfl (hb hby at_67) rfl (l' := #[.val (.int p1), .val (.long q2), .second, .val (.long q3), .second, .val (.long (q3 &&& (9223372036854775807 : Int64))), .second, .val (.long ((q2 &&& (9223372036854775807 : Int64)) % (q3 &&& (9223372036854775807 : Int64)))), .second, .val (.int ((p1 &&& (2147483647 : Int32)) % (3 : Int32))), .val (.ref aH), .val (.int (1 : Int32))]) rfl k) ?_
        show own_Rch p.tables e below (T9.setTop (mkF m 69 #[.val (.int p1), .val (.long q2), .second, .val (.long q3), .second, .val (.long (q3 &&& (9223372036854775807 : Int64))), .second, .val (.long ((q2 &&& (9223372036854775807 : Int64)) % (q3 &&& (9223372036854775807 : Int64)))), .second, .val (.int ((p1 &&& (2147483647 : Int32)) % (3 : Int32))), .val (.ref aH), .val (.int (1 : Int32))] [])) _
        refine own_via (fun t k => XS.goto X9.here hx rfl (pc0 := 69) (pc' := 108) rfl (hb hby at_69) (by decide) (by decide) k) ?_
        show own_Rch p.tables e below (T9.setTop (mkF m 108 #[.val (.int p1), .val (.long q2), .second, .val (.long q3), .second, .val (.long (q3 &&& (9223372036854775807 : Int64))), .second, .val (.long ((q2 &&& (9223372036854775807 : Int64)) % (q3 &&& (9223372036854775807 : Int64)))), .second, .val (.int ((p1 &&& (2147483647 : Int32)) % (3 : Int32))), .val (.ref aH), .val (.int (1 : Int32))] [])) _
        refine own_via (fun t k => XS.aload X9.here hx rfl (hb hby at_108) rfl rfl k) ?_
        show own_Rch p.tables e below (T9.setTop (mkF m 110 #[.val (.int p1), .val (.long q2), .second, .val (.long q3), .second, .val (.long (q3 &&& (9223372036854775807 : Int64))), .second, .val (.long ((q2 &&& (9223372036854775807 : Int64)) % (q3 &&& (9223372036854775807 : Int64)))), .second, .val (.int ((p1 &&& (2147483647 : Int32)) % (3 : Int32))), .val (.ref aH), .val (.int (1 : Int32))] [(.ref aH)])) _
        refine own_via (fun t k => XS.lload X9.here hx rfl (hb hby at_110) rfl k) ?_
        show own_Rch p.tables e below (T9.setTop (mkF m 112 #[.val (.int p1), .val (.long q2), .second, .val (.long q3), .second, .val (.long (q3 &&& (9223372036854775807 : Int64))), .second, .val (.long ((q2 &&& (9223372036854775807 : Int64)) % (q3 &&& (9223372036854775807 : Int64)))), .second, .val (.int ((p1 &&& (2147483647 : Int32)) % (3 : Int32))), .val (.ref aH), .val (.int (1 : Int32))] [(.long ((q2 &&& (9223372036854775807 : Int64)) % (q3 &&& (9223372036854775807 : Int64)))), (.ref aH)])) _
        refine own_via (fun t k => XS.lload X9.here hx rfl (hb hby at_112) rfl k) ?_
        show own_Rch p.tables e below (T9.setTop (mkF m 114 #[.val (.int p1), .val (.long q2), .second, .val (.long q3), .second, .val (.long (q3 &&& (9223372036854775807 : Int64))), .second, .val (.long ((q2 &&& (9223372036854775807 : Int64)) % (q3 &&& (9223372036854775807 : Int64)))), .second, .val (.int ((p1 &&& (2147483647 : Int32)) % (3 : Int32))), .val (.ref aH), .val (.int (1 : Int32))] [(.long (q3 &&& (9223372036854775807 : Int64))), (.long ((q2 &&& (9223372036854775807 : Int64)) % (q3 &&& (9223372036854775807 : Int64)))), (.ref aH)])) _
        obtain ⟨cq11, kq11, q11a, q11b, q11c⟩ := isOf hZ e9 E_aH
        obtain ⟨_, _, ⟨T11, L11, k11, n11⟩, -, X11, ⟨Lc11, hQ11, l11, y11, z11⟩, st11⟩ := X9.virtualBack hx (y := (⟨"com/example/mediation/mediation/rating/RoundingRule", "roundsUp", "(JJ)Z"⟩ : MethodName)) (z := (⟨"com/example/mediation/mediation/rating/RoundingRule", "roundsUp", "(JJ)Z"⟩ : MethodName)) hown (mvT hZ (hw _ (List.mem_of_getElem? (i := 6) rfl))) (mvT hZ (hw _ (List.mem_of_getElem? (i := 7) rfl))) (notFace_of_selects (args := #[]) (mvT hZ (hw _ (List.mem_of_getElem? (i := 9) rfl)))) (mvT hZ (hw _ (List.mem_of_getElem? (i := 9) rfl))) (mvT hZ (hw _ (List.mem_of_getElem? (i := 8) rfl))) (by decide) (backOf (W := 0) (rm1 l Z a0 hw [] aH ((q2 &&& (9223372036854775807 : Int64)) % (q3 &&& (9223372036854775807 : Int64))) (q3 &&& (9223372036854775807 : Int64)) aH aU h0 n0 S_HALF_UP S_UP) hZ (hw _ (List.mem_of_getElem? (i := 10) rfl)) (hw _ (List.mem_of_getElem? (i := 3) rfl)) (by decide) (by decide)) q11a q11c (g := (mkF m 114 #[.val (.int p1), .val (.long q2), .second, .val (.long q3), .second, .val (.long (q3 &&& (9223372036854775807 : Int64))), .second, .val (.long ((q2 &&& (9223372036854775807 : Int64)) % (q3 &&& (9223372036854775807 : Int64)))), .second, .val (.int ((p1 &&& (2147483647 : Int32)) % (3 : Int32))), .val (.ref aH), .val (.int (1 : Int32))] [(.long (q3 &&& (9223372036854775807 : Int64))), (.long ((q2 &&& (9223372036854775807 : Int64)) % (q3 &&& (9223372036854775807 : Int64)))), (.ref aH)])) rfl (by rw [hml]; rfl) (Steps.refl _) (argsL := [(.long ((q2 &&& (9223372036854775807 : Int64)) % (q3 &&& (9223372036854775807 : Int64)))), (.long (q3 &&& (9223372036854775807 : Int64)))]) (rest := []) (lenOf pd_0 rfl) rfl (by show 2 * 0 + _ ≤ _; exact Nat.le_of_eq rfl) (hb hby at_114) (fun _ _ => ⟨rfl, e9, (by decide : 0 + 0 ≤ _), (by decide : 0 + 0 ≤ _)⟩)
        dsimp only [Pt.U, Pt.locs, Pt.cells, Pt.slots] at X11 l11 y11 z11 st11 hQ11
        subst l11 y11 z11
        obtain ⟨rfl, N11q, eh11⟩ := hQ11
        have N11 := Fr.app N0 N11q
        refine own_via (fun t k => st11.trans k) ?_
        show own_Rch p.tables e below (T11.setTop (mkF m 117 #[.val (.int p1), .val (.long q2), .second, .val (.long q3), .second, .val (.long (q3 &&& (9223372036854775807 : Int64))), .second, .val (.long ((q2 &&& (9223372036854775807 : Int64)) % (q3 &&& (9223372036854775807 : Int64)))), .second, .val (.int ((p1 &&& (2147483647 : Int32)) % (3 : Int32))), .val (.ref aH), .val (.int (1 : Int32))] [(.int (own_up aH aH aU ((q2 &&& (9223372036854775807 : Int64)) % (q3 &&& (9223372036854775807 : Int64))) (q3 &&& (9223372036854775807 : Int64))))])) _
        refine own_via (fun t k => XS.iload X11.here hx rfl (hb hby at_117) rfl k) ?_
        show own_Rch p.tables e below (T11.setTop (mkF m 119 #[.val (.int p1), .val (.long q2), .second, .val (.long q3), .second, .val (.long (q3 &&& (9223372036854775807 : Int64))), .second, .val (.long ((q2 &&& (9223372036854775807 : Int64)) % (q3 &&& (9223372036854775807 : Int64)))), .second, .val (.int ((p1 &&& (2147483647 : Int32)) % (3 : Int32))), .val (.ref aH), .val (.int (1 : Int32))] [(.int (1 : Int32)), (.int (own_up aH aH aU ((q2 &&& (9223372036854775807 : Int64)) % (q3 &&& (9223372036854775807 : Int64))) (q3 &&& (9223372036854775807 : Int64))))])) _
        have hq : (own_up aH aH aU ((q2 &&& (9223372036854775807 : Int64)) % (q3 &&& (9223372036854775807 : Int64))) (q3 &&& (9223372036854775807 : Int64))) = (1 : Int32) := (own_L0 aH aU _ _ (own_rem q2 (q3 &&& (9223372036854775807 : Int64)) (own_pos _ c11)).1 (own_rem q2 (q3 &&& (9223372036854775807 : Int64)) (own_pos _ c11)).2).trans (if_neg c59)
        refine own_via (fun t k => XS.icmpNo X11.here hx rfl (hb hby at_119) rfl (teq hq).2 k) ?_
        show own_Rch p.tables e below (T11.setTop (mkF m 122 #[.val (.int p1), .val (.long q2), .second, .val (.long q3), .second, .val (.long (q3 &&& (9223372036854775807 : Int64))), .second, .val (.long ((q2 &&& (9223372036854775807 : Int64)) % (q3 &&& (9223372036854775807 : Int64)))), .second, .val (.int ((p1 &&& (2147483647 : Int32)) % (3 : Int32))), .val (.ref aH), .val (.int (1 : Int32))] [])) _
        refine own_via (fun t k => XS.iconst X11.here hx rfl (hb hby at_122) k) ?_
        show own_Rch p.tables e below (T11.setTop (mkF m 123 #[.val (.int p1), .val (.long q2), .second, .val (.long q3), .second, .val (.long (q3 &&& (9223372036854775807 : Int64))), .second, .val (.long ((q2 &&& (9223372036854775807 : Int64)) % (q3 &&& (9223372036854775807 : Int64)))), .second, .val (.int ((p1 &&& (2147483647 : Int32)) % (3 : Int32))), .val (.ref aH), .val (.int (1 : Int32))] [(.int (1 : Int32))])) _
        refine own_via (fun t k => XS.goto X11.here hx rfl (pc0 := 123) (pc' := 127) rfl (hb hby at_123) (by decide) (by decide) k) ?_
        show own_Rch p.tables e below (T11.setTop (mkF m 127 #[.val (.int p1), .val (.long q2), .second, .val (.long q3), .second, .val (.long (q3 &&& (9223372036854775807 : Int64))), .second, .val (.long ((q2 &&& (9223372036854775807 : Int64)) % (q3 &&& (9223372036854775807 : Int64)))), .second, .val (.int ((p1 &&& (2147483647 : Int32)) % (3 : Int32))), .val (.ref aH), .val (.int (1 : Int32))] [(.int (1 : Int32))])) _
        exact own_fin X11 hx (t := .boolean) (i := .ireturn) Bd.returns Bd.notSynchronized rfl (Or.inl ⟨rfl, by simp, _, rfl⟩) (hb hby at_127) (by decide) (by decide) ⟨rfl, N11⟩
    · refine own_via (fun t k => XS.ifYes X0.here hx rfl (pc0 := 37) (pc' := 72) rfl (hb hby at_37) rfl ((if0 _ _).trans (feq c37).2) (by decide) (by decide) k) ?_
      show own_Rch p.tables e below (s₁.setTop (mkF m 72 #[.val (.int p1), .val (.long q2), .second, .val (.long q3), .second, .val (.long (q3 &&& (9223372036854775807 : Int64))), .second, .val (.long ((q2 &&& (9223372036854775807 : Int64)) % (q3 &&& (9223372036854775807 : Int64)))), .second, .val (.int ((p1 &&& (2147483647 : Int32)) % (3 : Int32))), .unset, .unset] [])) _
      refine own_via (fun t k => XS.iload X0.here hx rfl (hb hby at_72) rfl k) ?_
      show own_Rch p.tables e below (s₁.setTop (mkF m 74 #[.val (.int p1), .val (.long q2), .second, .val (.long q3), .second, .val (.long (q3 &&& (9223372036854775807 : Int64))), .second, .val (.long ((q2 &&& (9223372036854775807 : Int64)) % (q3 &&& (9223372036854775807 : Int64)))), .second, .val (.int ((p1 &&& (2147483647 : Int32)) % (3 : Int32))), .unset, .unset] [(.int ((p1 &&& (2147483647 : Int32)) % (3 : Int32)))])) _
      refine own_via (fun t k => XS.iconst X0.here hx rfl (hb hby at_74) k) ?_
      show own_Rch p.tables e below (s₁.setTop (mkF m 75 #[.val (.int p1), .val (.long q2), .second, .val (.long q3), .second, .val (.long (q3 &&& (9223372036854775807 : Int64))), .second, .val (.long ((q2 &&& (9223372036854775807 : Int64)) % (q3 &&& (9223372036854775807 : Int64)))), .second, .val (.int ((p1 &&& (2147483647 : Int32)) % (3 : Int32))), .unset, .unset] [(.int (1 : Int32)), (.int ((p1 &&& (2147483647 : Int32)) % (3 : Int32)))])) _
      by_cases c75 : ((p1 &&& (2147483647 : Int32)) % (3 : Int32)) = (1 : Int32)
      · refine own_via (fun t k => XS.icmpNo X0.here hx rfl (hb hby at_75) rfl (teq c75).2 k) ?_
        show own_Rch p.tables e below (s₁.setTop (mkF m 78 #[.val (.int p1), .val (.long q2), .second, .val (.long q3), .second, .val (.long (q3 &&& (9223372036854775807 : Int64))), .second, .val (.long ((q2 &&& (9223372036854775807 : Int64)) % (q3 &&& (9223372036854775807 : Int64)))), .second, .val (.int ((p1 &&& (2147483647 : Int32)) % (3 : Int32))), .unset, .unset] [])) _
        obtain ⟨T12, X12, e12, st12⟩ := getS2 X0 hx hZ hown (host := "") (Or.inl (hw _ (List.mem_of_getElem? (i := 12) rfl))) Via.refl e0 S_UP (g := (mkF m 78 #[.val (.int p1), .val (.long q2), .second, .val (.long q3), .second, .val (.long (q3 &&& (9223372036854775807 : Int64))), .second, .val (.long ((q2 &&& (9223372036854775807 : Int64)) % (q3 &&& (9223372036854775807 : Int64)))), .second, .val (.int ((p1 &&& (2147483647 : Int32)) % (3 : Int32))), .unset, .unset] [])) rfl (hb hby at_78)
        refine own_via st12 ?_
        show own_Rch p.tables e below (T12.setTop (mkF m 81 #[.val (.int p1), .val (.long q2), .second, .val (.long q3), .second, .val (.long (q3 &&& (9223372036854775807 : Int64))), .second, .val (.long ((q2 &&& (9223372036854775807 : Int64)) % (q3 &&& (9223372036854775807 : Int64)))), .second, .val (.int ((p1 &&& (2147483647 : Int32)) % (3 : Int32))), .unset, .unset] [(.ref aU)])) _
        refine own_via (fun t k => XS.astore X12.here hx rfl (hb hby at_81) rfl rfl (l' := #[.val (.int p1), .val (.long q2), .second, .val (.long q3), .second, .val (.long (q3 &&& (9223372036854775807 : Int64))), .second, .val (.long ((q2 &&& (9223372036854775807 : Int64)) % (q3 &&& (9223372036854775807 : Int64)))), .second, .val (.int ((p1 &&& (2147483647 : Int32)) % (3 : Int32))), .val (.ref aU), .unset]) rfl k) ?_
        show own_Rch p.tables e below (T12.setTop (mkF m 83 #[.val (.int p1), .val (.long q2), .second, .val (.long q3), .second, .val (.long (q3 &&& (9223372036854775807 : Int64))), .second, .val (.long ((q2 &&& (9223372036854775807 : Int64)) % (q3 &&& (9223372036854775807 : Int64)))), .second, .val (.int ((p1 &&& (2147483647 : Int32)) % (3 : Int32))), .val (.ref aU), .unset] [])) _
        refine own_via (fun t k => XS.lload X12.here hx rfl (hb hby at_83) rfl k) ?_
        show own_Rch p.tables e below (T12.setTop (mkF m 85 #[.val (.int p1), .val (.long q2), .second, .val (.long q3), .second, .val (.long (q3 &&& (9223372036854775807 : Int64))), .second, .val (.long ((q2 &&& (9223372036854775807 : Int64)) % (q3 &&& (9223372036854775807 : Int64)))), .second, .val (.int ((p1 &&& (2147483647 : Int32)) % (3 : Int32))), .val (.ref aU), .unset] [(.long ((q2 &&& (9223372036854775807 : Int64)) % (q3 &&& (9223372036854775807 : Int64))))])) _
        refine own_via (fun t k => XS.lconst X12.here hx rfl (hb hby at_85) k) ?_
        show own_Rch p.tables e below (T12.setTop (mkF m 86 #[.val (.int p1), .val (.long q2), .second, .val (.long q3), .second, .val (.long (q3 &&& (9223372036854775807 : Int64))), .second, .val (.long ((q2 &&& (9223372036854775807 : Int64)) % (q3 &&& (9223372036854775807 : Int64)))), .second, .val (.int ((p1 &&& (2147483647 : Int32)) % (3 : Int32))), .val (.ref aU), .unset] [(.long (0 : Int64)), (.long ((q2 &&& (9223372036854775807 : Int64)) % (q3 &&& (9223372036854775807 : Int64))))])) _
        refine own_via (fun t k => XS.lcmp X12.here hx rfl (hb hby at_86) rfl k) ?_
        show own_Rch p.tables e below (T12.setTop (mkF m 87 #[.val (.int p1), .val (.long q2), .second, .val (.long q3), .second, .val (.long (q3 &&& (9223372036854775807 : Int64))), .second, .val (.long ((q2 &&& (9223372036854775807 : Int64)) % (q3 &&& (9223372036854775807 : Int64)))), .second, .val (.int ((p1 &&& (2147483647 : Int32)) % (3 : Int32))), .val (.ref aU), .unset] [(.int (lcmpW ((q2 &&& (9223372036854775807 : Int64)) % (q3 &&& (9223372036854775807 : Int64))) (0 : Int64)))])) _
        by_cases c87 : ((q2 &&& (9223372036854775807 : Int64)) % (q3 &&& (9223372036854775807 : Int64))) = (0 : Int64)
        · refine own_via (fun t k => XS.ifYes X12.here hx rfl (pc0 := 87) (pc' := 94) rfl (hb hby at_87) rfl ((if0 _ _).trans (teq ((lw_eq ((q2 &&& (9223372036854775807 : Int64)) % (q3 &&& (9223372036854775807 : Int64))) (0 : Int64)).mpr c87)).1) (by decide) (by decide) k) ?_
          show own_Rch p.tables e below (T12.setTop (mkF m 94 #[.val (.int p1), .val (.long q2), .second, .val (.long q3), .second, .val (.long (q3 &&& (9223372036854775807 : Int64))), .second, .val (.long ((q2 &&& (9223372036854775807 : Int64)) % (q3 &&& (9223372036854775807 : Int64)))), .second, .val (.int ((p1 &&& (2147483647 : Int32)) % (3 : Int32))), .val (.ref aU), .unset] [])) _
          refine own_via (fun t k => XS.iconst X12.here hx rfl (hb hby at_94) k) ?_
          show own_Rch p.tables e below (T12.setTop (mkF m 95 #[.val (.int p1), .val (.long q2), .second, .val (.long q3), .second, .val (.long (q3 &&& (9223372036854775807 : Int64))), .second, .val (.long ((q2 &&& (9223372036854775807 : Int64)) % (q3 &&& (9223372036854775807 : Int64)))), .second, .val (.int ((p1 &&& (2147483647 : Int32)) % (3 : Int32))), .val (.ref aU), .unset] [(.int (0 : Int32))])) _
          refine own_via (fun t k => XS.istore X12.here hx rfl (hb hby at_95) rfl (l' := #[.val (.int p1), .val (.long q2), .second, .val (.long q3), .second, .val (.long (q3 &&& (9223372036854775807 : Int64))), .second, .val (.long ((q2 &&& (9223372036854775807 : Int64)) % (q3 &&& (9223372036854775807 : Int64)))), .second, .val (.int ((p1 &&& (2147483647 : Int32)) % (3 : Int32))), .val (.ref aU), .val (.int (0 : Int32))]) rfl k) ?_
          show own_Rch p.tables e below (T12.setTop (mkF m 97 #[.val (.int p1), .val (.long q2), .second, .val (.long q3), .second, .val (.long (q3 &&& (9223372036854775807 : Int64))), .second, .val (.long ((q2 &&& (9223372036854775807 : Int64)) % (q3 &&& (9223372036854775807 : Int64)))), .second, .val (.int ((p1 &&& (2147483647 : Int32)) % (3 : Int32))), .val (.ref aU), .val (.int (0 : Int32))] [])) _
          refine own_via (fun t k => XS.goto X12.here hx rfl (pc0 := 97) (pc' := 108) rfl (hb hby at_97) (by decide) (by decide) k) ?_
          show own_Rch p.tables e below (T12.setTop (mkF m 108 #[.val (.int p1), .val (.long q2), .second, .val (.long q3), .second, .val (.long (q3 &&& (9223372036854775807 : Int64))), .second, .val (.long ((q2 &&& (9223372036854775807 : Int64)) % (q3 &&& (9223372036854775807 : Int64)))), .second, .val (.int ((p1 &&& (2147483647 : Int32)) % (3 : Int32))), .val (.ref aU), .val (.int (0 : Int32))] [])) _
          refine own_via (fun t k => XS.aload X12.here hx rfl (hb hby at_108) rfl rfl k) ?_
          show own_Rch p.tables e below (T12.setTop (mkF m 110 #[.val (.int p1), .val (.long q2), .second, .val (.long q3), .second, .val (.long (q3 &&& (9223372036854775807 : Int64))), .second, .val (.long ((q2 &&& (9223372036854775807 : Int64)) % (q3 &&& (9223372036854775807 : Int64)))), .second, .val (.int ((p1 &&& (2147483647 : Int32)) % (3 : Int32))), .val (.ref aU), .val (.int (0 : Int32))] [(.ref aU)])) _
          refine own_via (fun t k => XS.lload X12.here hx rfl (hb hby at_110) rfl k) ?_
          show own_Rch p.tables e below (T12.setTop (mkF m 112 #[.val (.int p1), .val (.long q2), .second, .val (.long q3), .second, .val (.long (q3 &&& (9223372036854775807 : Int64))), .second, .val (.long ((q2 &&& (9223372036854775807 : Int64)) % (q3 &&& (9223372036854775807 : Int64)))), .second, .val (.int ((p1 &&& (2147483647 : Int32)) % (3 : Int32))), .val (.ref aU), .val (.int (0 : Int32))] [(.long ((q2 &&& (9223372036854775807 : Int64)) % (q3 &&& (9223372036854775807 : Int64)))), (.ref aU)])) _
          refine own_via (fun t k => XS.lload X12.here hx rfl (hb hby at_112) rfl k) ?_
          show own_Rch p.tables e below (T12.setTop (mkF m 114 #[.val (.int p1), .val (.long q2), .second, .val (.long q3), .second, .val (.long (q3 &&& (9223372036854775807 : Int64))), .second, .val (.long ((q2 &&& (9223372036854775807 : Int64)) % (q3 &&& (9223372036854775807 : Int64)))), .second, .val (.int ((p1 &&& (2147483647 : Int32)) % (3 : Int32))), .val (.ref aU), .val (.int (0 : Int32))] [(.long (q3 &&& (9223372036854775807 : Int64))), (.long ((q2 &&& (9223372036854775807 : Int64)) % (q3 &&& (9223372036854775807 : Int64)))), (.ref aU)])) _
          obtain ⟨cq13, kq13, q13a, q13b, q13c⟩ := isOf hZ e12 E_aU
          obtain ⟨_, _, ⟨T13, L13, k13, n13⟩, -, X13, ⟨Lc13, hQ13, l13, y13, z13⟩, st13⟩ := X12.virtualBack hx (y := (⟨"com/example/mediation/mediation/rating/RoundingRule", "roundsUp", "(JJ)Z"⟩ : MethodName)) (z := (⟨"com/example/mediation/mediation/rating/RoundingRule", "roundsUp", "(JJ)Z"⟩ : MethodName)) hown (mvT hZ (hw _ (List.mem_of_getElem? (i := 6) rfl))) (mvT hZ (hw _ (List.mem_of_getElem? (i := 7) rfl))) (notFace_of_selects (args := #[]) (mvT hZ (hw _ (List.mem_of_getElem? (i := 9) rfl)))) (mvT hZ (hw _ (List.mem_of_getElem? (i := 9) rfl))) (mvT hZ (hw _ (List.mem_of_getElem? (i := 8) rfl))) (by decide) (backOf (W := 0) (rm1 l Z a0 hw [] aU ((q2 &&& (9223372036854775807 : Int64)) % (q3 &&& (9223372036854775807 : Int64))) (q3 &&& (9223372036854775807 : Int64)) aH aU h0 n0 S_HALF_UP S_UP) hZ (hw _ (List.mem_of_getElem? (i := 10) rfl)) (hw _ (List.mem_of_getElem? (i := 3) rfl)) (by decide) (by decide)) q13a q13c (g := (mkF m 114 #[.val (.int p1), .val (.long q2), .second, .val (.long q3), .second, .val (.long (q3 &&& (9223372036854775807 : Int64))), .second, .val (.long ((q2 &&& (9223372036854775807 : Int64)) % (q3 &&& (9223372036854775807 : Int64)))), .second, .val (.int ((p1 &&& (2147483647 : Int32)) % (3 : Int32))), .val (.ref aU), .val (.int (0 : Int32))] [(.long (q3 &&& (9223372036854775807 : Int64))), (.long ((q2 &&& (9223372036854775807 : Int64)) % (q3 &&& (9223372036854775807 : Int64)))), (.ref aU)])) rfl (by rw [hml]; rfl) (Steps.refl _) (argsL := [(.long ((q2 &&& (9223372036854775807 : Int64)) % (q3 &&& (9223372036854775807 : Int64)))), (.long (q3 &&& (9223372036854775807 : Int64)))]) (rest := []) (lenOf pd_0 rfl) rfl (by show 2 * 0 + _ ≤ _; exact Nat.le_of_eq rfl) (hb hby at_114) (fun _ _ => ⟨rfl, e12, (by decide : 0 + 0 ≤ _), (by decide : 0 + 0 ≤ _)⟩)
          dsimp only [Pt.U, Pt.locs, Pt.cells, Pt.slots] at X13 l13 y13 z13 st13 hQ13
          subst l13 y13 z13
          obtain ⟨rfl, N13q, eh13⟩ := hQ13
          have N13 := Fr.app N0 N13q
          refine own_via (fun t k => st13.trans k) ?_
          show own_Rch p.tables e below (T13.setTop (mkF m 117 #[.val (.int p1), .val (.long q2), .second, .val (.long q3), .second, .val (.long (q3 &&& (9223372036854775807 : Int64))), .second, .val (.long ((q2 &&& (9223372036854775807 : Int64)) % (q3 &&& (9223372036854775807 : Int64)))), .second, .val (.int ((p1 &&& (2147483647 : Int32)) % (3 : Int32))), .val (.ref aU), .val (.int (0 : Int32))] [(.int (own_up aU aH aU ((q2 &&& (9223372036854775807 : Int64)) % (q3 &&& (9223372036854775807 : Int64))) (q3 &&& (9223372036854775807 : Int64))))])) _
          refine own_via (fun t k => XS.iload X13.here hx rfl (hb hby at_117) rfl k) ?_
          show own_Rch p.tables e below (T13.setTop (mkF m 119 #[.val (.int p1), .val (.long q2), .second, .val (.long q3), .second, .val (.long (q3 &&& (9223372036854775807 : Int64))), .second, .val (.long ((q2 &&& (9223372036854775807 : Int64)) % (q3 &&& (9223372036854775807 : Int64)))), .second, .val (.int ((p1 &&& (2147483647 : Int32)) % (3 : Int32))), .val (.ref aU), .val (.int (0 : Int32))] [(.int (0 : Int32)), (.int (own_up aU aH aU ((q2 &&& (9223372036854775807 : Int64)) % (q3 &&& (9223372036854775807 : Int64))) (q3 &&& (9223372036854775807 : Int64))))])) _
          have hq : (own_up aU aH aU ((q2 &&& (9223372036854775807 : Int64)) % (q3 &&& (9223372036854775807 : Int64))) (q3 &&& (9223372036854775807 : Int64))) = (0 : Int32) := (own_L1 aH aU _ _ hUH (own_rem q2 (q3 &&& (9223372036854775807 : Int64)) (own_pos _ c11)).1).trans (if_pos c87)
          refine own_via (fun t k => XS.icmpNo X13.here hx rfl (hb hby at_119) rfl (teq hq).2 k) ?_
          show own_Rch p.tables e below (T13.setTop (mkF m 122 #[.val (.int p1), .val (.long q2), .second, .val (.long q3), .second, .val (.long (q3 &&& (9223372036854775807 : Int64))), .second, .val (.long ((q2 &&& (9223372036854775807 : Int64)) % (q3 &&& (9223372036854775807 : Int64)))), .second, .val (.int ((p1 &&& (2147483647 : Int32)) % (3 : Int32))), .val (.ref aU), .val (.int (0 : Int32))] [])) _
          refine own_via (fun t k => XS.iconst X13.here hx rfl (hb hby at_122) k) ?_
          show own_Rch p.tables e below (T13.setTop (mkF m 123 #[.val (.int p1), .val (.long q2), .second, .val (.long q3), .second, .val (.long (q3 &&& (9223372036854775807 : Int64))), .second, .val (.long ((q2 &&& (9223372036854775807 : Int64)) % (q3 &&& (9223372036854775807 : Int64)))), .second, .val (.int ((p1 &&& (2147483647 : Int32)) % (3 : Int32))), .val (.ref aU), .val (.int (0 : Int32))] [(.int (1 : Int32))])) _
          refine own_via (fun t k => XS.goto X13.here hx rfl (pc0 := 123) (pc' := 127) rfl (hb hby at_123) (by decide) (by decide) k) ?_
          show own_Rch p.tables e below (T13.setTop (mkF m 127 #[.val (.int p1), .val (.long q2), .second, .val (.long q3), .second, .val (.long (q3 &&& (9223372036854775807 : Int64))), .second, .val (.long ((q2 &&& (9223372036854775807 : Int64)) % (q3 &&& (9223372036854775807 : Int64)))), .second, .val (.int ((p1 &&& (2147483647 : Int32)) % (3 : Int32))), .val (.ref aU), .val (.int (0 : Int32))] [(.int (1 : Int32))])) _
          exact own_fin X13 hx (t := .boolean) (i := .ireturn) Bd.returns Bd.notSynchronized rfl (Or.inl ⟨rfl, by simp, _, rfl⟩) (hb hby at_127) (by decide) (by decide) ⟨rfl, N13⟩
        · refine own_via (fun t k => XS.ifNo X12.here hx rfl (hb hby at_87) rfl ((if0 _ _).trans (feq (fun q => c87 ((lw_eq ((q2 &&& (9223372036854775807 : Int64)) % (q3 &&& (9223372036854775807 : Int64))) (0 : Int64)).mp q))).1) k) ?_
          show own_Rch p.tables e below (T12.setTop (mkF m 90 #[.val (.int p1), .val (.long q2), .second, .val (.long q3), .second, .val (.long (q3 &&& (9223372036854775807 : Int64))), .second, .val (.long ((q2 &&& (9223372036854775807 : Int64)) % (q3 &&& (9223372036854775807 : Int64)))), .second, .val (.int ((p1 &&& (2147483647 : Int32)) % (3 : Int32))), .val (.ref aU), .unset] [])) _
          refine own_via (fun t k => XS.iconst X12.here hx rfl (hb hby at_90) k) ?_
          show own_Rch p.tables e below (T12.setTop (mkF m 91 #[.val (.int p1), .val (.long q2), .second, .val (.long q3), .second, .val (.long (q3 &&& (9223372036854775807 : Int64))), .second, .val (.long ((q2 &&& (9223372036854775807 : Int64)) % (q3 &&& (9223372036854775807 : Int64)))), .second, .val (.int ((p1 &&& (2147483647 : Int32)) % (3 : Int32))), .val (.ref aU), .unset] [(.int (1 : Int32))])) _
          refine own_via (fun t k => XS.goto X12.here hx rfl (pc0 := 91) (pc' := 95) rfl (hb hby at_91) (by decide) (by decide) k) ?_
          show own_Rch p.tables e below (T12.setTop (mkF m 95 #[.val (.int p1), .val (.long q2), .second, .val (.long q3), .second, .val (.long (q3 &&& (9223372036854775807 : Int64))), .second, .val (.long ((q2 &&& (9223372036854775807 : Int64)) % (q3 &&& (9223372036854775807 : Int64)))), .second, .val (.int ((p1 &&& (2147483647 : Int32)) % (3 : Int32))), .val (.ref aU), .unset] [(.int (1 : Int32))])) _
          refine own_via (fun t k => XS.istore X12.here hx rfl (hb hby at_95) rfl (l' := #[.val (.int p1), .val (.long q2), .second, .val (.long q3), .second, .val (.long (q3 &&& (9223372036854775807 : Int64))), .second, .val (.long ((q2 &&& (9223372036854775807 : Int64)) % (q3 &&& (9223372036854775807 : Int64)))), .second, .val (.int ((p1 &&& (2147483647 : Int32)) % (3 : Int32))), .val (.ref aU), .val (.int (1 : Int32))]) rfl k) ?_
          show own_Rch p.tables e below (T12.setTop (mkF m 97 #[.val (.int p1), .val (.long q2), .second, .val (.long q3), .second, .val (.long (q3 &&& (9223372036854775807 : Int64))), .second, .val (.long ((q2 &&& (9223372036854775807 : Int64)) % (q3 &&& (9223372036854775807 : Int64)))), .second, .val (.int ((p1 &&& (2147483647 : Int32)) % (3 : Int32))), .val (.ref aU), .val (.int (1 : Int32))] [])) _
          refine own_via (fun t k => XS.goto X12.here hx rfl (pc0 := 97) (pc' := 108) rfl (hb hby at_97) (by decide) (by decide) k) ?_
          show own_Rch p.tables e below (T12.setTop (mkF m 108 #[.val (.int p1), .val (.long q2), .second, .val (.long q3), .second, .val (.long (q3 &&& (9223372036854775807 : Int64))), .second, .val (.long ((q2 &&& (9223372036854775807 : Int64)) % (q3 &&& (9223372036854775807 : Int64)))), .second, .val (.int ((p1 &&& (2147483647 : Int32)) % (3 : Int32))), .val (.ref aU), .val (.int (1 : Int32))] [])) _
          refine own_via (fun t k => XS.aload X12.here hx rfl (hb hby at_108) rfl rfl k) ?_
          show own_Rch p.tables e below (T12.setTop (mkF m 110 #[.val (.int p1), .val (.long q2), .second, .val (.long q3), .second, .val (.long (q3 &&& (9223372036854775807 : Int64))), .second, .val (.long ((q2 &&& (9223372036854775807 : Int64)) % (q3 &&& (9223372036854775807 : Int64)))), .second, .val (.int ((p1 &&& (2147483647 : Int32)) % (3 : Int32))), .val (.ref aU), .val (.int (1 : Int32))] [(.ref aU)])) _
          refine own_via (fun t k => XS.lload X12.here hx rfl (hb hby at_110) rfl k) ?_
          show own_Rch p.tables e below (T12.setTop (mkF m 112 #[.val (.int p1), .val (.long q2), .second, .val (.long q3), .second, .val (.long (q3 &&& (9223372036854775807 : Int64))), .second, .val (.long ((q2 &&& (9223372036854775807 : Int64)) % (q3 &&& (9223372036854775807 : Int64)))), .second, .val (.int ((p1 &&& (2147483647 : Int32)) % (3 : Int32))), .val (.ref aU), .val (.int (1 : Int32))] [(.long ((q2 &&& (9223372036854775807 : Int64)) % (q3 &&& (9223372036854775807 : Int64)))), (.ref aU)])) _
          refine own_via (fun t k => XS.lload X12.here hx rfl (hb hby at_112) rfl k) ?_
          show own_Rch p.tables e below (T12.setTop (mkF m 114 #[.val (.int p1), .val (.long q2), .second, .val (.long q3), .second, .val (.long (q3 &&& (9223372036854775807 : Int64))), .second, .val (.long ((q2 &&& (9223372036854775807 : Int64)) % (q3 &&& (9223372036854775807 : Int64)))), .second, .val (.int ((p1 &&& (2147483647 : Int32)) % (3 : Int32))), .val (.ref aU), .val (.int (1 : Int32))] [(.long (q3 &&& (9223372036854775807 : Int64))), (.long ((q2 &&& (9223372036854775807 : Int64)) % (q3 &&& (9223372036854775807 : Int64)))), (.ref aU)])) _
          obtain ⟨cq14, kq14, q14a, q14b, q14c⟩ := isOf hZ e12 E_aU
          obtain ⟨_, _, ⟨T14, L14, k14, n14⟩, -, X14, ⟨Lc14, hQ14, l14, y14, z14⟩, st14⟩ := X12.virtualBack hx (y := (⟨"com/example/mediation/mediation/rating/RoundingRule", "roundsUp", "(JJ)Z"⟩ : MethodName)) (z := (⟨"com/example/mediation/mediation/rating/RoundingRule", "roundsUp", "(JJ)Z"⟩ : MethodName)) hown (mvT hZ (hw _ (List.mem_of_getElem? (i := 6) rfl))) (mvT hZ (hw _ (List.mem_of_getElem? (i := 7) rfl))) (notFace_of_selects (args := #[]) (mvT hZ (hw _ (List.mem_of_getElem? (i := 9) rfl)))) (mvT hZ (hw _ (List.mem_of_getElem? (i := 9) rfl))) (mvT hZ (hw _ (List.mem_of_getElem? (i := 8) rfl))) (by decide) (backOf (W := 0) (rm1 l Z a0 hw [] aU ((q2 &&& (9223372036854775807 : Int64)) % (q3 &&& (9223372036854775807 : Int64))) (q3 &&& (9223372036854775807 : Int64)) aH aU h0 n0 S_HALF_UP S_UP) hZ (hw _ (List.mem_of_getElem? (i := 10) rfl)) (hw _ (List.mem_of_getElem? (i := 3) rfl)) (by decide) (by decide)) q14a q14c (g := (mkF m 114 #[.val (.int p1), .val (.long q2), .second, .val (.long q3), .second, .val (.long (q3 &&& (9223372036854775807 : Int64))), .second, .val (.long ((q2 &&& (9223372036854775807 : Int64)) % (q3 &&& (9223372036854775807 : Int64)))), .second, .val (.int ((p1 &&& (2147483647 : Int32)) % (3 : Int32))), .val (.ref aU), .val (.int (1 : Int32))] [(.long (q3 &&& (9223372036854775807 : Int64))), (.long ((q2 &&& (9223372036854775807 : Int64)) % (q3 &&& (9223372036854775807 : Int64)))), (.ref aU)])) rfl (by rw [hml]; rfl) (Steps.refl _) (argsL := [(.long ((q2 &&& (9223372036854775807 : Int64)) % (q3 &&& (9223372036854775807 : Int64)))), (.long (q3 &&& (9223372036854775807 : Int64)))]) (rest := []) (lenOf pd_0 rfl) rfl (by show 2 * 0 + _ ≤ _; exact Nat.le_of_eq rfl) (hb hby at_114) (fun _ _ => ⟨rfl, e12, (by decide : 0 + 0 ≤ _), (by decide : 0 + 0 ≤ _)⟩)
          dsimp only [Pt.U, Pt.locs, Pt.cells, Pt.slots] at X14 l14 y14 z14 st14 hQ14
          subst l14 y14 z14
          obtain ⟨rfl, N14q, eh14⟩ := hQ14
          have N14 := Fr.app N0 N14q
          refine own_via (fun t k => st14.trans k) ?_
          show own_Rch p.tables e below (T14.setTop (mkF m 117 #[.val (.int p1), .val (.long q2), .second, .val (.long q3), .second, .val (.long (q3 &&& (9223372036854775807 : Int64))), .second, .val (.long ((q2 &&& (9223372036854775807 : Int64)) % (q3 &&& (9223372036854775807 : Int64)))), .second, .val (.int ((p1 &&& (2147483647 : Int32)) % (3 : Int32))), .val (.ref aU), .val (.int (1 : Int32))] [(.int (own_up aU aH aU ((q2 &&& (9223372036854775807 : Int64)) % (q3 &&& (9223372036854775807 : Int64))) (q3 &&& (9223372036854775807 : Int64))))])) _
          refine own_via (fun t k => XS.iload X14.here hx rfl (hb hby at_117) rfl k) ?_
          show own_Rch p.tables e below (T14.setTop (mkF m 119 #[.val (.int p1), .val (.long q2), .second, .val (.long q3), .second, .val (.long (q3 &&& (9223372036854775807 : Int64))), .second, .val (.long ((q2 &&& (9223372036854775807 : Int64)) % (q3 &&& (9223372036854775807 : Int64)))), .second, .val (.int ((p1 &&& (2147483647 : Int32)) % (3 : Int32))), .val (.ref aU), .val (.int (1 : Int32))] [(.int (1 : Int32)), (.int (own_up aU aH aU ((q2 &&& (9223372036854775807 : Int64)) % (q3 &&& (9223372036854775807 : Int64))) (q3 &&& (9223372036854775807 : Int64))))])) _
          have hq : (own_up aU aH aU ((q2 &&& (9223372036854775807 : Int64)) % (q3 &&& (9223372036854775807 : Int64))) (q3 &&& (9223372036854775807 : Int64))) = (1 : Int32) := (own_L1 aH aU _ _ hUH (own_rem q2 (q3 &&& (9223372036854775807 : Int64)) (own_pos _ c11)).1).trans (if_neg c87)
          refine own_via (fun t k => XS.icmpNo X14.here hx rfl (hb hby at_119) rfl (teq hq).2 k) ?_
          show own_Rch p.tables e below (T14.setTop (mkF m 122 #[.val (.int p1), .val (.long q2), .second, .val (.long q3), .second, .val (.long (q3 &&& (9223372036854775807 : Int64))), .second, .val (.long ((q2 &&& (9223372036854775807 : Int64)) % (q3 &&& (9223372036854775807 : Int64)))), .second, .val (.int ((p1 &&& (2147483647 : Int32)) % (3 : Int32))), .val (.ref aU), .val (.int (1 : Int32))] [])) _
          refine own_via (fun t k => XS.iconst X14.here hx rfl (hb hby at_122) k) ?_
          show own_Rch p.tables e below (T14.setTop (mkF m 123 #[.val (.int p1), .val (.long q2), .second, .val (.long q3), .second, .val (.long (q3 &&& (9223372036854775807 : Int64))), .second, .val (.long ((q2 &&& (9223372036854775807 : Int64)) % (q3 &&& (9223372036854775807 : Int64)))), .second, .val (.int ((p1 &&& (2147483647 : Int32)) % (3 : Int32))), .val (.ref aU), .val (.int (1 : Int32))] [(.int (1 : Int32))])) _
          refine own_via (fun t k => XS.goto X14.here hx rfl (pc0 := 123) (pc' := 127) rfl (hb hby at_123) (by decide) (by decide) k) ?_
          show own_Rch p.tables e below (T14.setTop (mkF m 127 #[.val (.int p1), .val (.long q2), .second, .val (.long q3), .second, .val (.long (q3 &&& (9223372036854775807 : Int64))), .second, .val (.long ((q2 &&& (9223372036854775807 : Int64)) % (q3 &&& (9223372036854775807 : Int64)))), .second, .val (.int ((p1 &&& (2147483647 : Int32)) % (3 : Int32))), .val (.ref aU), .val (.int (1 : Int32))] [(.int (1 : Int32))])) _
          exact own_fin X14 hx (t := .boolean) (i := .ireturn) Bd.returns Bd.notSynchronized rfl (Or.inl ⟨rfl, by simp, _, rfl⟩) (hb hby at_127) (by decide) (by decide) ⟨rfl, N14⟩
      · refine own_via (fun t k => XS.icmpYes X0.here hx rfl (pc0 := 75) (pc' := 100) rfl (hb hby at_75) rfl (feq c75).2 (by decide) (by decide) k) ?_
        show own_Rch p.tables e below (s₁.setTop (mkF m 100 #[.val (.int p1), .val (.long q2), .second, .val (.long q3), .second, .val (.long (q3 &&& (9223372036854775807 : Int64))), .second, .val (.long ((q2 &&& (9223372036854775807 : Int64)) % (q3 &&& (9223372036854775807 : Int64)))), .second, .val (.int ((p1 &&& (2147483647 : Int32)) % (3 : Int32))), .unset, .unset] [])) _
        obtain ⟨T15, X15, e15, st15⟩ := getS2 X0 hx hZ hown (host := "") (Or.inl (hw _ (List.mem_of_getElem? (i := 15) rfl))) Via.refl e0 S_DOWN (g := (mkF m 100 #[.val (.int p1), .val (.long q2), .second, .val (.long q3), .second, .val (.long (q3 &&& (9223372036854775807 : Int64))), .second, .val (.long ((q2 &&& (9223372036854775807 : Int64)) % (q3 &&& (9223372036854775807 : Int64)))), .second, .val (.int ((p1 &&& (2147483647 : Int32)) % (3 : Int32))), .unset, .unset] [])) rfl (hb hby at_100)
        refine own_via st15 ?_
        show own_Rch p.tables e below (T15.setTop (mkF m 103 #[.val (.int p1), .val (.long q2), .second, .val (.long q3), .second, .val (.long (q3 &&& (9223372036854775807 : Int64))), .second, .val (.long ((q2 &&& (9223372036854775807 : Int64)) % (q3 &&& (9223372036854775807 : Int64)))), .second, .val (.int ((p1 &&& (2147483647 : Int32)) % (3 : Int32))), .unset, .unset] [(.ref aD)])) _
        refine own_via (fun t k => XS.astore X15.here hx rfl (hb hby at_103) rfl rfl (l' := #[.val (.int p1), .val (.long q2), .second, .val (.long q3), .second, .val (.long (q3 &&& (9223372036854775807 : Int64))), .second, .val (.long ((q2 &&& (9223372036854775807 : Int64)) % (q3 &&& (9223372036854775807 : Int64)))), .second, .val (.int ((p1 &&& (2147483647 : Int32)) % (3 : Int32))), .val (.ref aD), .unset]) rfl k) ?_
        show own_Rch p.tables e below (T15.setTop (mkF m 105 #[.val (.int p1), .val (.long q2), .second, .val (.long q3), .second, .val (.long (q3 &&& (9223372036854775807 : Int64))), .second, .val (.long ((q2 &&& (9223372036854775807 : Int64)) % (q3 &&& (9223372036854775807 : Int64)))), .second, .val (.int ((p1 &&& (2147483647 : Int32)) % (3 : Int32))), .val (.ref aD), .unset] [])) _
        refine own_via (fun t k => XS.iconst X15.here hx rfl (hb hby at_105) k) ?_
        show own_Rch p.tables e below (T15.setTop (mkF m 106 #[.val (.int p1), .val (.long q2), .second, .val (.long q3), .second, .val (.long (q3 &&& (9223372036854775807 : Int64))), .second, .val (.long ((q2 &&& (9223372036854775807 : Int64)) % (q3 &&& (9223372036854775807 : Int64)))), .second, .val (.int ((p1 &&& (2147483647 : Int32)) % (3 : Int32))), .val (.ref aD), .unset] [(.int (0 : Int32))])) _
        refine own_via (fun t k => XS.istore X15.here hx rfl (hb hby at_106) rfl (l' := #[.val (.int p1), .val (.long q2), .second, .val (.long q3), .second, .val (.long (q3 &&& (9223372036854775807 : Int64))), .second, .val (.long ((q2 &&& (9223372036854775807 : Int64)) % (q3 &&& (9223372036854775807 : Int64)))), .second, .val (.int ((p1 &&& (2147483647 : Int32)) % (3 : Int32))), .val (.ref aD), .val (.int (0 : Int32))]) rfl k) ?_
        show own_Rch p.tables e below (T15.setTop (mkF m 108 #[.val (.int p1), .val (.long q2), .second, .val (.long q3), .second, .val (.long (q3 &&& (9223372036854775807 : Int64))), .second, .val (.long ((q2 &&& (9223372036854775807 : Int64)) % (q3 &&& (9223372036854775807 : Int64)))), .second, .val (.int ((p1 &&& (2147483647 : Int32)) % (3 : Int32))), .val (.ref aD), .val (.int (0 : Int32))] [])) _
        refine own_via (fun t k => XS.aload X15.here hx rfl (hb hby at_108) rfl rfl k) ?_
        show own_Rch p.tables e below (T15.setTop (mkF m 110 #[.val (.int p1), .val (.long q2), .second, .val (.long q3), .second, .val (.long (q3 &&& (9223372036854775807 : Int64))), .second, .val (.long ((q2 &&& (9223372036854775807 : Int64)) % (q3 &&& (9223372036854775807 : Int64)))), .second, .val (.int ((p1 &&& (2147483647 : Int32)) % (3 : Int32))), .val (.ref aD), .val (.int (0 : Int32))] [(.ref aD)])) _
        refine own_via (fun t k => XS.lload X15.here hx rfl (hb hby at_110) rfl k) ?_
        show own_Rch p.tables e below (T15.setTop (mkF m 112 #[.val (.int p1), .val (.long q2), .second, .val (.long q3), .second, .val (.long (q3 &&& (9223372036854775807 : Int64))), .second, .val (.long ((q2 &&& (9223372036854775807 : Int64)) % (q3 &&& (9223372036854775807 : Int64)))), .second, .val (.int ((p1 &&& (2147483647 : Int32)) % (3 : Int32))), .val (.ref aD), .val (.int (0 : Int32))] [(.long ((q2 &&& (9223372036854775807 : Int64)) % (q3 &&& (9223372036854775807 : Int64)))), (.ref aD)])) _
        refine own_via (fun t k => XS.lload X15.here hx rfl (hb hby at_112) rfl k) ?_
        show own_Rch p.tables e below (T15.setTop (mkF m 114 #[.val (.int p1), .val (.long q2), .second, .val (.long q3), .second, .val (.long (q3 &&& (9223372036854775807 : Int64))), .second, .val (.long ((q2 &&& (9223372036854775807 : Int64)) % (q3 &&& (9223372036854775807 : Int64)))), .second, .val (.int ((p1 &&& (2147483647 : Int32)) % (3 : Int32))), .val (.ref aD), .val (.int (0 : Int32))] [(.long (q3 &&& (9223372036854775807 : Int64))), (.long ((q2 &&& (9223372036854775807 : Int64)) % (q3 &&& (9223372036854775807 : Int64)))), (.ref aD)])) _
        obtain ⟨cq16, kq16, q16a, q16b, q16c⟩ := isOf hZ e15 E_aD
        obtain ⟨_, _, ⟨T16, L16, k16, n16⟩, -, X16, ⟨Lc16, hQ16, l16, y16, z16⟩, st16⟩ := X15.virtualBack hx (y := (⟨"com/example/mediation/mediation/rating/RoundingRule", "roundsUp", "(JJ)Z"⟩ : MethodName)) (z := (⟨"com/example/mediation/mediation/rating/RoundingRule", "roundsUp", "(JJ)Z"⟩ : MethodName)) hown (mvT hZ (hw _ (List.mem_of_getElem? (i := 6) rfl))) (mvT hZ (hw _ (List.mem_of_getElem? (i := 7) rfl))) (notFace_of_selects (args := #[]) (mvT hZ (hw _ (List.mem_of_getElem? (i := 9) rfl)))) (mvT hZ (hw _ (List.mem_of_getElem? (i := 9) rfl))) (mvT hZ (hw _ (List.mem_of_getElem? (i := 8) rfl))) (by decide) (backOf (W := 0) (rm1 l Z a0 hw [] aD ((q2 &&& (9223372036854775807 : Int64)) % (q3 &&& (9223372036854775807 : Int64))) (q3 &&& (9223372036854775807 : Int64)) aH aU h0 n0 S_HALF_UP S_UP) hZ (hw _ (List.mem_of_getElem? (i := 10) rfl)) (hw _ (List.mem_of_getElem? (i := 3) rfl)) (by decide) (by decide)) q16a q16c (g := (mkF m 114 #[.val (.int p1), .val (.long q2), .second, .val (.long q3), .second, .val (.long (q3 &&& (9223372036854775807 : Int64))), .second, .val (.long ((q2 &&& (9223372036854775807 : Int64)) % (q3 &&& (9223372036854775807 : Int64)))), .second, .val (.int ((p1 &&& (2147483647 : Int32)) % (3 : Int32))), .val (.ref aD), .val (.int (0 : Int32))] [(.long (q3 &&& (9223372036854775807 : Int64))), (.long ((q2 &&& (9223372036854775807 : Int64)) % (q3 &&& (9223372036854775807 : Int64)))), (.ref aD)])) rfl (by rw [hml]; rfl) (Steps.refl _) (argsL := [(.long ((q2 &&& (9223372036854775807 : Int64)) % (q3 &&& (9223372036854775807 : Int64)))), (.long (q3 &&& (9223372036854775807 : Int64)))]) (rest := []) (lenOf pd_0 rfl) rfl (by show 2 * 0 + _ ≤ _; exact Nat.le_of_eq rfl) (hb hby at_114) (fun _ _ => ⟨rfl, e15, (by decide : 0 + 0 ≤ _), (by decide : 0 + 0 ≤ _)⟩)
        dsimp only [Pt.U, Pt.locs, Pt.cells, Pt.slots] at X16 l16 y16 z16 st16 hQ16
        subst l16 y16 z16
        obtain ⟨rfl, N16q, eh16⟩ := hQ16
        have N16 := Fr.app N0 N16q
        refine own_via (fun t k => st16.trans k) ?_
        show own_Rch p.tables e below (T16.setTop (mkF m 117 #[.val (.int p1), .val (.long q2), .second, .val (.long q3), .second, .val (.long (q3 &&& (9223372036854775807 : Int64))), .second, .val (.long ((q2 &&& (9223372036854775807 : Int64)) % (q3 &&& (9223372036854775807 : Int64)))), .second, .val (.int ((p1 &&& (2147483647 : Int32)) % (3 : Int32))), .val (.ref aD), .val (.int (0 : Int32))] [(.int (own_up aD aH aU ((q2 &&& (9223372036854775807 : Int64)) % (q3 &&& (9223372036854775807 : Int64))) (q3 &&& (9223372036854775807 : Int64))))])) _
        refine own_via (fun t k => XS.iload X16.here hx rfl (hb hby at_117) rfl k) ?_
        show own_Rch p.tables e below (T16.setTop (mkF m 119 #[.val (.int p1), .val (.long q2), .second, .val (.long q3), .second, .val (.long (q3 &&& (9223372036854775807 : Int64))), .second, .val (.long ((q2 &&& (9223372036854775807 : Int64)) % (q3 &&& (9223372036854775807 : Int64)))), .second, .val (.int ((p1 &&& (2147483647 : Int32)) % (3 : Int32))), .val (.ref aD), .val (.int (0 : Int32))] [(.int (0 : Int32)), (.int (own_up aD aH aU ((q2 &&& (9223372036854775807 : Int64)) % (q3 &&& (9223372036854775807 : Int64))) (q3 &&& (9223372036854775807 : Int64))))])) _
        have hq : (own_up aD aH aU ((q2 &&& (9223372036854775807 : Int64)) % (q3 &&& (9223372036854775807 : Int64))) (q3 &&& (9223372036854775807 : Int64))) = (0 : Int32) := own_L2 _ _ _ _ _ hDH hDU
        refine own_via (fun t k => XS.icmpNo X16.here hx rfl (hb hby at_119) rfl (teq hq).2 k) ?_
        show own_Rch p.tables e below (T16.setTop (mkF m 122 #[.val (.int p1), .val (.long q2), .second, .val (.long q3), .second, .val (.long (q3 &&& (9223372036854775807 : Int64))), .second, .val (.long ((q2 &&& (9223372036854775807 : Int64)) % (q3 &&& (9223372036854775807 : Int64)))), .second, .val (.int ((p1 &&& (2147483647 : Int32)) % (3 : Int32))), .val (.ref aD), .val (.int (0 : Int32))] [])) _
        refine own_via (fun t k => XS.iconst X16.here hx rfl (hb hby at_122) k) ?_
        show own_Rch p.tables e below (T16.setTop (mkF m 123 #[.val (.int p1), .val (.long q2), .second, .val (.long q3), .second, .val (.long (q3 &&& (9223372036854775807 : Int64))), .second, .val (.long ((q2 &&& (9223372036854775807 : Int64)) % (q3 &&& (9223372036854775807 : Int64)))), .second, .val (.int ((p1 &&& (2147483647 : Int32)) % (3 : Int32))), .val (.ref aD), .val (.int (0 : Int32))] [(.int (1 : Int32))])) _
        refine own_via (fun t k => XS.goto X16.here hx rfl (pc0 := 123) (pc' := 127) rfl (hb hby at_123) (by decide) (by decide) k) ?_
        show own_Rch p.tables e below (T16.setTop (mkF m 127 #[.val (.int p1), .val (.long q2), .second, .val (.long q3), .second, .val (.long (q3 &&& (9223372036854775807 : Int64))), .second, .val (.long ((q2 &&& (9223372036854775807 : Int64)) % (q3 &&& (9223372036854775807 : Int64)))), .second, .val (.int ((p1 &&& (2147483647 : Int32)) % (3 : Int32))), .val (.ref aD), .val (.int (0 : Int32))] [(.int (1 : Int32))])) _
        exact own_fin X16 hx (t := .boolean) (i := .ireturn) Bd.returns Bd.notSynchronized rfl (Or.inl ⟨rfl, by simp, _, rfl⟩) (hb hby at_127) (by decide) (by decide) ⟨rfl, N16⟩
set_option maxRecDepth 65536 in
set_option maxHeartbeats 40000000 in
theorem comes_1 {Post : Tables → Env → Array Value → State → Outcome → State → Prop} (hpost : ∀ tb e args s v u, (limb_1_1.after args s (.returned v) u = true ∧ limb_1_2.after args s (.returned v) u = true ∧ True) → FrameEnd s (.returned v) u (Jvm.fieldLocs frame_1_writes args s ++ Jvm.arrayLocs frame_1_arrays args s ++ Jvm.staticLocs frame_1_statics s) 0 0 → Post tb e args s (.returned v) u) :
    ArmFor flags0 classFile x code maxLocals ret World_1 tables_1 room_1 Calls_1 rest_1 Pre_1 Post := by
  intro l hfl _ _ p e ha hc hk s m args below hf hA hF happ hP
  obtain ⟨hcalls, hrest, hpre⟩ := hP
  obtain ⟨-, -, -, hnamed, -, -, -, hat⟩ := (Spec.applies_iff hf).mp happ
  obtain ⟨hg, hn⟩ := and_e (Cond.before_iff.mp (show (Jvm.Cond.and given_1 narrow_1).before args s = true from hpre))
  obtain ⟨hcount, r0⟩ := and_e hg
  obtain ⟨v0, r1⟩ := and_e r0
  obtain ⟨v1, r2⟩ := and_e r1
  obtain ⟨w0, w1, w2, rfl⟩ : ∃ w0 w1 w2 : Value, args = #[w0, w1, w2] := by
    have hs : args.size = 3 := by simpa [Cond.value, given_1] using hcount
    obtain ⟨L⟩ := args
    match L, hs with
    | [w0, w1, w2], _ => exact ⟨w0, w1, w2, rfl⟩
  have hw := fun d (hd : d ∈ tables_1) => atoms_spec (ws := Jvm.Cond.code x code maxLocals ret :: tables_1) hat d (List.mem_cons_of_mem _ hd)
  have hfit : Fit s := fun {y c} hc i hi => by
    obtain ⟨ha, rfl⟩ := Array.getElem?_eq_some_iff.mp hc
    have q := List.all_eq_true.mp ((Array.all_eq_true_iff_forall_mem.mp hF) _ (Array.getElem_mem ha)) i (List.mem_range.mpr hi)
    simpa [Array.getElem?_eq_getElem hi] using q
  obtain ⟨i0, ei0⟩ := is_v v0
  obtain rfl : w0 = (.int i0) := Option.some.inj ei0
  obtain ⟨i1, ei1⟩ := isL_v v1
  obtain rfl : w1 = (.long i1) := Option.some.inj ei1
  obtain ⟨i2, ei2⟩ := isL_v r2
  obtain rfl : w2 = (.long i2) := Option.some.inj ei2
  obtain ⟨n1, r⟩ := and_e hn
  obtain ⟨n2, r⟩ := and_e r
  obtain ⟨n3, r⟩ := and_e r
  obtain ⟨n4, r⟩ := and_e r
  obtain ⟨n5, n6⟩ := and_e r
  obtain ⟨aH, evH⟩ := exa_v n1
  obtain ⟨aU, evU⟩ := exa_v n2
  obtain ⟨aD, evD⟩ := exa_v n5
  have fU := Fld.start ((fld_at evU).symm.trans (own_eqI n3))
  have fH := Fld.start ((fld_at evH).symm.trans (own_eqI n4))
  have fD := Fld.start ((fld_at evD).symm.trans (own_eqI n6))
  have sH := Sta.start evH (Or.inr ⟨hw _ (List.mem_of_getElem? (i := 3) rfl), hw _ (List.mem_of_getElem? (i := 4) rfl)⟩)
  have sU := Sta.start evU (Or.inr ⟨hw _ (List.mem_of_getElem? (i := 3) rfl), hw _ (List.mem_of_getElem? (i := 13) rfl)⟩)
  have sD := Sta.start evD (Or.inr ⟨hw _ (List.mem_of_getElem? (i := 3) rfl), hw _ (List.mem_of_getElem? (i := 16) rfl)⟩)
  obtain ⟨n, o, h1, h2, h3, _, L, rfl, ⟨rfl, N⟩, hq⟩ := rm0 l s _ hw tables_1 i0 i1 i2 aH aU aD s.heap s.heap.size (Nat.le_refl _) sH sU sD (Exa.start evH n1) (Exa.start evU n2) (Exa.start evD n5) (Fld.ne fU fH (by decide)) (Fld.ne fD fH (by decide)) (Fld.ne fD fU (by decide)) p e ha hc hk s m _ below hf ((Spec.applies_iff_loose hf).mp happ).1 ⟨rfl, State.Warmed39.refl s, rfl⟩ trivial
  refine ⟨n, _, h1, h2, h3, hpost _ _ _ _ _ _ ⟨Cond.after_iff.mpr rfl, Cond.after_iff.mpr (eq_i res_at (Term.int_eval (1)) rfl), trivial⟩ ⟨hq.1, hq.2.1, (hq.2.2.sift fun y hy => Or.inr (N y hy)).mono (by decide) (by decide)⟩⟩
theorem main_1_1 : Claimed_1_1 := comes_1 fun _ _ _ _ _ _ h hF => ⟨h.1, hF⟩
theorem main_1_2 : Claimed_1_2 := comes_1 fun _ _ _ _ _ _ h hF => ⟨h.2.1, hF⟩
end Jvm.Pilot.@@N@@
namespace Jvm.Pilot.@@N@@
open Jvm Jvm.ClassFile Sem Op Lib Jvm.Free Jvm.Stand Jvm.Pilot.@@N@@.Jvm.D
/-! MADE BY PROGRAM (witnessworld.py) out of the Statement's table words and the real class files: 12 classes; the members and pool entries that the words name. The judged class is class 1, her method 1. -/
namespace start1
open Jvm.ClassFile
def u (s : String) : CpInfo := .utf8 (stringToUtf16 s)
/-- a pool by its gaps: so many unusable entries, then the entry; so many at the end -/
def gap : Nat → List CpInfo → List CpInfo
  | 0, r => r
  | n + 1, r => .unusable :: gap n r
def poolList (es : List (Nat × CpInfo)) (last : Nat) : List CpInfo := es.foldr (fun e r => gap e.1 (e.2 :: r)) (gap last [])
def pool (es : List (Nat × CpInfo)) (last : Nat) : Array CpInfo := ⟨poolList es last⟩
def fileOf (pool : Array CpInfo) (this : Nat) (attrs : Array Attribute := #[]) (ms : Array MethodInfo := #[]) (fl : Nat := 33) (sup : Nat := 0) (ifs : Array Nat := #[]) (fds : Array FieldInfo := #[]) : ClassFile where
  minorVersion := 0
  majorVersion := 65
  constantPool := pool
  accessFlags := fl
  thisClass := this
  superClass := sup
  interfaces := ifs
  fields := fds
  methods := ms
  attributes := attrs
def plain (name : String) (sup : Option ClassId) : Class where
  name := name
  kind := .ordinary
  loader := none
  accessFlags := 33
  super := sup
  interfaces := #[]
  cf := none
  fields := #[]
  methods := #[]
  instanceTypes := #[]
  staticTypes := #[]
  resolved := #[]
  callSites := []
  init := .initialized
  statics := none
  mirror := none

def pool0 : Array CpInfo := pool [(5, u "<init>"), (0, u "()V"), (1, .class_ 10), (1, u "java/lang/Object")] 113

def k0m0 : Method := { name := "<init>", desc := "()V", sig := { parameters := [], returnType := none }, accessFlags := 1, code := none }
/-- java/lang/Object -/
def k0 : Class := { plain "java/lang/Object" none with
  accessFlags := 33
  interfaces := #[]
  cf := some (fileOf pool0 8 #[] #[{ accessFlags := 1, nameIndex := 5, descriptorIndex := 6, attributes := #[] }] 33 0 #[] #[])
  fields := #[]
  methods := #[k0m0]
  instanceTypes := #[]
  staticTypes := #[]
  resolved := Array.replicate 124 none
  statics := none }

def pool1 : Array CpInfo := pool [(2, .class_ 4), (1, u "java/lang/Object"), (0, u "<init>"), (0, u "()V"), (2, .long 9223372036854775807), (1, .integer 2147483647), (0, .fieldref 13 14), (0, .class_ 15), (0, .nameAndType 16 17), (0, u "com/example/mediation/mediation/rating/RoundingRule"), (0, u "HALF_UP"), (0, u "Lcom/example/mediation/mediation/rating/RoundingRule;"), (0, .long 2), (1, .fieldref 13 21), (0, .nameAndType 22 17), (0, u "UP"), (0, .fieldref 13 24), (0, .nameAndType 25 17), (0, u "DOWN"), (0, .methodref 13 27), (0, .nameAndType 28 29), (0, u "roundsUp"), (0, u "(JJ)Z"), (0, .class_ 31), (0, u "com/example/mediation/mediation/rating/RoundingRuleRoundsUpPinLaw"), (2, u "law"), (0, u "(IJJ)Z")] 3

def k1m0 : Method := { name := "<init>", desc := "()V", sig := { parameters := [], returnType := none }, accessFlags := 1, code := none }
def k1c1 : Code := { maxStack := 8, maxLocals := 12, code := code, exceptionTable := #[], attributes := #[] }
def k1m1 : Method := { name := "law", desc := "(IJJ)Z", sig := { parameters := [.int, .long, .long], returnType := some .boolean }, accessFlags := 9, code := some k1c1 }
/-- com/example/mediation/mediation/rating/RoundingRuleRoundsUpPinLaw -/
def k1 : Class := { plain "com/example/mediation/mediation/rating/RoundingRuleRoundsUpPinLaw" (some 0) with
  accessFlags := 49
  interfaces := #[]
  cf := some (fileOf pool1 30 #[] #[{ accessFlags := 1, nameIndex := 5, descriptorIndex := 6, attributes := #[] }, { accessFlags := 9, nameIndex := 34, descriptorIndex := 35, attributes := #[] }] 49 2 #[] #[])
  fields := #[]
  methods := #[k1m0, k1m1]
  instanceTypes := #[]
  staticTypes := #[]
  resolved := Array.replicate 39 none
  statics := none }

def pool2 : Array CpInfo := pool [(1, .class_ 2), (0, u "java/lang/constant/Constable"), (0, .class_ 4), (0, u "java/lang/Object")] 6

/-- java/lang/constant/Constable -/
def k2 : Class := { plain "java/lang/constant/Constable" (some 0) with
  accessFlags := 1537
  interfaces := #[]
  cf := some (fileOf pool2 1 #[] #[] 1537 3 #[] #[])
  fields := #[]
  methods := #[]
  instanceTypes := #[]
  staticTypes := #[]
  resolved := Array.replicate 11 none
  statics := none }

def pool3 : Array CpInfo := pool [(1, .class_ 2), (0, u "java/lang/Comparable"), (0, .class_ 4), (0, u "java/lang/Object")] 7

/-- java/lang/Comparable -/
def k3 : Class := { plain "java/lang/Comparable" (some 0) with
  accessFlags := 1537
  interfaces := #[]
  cf := some (fileOf pool3 1 #[] #[] 1537 3 #[] #[])
  fields := #[]
  methods := #[]
  instanceTypes := #[]
  staticTypes := #[]
  resolved := Array.replicate 12 none
  statics := none }

def pool4 : Array CpInfo := pool [(1, .class_ 2), (0, u "java/io/Serializable"), (0, .class_ 4), (0, u "java/lang/Object")] 2

/-- java/io/Serializable -/
def k4 : Class := { plain "java/io/Serializable" (some 0) with
  accessFlags := 1537
  interfaces := #[]
  cf := some (fileOf pool4 1 #[] #[] 1537 3 #[] #[])
  fields := #[]
  methods := #[]
  instanceTypes := #[]
  staticTypes := #[]
  resolved := Array.replicate 7 none
  statics := none }

def pool5 : Array CpInfo := pool [(2, .class_ 4), (1, u "java/lang/Enum"), (0, u "name"), (0, u "Ljava/lang/String;"), (2, u "ordinal"), (0, u "I"), (1, .class_ 14), (1, u "java/lang/Object"), (4, u "hash"), (86, .class_ 108), (1, u "java/lang/Enum$EnumDesc"), (2, .class_ 112), (0, u "java/lang/constant/Constable"), (0, .class_ 114), (0, u "java/lang/Comparable"), (0, .class_ 116), (0, u "java/io/Serializable")] 87

/-- java/lang/Enum -/
def k5 : Class := { plain "java/lang/Enum" (some 0) with
  accessFlags := 1057
  interfaces := #[2, 3, 4]
  cf := some (fileOf pool5 2 #[.nestMembers #[106]] #[] 1057 12 #[111, 113, 115] #[{ accessFlags := 18, nameIndex := 5, descriptorIndex := 6, attributes := #[] }, { accessFlags := 18, nameIndex := 9, descriptorIndex := 10, attributes := #[] }, { accessFlags := 2, nameIndex := 19, descriptorIndex := 10, attributes := #[] }])
  fields := #[{ name := "name", type := (.object "java/lang/String"), accessFlags := 18, slot := 0, constantValue := 0 }, { name := "ordinal", type := .int, accessFlags := 18, slot := 1, constantValue := 0 }, { name := "hash", type := .int, accessFlags := 2, slot := 2, constantValue := 0 }]
  methods := #[]
  instanceTypes := #[(.object "java/lang/String"), .int, .int]
  staticTypes := #[]
  resolved := Array.replicate 204 none
  statics := none }

def pool6 : Array CpInfo := pool [(1, .class_ 2), (0, u "com/example/mediation/mediation/rating/RoundingRule"), (0, .fieldref 1 4), (0, .nameAndType 5 6), (0, u "HALF_UP"), (0, u "Lcom/example/mediation/mediation/rating/RoundingRule;"), (0, .fieldref 1 8), (0, .nameAndType 9 6), (0, u "UP"), (2, u "DOWN"), (2, u "$VALUES"), (0, u "[Lcom/example/mediation/mediation/rating/RoundingRule;"), (6, .class_ 25), (1, u "java/lang/Enum"), (8, u "mode"), (0, u "Ljava/math/RoundingMode;"), (26, u "roundsUp"), (0, u "(JJ)Z")] 6

def k6c0 : Code := { maxStack := 6, maxLocals := 6, code := prog_47_method_5_code, exceptionTable := #[], attributes := #[] }
def k6m0 : Method := { name := "roundsUp", desc := "(JJ)Z", sig := { parameters := [.long, .long], returnType := some .boolean }, accessFlags := 0, code := some k6c0 }
/-- com/example/mediation/mediation/rating/RoundingRule -/
def k6 : Class := { plain "com/example/mediation/mediation/rating/RoundingRule" (some 5) with
  accessFlags := 16433
  interfaces := #[]
  cf := some (fileOf pool6 1 #[] #[{ accessFlags := 0, nameIndex := 62, descriptorIndex := 63, attributes := #[] }] 16433 23 #[] #[{ accessFlags := 16409, nameIndex := 5, descriptorIndex := 6, attributes := #[] }, { accessFlags := 16409, nameIndex := 9, descriptorIndex := 6, attributes := #[] }, { accessFlags := 16409, nameIndex := 12, descriptorIndex := 6, attributes := #[] }, { accessFlags := 18, nameIndex := 34, descriptorIndex := 35, attributes := #[] }, { accessFlags := 4122, nameIndex := 15, descriptorIndex := 16, attributes := #[] }])
  fields := #[{ name := "HALF_UP", type := (.object "com/example/mediation/mediation/rating/RoundingRule"), accessFlags := 16409, slot := 0, constantValue := 0 }, { name := "UP", type := (.object "com/example/mediation/mediation/rating/RoundingRule"), accessFlags := 16409, slot := 1, constantValue := 0 }, { name := "DOWN", type := (.object "com/example/mediation/mediation/rating/RoundingRule"), accessFlags := 16409, slot := 2, constantValue := 0 }, { name := "mode", type := (.object "java/math/RoundingMode"), accessFlags := 18, slot := 3, constantValue := 0 }, { name := "$VALUES", type := (.array (.object "com/example/mediation/mediation/rating/RoundingRule")), accessFlags := 4122, slot := 3, constantValue := 0 }]
  methods := #[k6m0]
  instanceTypes := #[(.object "java/lang/String"), .int, .int, (.object "java/math/RoundingMode")]
  staticTypes := #[(.object "com/example/mediation/mediation/rating/RoundingRule"), (.object "com/example/mediation/mediation/rating/RoundingRule"), (.object "com/example/mediation/mediation/rating/RoundingRule"), (.array (.object "com/example/mediation/mediation/rating/RoundingRule"))]
  resolved := Array.replicate 70 none
  statics := some 0 }

def pool7 : Array CpInfo := pool [(1, u "java/lang/Cloneable"), (0, .class_ 1), (0, u "java/lang/Object"), (0, .class_ 3)] 3

/-- java/lang/Cloneable -/
def k7 : Class := { plain "java/lang/Cloneable" (some 0) with
  accessFlags := 1537
  interfaces := #[]
  cf := some (fileOf pool7 2 #[] #[] 1537 4 #[] #[])
  fields := #[]
  methods := #[]
  instanceTypes := #[]
  staticTypes := #[]
  resolved := Array.replicate 8 none
  statics := none }

/-- the primitive byte -/
def k8 : Class := { plain "byte" none with kind := .primitive 'B', accessFlags := 0x411 }
/-- [B -/
def k9 : Class := { plain "[B" (some 0) with kind := .array 8 .byte, interfaces := #[7, 4], accessFlags := 1041 }

/-- the primitive int -/
def k10 : Class := { plain "int" none with kind := .primitive 'I', accessFlags := 0x411 }
/-- [I -/
def k11 : Class := { plain "[I" (some 0) with kind := .array 10 .int, interfaces := #[7, 4], accessFlags := 1041 }

def heap : Heap := #[{ cls := 6, slots := #[.ref 1, .ref 2, .ref 3, .null], vm := .statics 6 },
  { cls := 6, slots := #[.null, .int 0, .int 0, .null], vm := .none },
  { cls := 6, slots := #[.null, .int 1, .int 0, .null], vm := .none },
  { cls := 6, slots := #[.null, .int 2, .int 0, .null], vm := .none }]
def classes : Array Class := #[k0, k1, k2, k3, k4, k5, k6, k7, k8, k9, k10, k11]
def interned : List (Array UInt16 × Addr) := []
def slotsUsed : Nat := 16
def theMethod : MethodId := ⟨1, 1⟩
def args0 : Array Value := #[.int 5, .long 7, .long 7]
def aboutOver (below : List Frame) : State where
  vm := { classes := classes, interned := interned.toArray }
  heap := heap
  slotsUsed := slotsUsed
  threads := #[{ frames := .invoking theMethod args0 :: below }]
def below0 : List Frame := [.native { method := ⟨0, 0⟩, args := #[] }]
def about1 : State := aboutOver below0
def p0 : Program := .bare "" "" ""
def e0 : Env := launch0.env 0 0 0
theorem w_frames : about1.frames = Frame.invoking theMethod args0 :: below0 := rfl
set_option maxRecDepth 65536 in
theorem w_args : argsFit about1.vm theMethod args0 = true := by decide +kernel
set_option maxRecDepth 65536 in
theorem w_heap : heapFits about1 = true := by decide +kernel
set_option maxRecDepth 65536 in
theorem w_runnable : about1.curStatus? = some .runnable := by decide +kernel
set_option maxRecDepth 65536 in
theorem w_alone : about1.alone = true := by decide +kernel
set_option maxRecDepth 65536 in
theorem w_named : about1.methodNamed? x = some theMethod := by decide +kernel
set_option maxRecDepth 65536 in
theorem w_hears : about1.hears theMethod below0 = true := by decide +kernel
set_option maxRecDepth 65536 in
theorem w_ripe : about1.ripe theMethod args0 below0 = true := by decide +kernel
theorem w_running : about1.status = .running := rfl
set_option maxRecDepth 65536 in
theorem w_room : about1.hasRoom e0.platform room_1 = true :=
  launch0.hasRoom_least _ room_1 (by decide +kernel) (by decide +kernel) (by decide +kernel) (by decide +kernel) (by decide +kernel) (by decide +kernel)
theorem allAtoms_all (ts : List Jvm.Cond) (a : Array Jvm.Value) (st : Jvm.State) : (allAtoms ts).before a st = ts.all (fun c => c.before a st) := by
  induction ts with
  | nil => rfl
  | cons c t ih =>
    show (Jvm.Cond.and c (allAtoms t)).before a st = _
    rw [Jvm.Cond.before_and, ih, List.all_cons]
def words1 : List Jvm.Cond := Jvm.Cond.code x code maxLocals ret :: tables_1
/-- a 'code' word, met by the world's own term for the bytes: nothing is compared byte by byte -/
theorem code_word {y : MethodName} {bytes : ByteArray} {mx : Nat} {rt : Option FieldType} {a : Array Value} {s : State} {m : MethodId} {meth : Method} {c : Code} (h1 : s.methodNamed? y = some m) (h2 : s.vm.method? m = some meth) (h3 : meth.code = some c) (h4 : c.code = bytes)
    (h5 : (c.maxLocals == mx && c.exceptionTable.isEmpty && decide (c.maxStack ≤ mostOperands) && decide (meth.sig.returnType = rt) && !meth.locks && decide (parseMethodDescriptor y.desc = some meth.sig)) = true) : (Jvm.Cond.code y bytes mx rt).before a s = true := by
  simp only [Bool.and_eq_true, beq_iff_eq, Bool.not_eq_true', decide_eq_true_eq] at h5
  obtain ⟨⟨⟨⟨⟨g1, g2⟩, g3⟩, g4⟩, g5⟩, g6⟩ := h5
  simp [Cond.before, Cond.holds, Cond.value, h1, h2, h3, h4, g1, g2, g3, g4, g5, g6]
def isCode : Jvm.Cond → Bool
  | .code _ _ _ _ => true
  | _ => false
theorem all_split {L : List Jvm.Cond} {P : Jvm.Cond → Bool} (h1 : L.all (fun c => isCode c || P c) = true) (h2 : ∀ c ∈ L.filter isCode, P c = true) : L.all P = true := by
  refine List.all_eq_true.mpr fun c hc => ?_
  have h := List.all_eq_true.mp h1 c hc
  rcases Bool.eq_false_or_eq_true (isCode c) with hi | hi
  · exact h2 c (List.mem_filter.mpr ⟨hc, hi⟩)
  · simpa [hi] using h
set_option maxRecDepth 65536 in
theorem w_c0 : (Jvm.Cond.code x code maxLocals ret).before args0 about1 = true := code_word (m := ⟨1, 1⟩) (meth := k1m1) (c := k1c1) (by decide +kernel) rfl rfl rfl (by decide +kernel)
set_option maxRecDepth 65536 in
theorem w_c1 : (Jvm.Cond.code ({ cls := "com/example/mediation/mediation/rating/RoundingRule", name := "roundsUp", desc := "(JJ)Z" } : Jvm.MethodName) prog_47_method_5_code (6 : Nat) (Option.some Jvm.ClassFile.FieldType.boolean)).before args0 about1 = true := code_word (m := ⟨6, 0⟩) (meth := k6m0) (c := k6c0) (by decide +kernel) rfl rfl rfl (by decide +kernel)
def codes1 : List Jvm.Cond := [Jvm.Cond.code x code maxLocals ret, Jvm.Cond.code ({ cls := "com/example/mediation/mediation/rating/RoundingRule", name := "roundsUp", desc := "(JJ)Z" } : Jvm.MethodName) prog_47_method_5_code (6 : Nat) (Option.some Jvm.ClassFile.FieldType.boolean)]
set_option maxRecDepth 65536 in
theorem codes_eq : words1.filter isCode = codes1 := rfl
theorem w_codes : ∀ c ∈ words1.filter isCode, c.before args0 about1 = true := by
  rw [codes_eq]
  intro c hc
  simp only [codes1, List.mem_cons, List.not_mem_nil, or_false] at hc
  rcases hc with rfl | rfl
  · exact w_c0
  · exact w_c1
set_option maxRecDepth 65536 in
theorem w_t1 : words1.all (fun c => isCode c || c.before args0 about1) = true := by decide +kernel
theorem w_tables : (allAtoms (Jvm.Cond.code x code maxLocals ret :: tables_1)).before args0 about1 = true := by
  rw [allAtoms_all]
  show words1.all (fun c => c.before args0 about1) = true
  refine all_split ?_ w_codes
  rw [w_t1]
set_option maxRecDepth 65536 in
theorem w_case : (Jvm.Cond.and given_1 narrow_1).before args0 about1 = true := by decide +kernel
theorem w_applies : (headSpec (Jvm.Cond.code x code maxLocals ret :: tables_1) room_1).applies x e0.platform about1 = true :=
  (Spec.applies_iff w_frames).mpr ⟨w_running, w_runnable, w_alone, w_named, w_hears, w_ripe, w_room, w_tables⟩
theorem atStart : AtStart classFile x code maxLocals ret World_1 tables_1 room_1 Calls_1 rest_1 Pre_1 launch0 p0 e0 about1 theMethod args0 below0 :=
  ⟨lists_1, trivial, launch0.admits_env _ _ _, launch0.least_env, fairChoices_fair.cas, fairChoices_fair.clock, w_frames, w_args, w_heap, w_applies, trivial, trivial, w_case⟩
end start1
theorem witness_1 : WitnessClaimed_1 := ⟨start1.p0, start1.e0, start1.about1, start1.theMethod, start1.args0, start1.below0, start1.atStart⟩
end Jvm.Pilot.@@N@@
