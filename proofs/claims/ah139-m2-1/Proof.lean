import JvmDerived
import JvmDerived.Pilot.@@N@@Statement
import JvmDerived.Pilot.@@N@@Code
set_option linter.unusedVariables false
set_option linter.unusedSimpArgs false
namespace Jvm.RoadKit
open Sem ClassFile Op Lib Jvm.Stand Jvm.Free Jvm.LawKit
section New
variable {p : Program} {l : Launch} {e : Env} {R : Room} {s : State} {m : MethodId} {args : Array Value} {below : List Frame} {meth : Method} {c : Code} {T : State} {locs : List Loc} {cells slots : Nat}
theorem retI (X : Stand p l e R s m args below meth c T locs cells slots) (hx : p.tables.exec = Jvm.exec) {pc : Nat} {Ls : Array Slot} {z : Int32} {rest : List Value} (hret : meth.sig.returnType = some .int) (hd : decode c.code pc = .ok (.ireturn, 1)) {fs : List Frame}
    (hl : ∀ (f : JFrame) (acts : List Action), f.method = m → f.locked = none → f.entered = [] → (doReturn e (T.setTop f) acts (some (.int z))).1 = T.setFrames fs) : Steps p.tables e below (T.setTop (mkF m pc Ls (.int z :: rest))) (T.setFrames fs) := by
  have hm' : T.vm.method? m = some meth := X.method'
  have hn : narrow .int (.int z) = .int z := rfl
  show Steps p.tables e below (T.setTop { method := m, pc := pc, locals := Ls, stack := _ :: rest, locked := none }) _
  jvm_step X.here [X.here.top, hx, hd, hm', hret, hn]
  first | (intro acts; rw [hl _ acts rfl rfl rfl]) | rw [hl _ _ rfl rfl rfl]
  exact Steps.refl _
end New
end Jvm.RoadKit
namespace Jvm.Pilot.@@N@@
open Jvm Jvm.ClassFile Sem Op Lib Jvm.Free Jvm.Stand Jvm.LawKit Jvm.RoadKit Bundle Jvm.Pilot.@@N@@.Jvm.D
section OwnKit
variable {p : Program} {l : Launch} {e : Env} {R : Room} {s : State} {m : MethodId} {args : Array Value} {below : List Frame} {meth : Method} {c : Code} {T : State} {locs : List Loc} {cells slots : Nat}
def own_Rch (tb : Tables) (e : Env) (below : List Frame) (S : State) (Φ : Outcome → State → Prop) : Prop := ∃ s₂ o, Steps tb e below S s₂ ∧ s₂.status = .running ∧ Ended s₂ below o ∧ Φ o s₂
theorem own_via {tb : Tables} {S S' : State} {Φ : Outcome → State → Prop} (h : ∀ t, Steps tb e below S' t → Steps tb e below S t) (k : own_Rch tb e below S' Φ) : own_Rch tb e below S Φ := by
  obtain ⟨s₂, o, k1, k2⟩ := k
  exact ⟨s₂, o, h _ k1, k2⟩
abbrev own_End (s : State) (Q : Option Value → Heap → List Loc → Prop) (k n : Nat) : Outcome → State → Prop := fun o U' => ∃ v L, o = .returned v ∧ Q v U'.heap L ∧ FrameEnd s o U' L k n
theorem own_fin (X : Stand p l e R s m args below meth c T locs cells slots) (hx : p.tables.exec = Jvm.exec) {pc : Nat} {Ls : Array Slot} {w : Value} {t : FieldType} {i : Instr} {rest : List Value} (hret : meth.sig.returnType = some t) (hlk : meth.locks = false) (hnw : narrow t w = w)
    (hi : (i = .ireturn ∧ (t = .int ∨ t = .boolean ∨ t = .byte ∨ t = .char ∨ t = .short) ∧ ∃ z, w = .int z) ∨ (i = .lreturn ∧ t = .long ∧ ∃ z, w = .long z) ∨ (i = .dreturn ∧ t = .double ∧ ∃ z, w = .double z) ∨ (i = .freturn ∧ t = .float ∧ ∃ z, w = .float z) ∨ (i = .areturn ∧ t.isReference = true ∧ w.isRef = true))
    (hd : decode c.code pc = .ok (i, 1)) {Q : Option Value → Heap → List Loc → Prop} {k n : Nat} (hk : cells ≤ k) (hn : slots ≤ n) (hQ : Q (some w) T.heap locs) : own_Rch p.tables e below (T.setTop (mkF m pc Ls (w :: rest))) (own_End s Q k n) := by
  obtain ⟨fs, hr, hrun, hended, hW, hsame⟩ := X.leave (v := some w) (fun h => by rw [hret] at h; cases h) hlk
  exact ⟨_, _, retOut X hx hret hnw hi hd hr, hrun, hended, _, _, rfl, hQ, ⟨_, rfl⟩, hW, hsame.mono hk hn⟩
theorem own_fin0 (X : Stand p l e R s m args below meth c T locs cells slots) (hx : p.tables.exec = Jvm.exec) {pc : Nat} {Ls : Array Slot} (hret : meth.sig.returnType = none) (hlk : meth.locks = false)
    (hd : decode c.code pc = .ok (.return_, 1)) {Q : Option Value → Heap → List Loc → Prop} {k n : Nat} (hk : cells ≤ k) (hn : slots ≤ n) (hQ : Q none T.heap locs) : own_Rch p.tables e below (T.setTop (mkF m pc Ls [])) (own_End s Q k n) := by
  obtain ⟨fs, hr, hrun, hended, hW, hsame⟩ := X.leave (v := none) (fun _ => rfl) hlk
  exact ⟨_, _, X.returnOut hx hret hd hr, hrun, hended, _, _, rfl, hQ, ⟨_, rfl⟩, hW, hsame.mono hk hn⟩
theorem own_lrem {g : JFrame} {target : State} (X : Stand p l e R s m args below meth c T locs cells slots) (hx : p.tables.exec = Jvm.exec) (hg : g.method = m) {x y : Int64} {rest : List Value} (hd : decode c.code g.pc = .ok (.lrem, 1)) (hs : g.stack = .long y :: .long x :: rest) (hy : y ≠ 0)
    (hr : Steps p.tables e below (T.setTop { g with pc := g.pc + 1, stack := .long (x % y) :: rest }) target) : Steps p.tables e below (T.setTop g) target := by
  have q : x - x / y * y = x % y := lrem_mod x y
  exact XS.lrem X.here hx hg hd hs hy (by rw [q]; exact hr)
end OwnKit
def own_Pure (r : Value) (h0 : Heap) (n0 : Nat) (v : Option Value) (h : Heap) (L : List Loc) : Prop := v = some r ∧ Fr n0 L ∧ h = h0
def own_at (l : List Int32) (j : Int32) : Int32 := l.getD j.toNatClampNeg 0
theorem own_getI (l : List Int32) : ∀ k : Nat, (l.map Value.int).getD k (.int 0) = .int (l.getD k 0) := by
  induction l with
  | nil => intro k; rfl
  | cons a t ih => intro k; cases k with
    | zero => rfl
    | succ k => exact ih k
theorem own_in (p2 p3 n i b : Int32) (h0 : 0 ≤ p2.toInt) (h1 : p3.toInt ≤ b.toInt) (h2 : 0 ≤ p3.toInt) (c : p3 - p2 = n) (k0 : 0 ≤ i.toInt) (k1 : i.toInt < n.toInt) : ¬ (p2 + i) < 0 ∧ (p2 + i) < b := by
  have e1 := c_isub p3 p2
  have e2 := c_iadd p2 i
  rw [c] at e1
  have r1 := rng32 p2
  have r2 := rng32 p3
  have r3 := rng32 (p2 + i)
  have r4 := rng32 n
  have a2 : (0 : Int32).toInt = 0 := rfl
  simp only [Int32.lt_iff_toInt_lt, a2]
  omega
theorem own_inz (p2 p3 n b : Int32) (h0 : 0 ≤ p2.toInt) (h1 : p3.toInt ≤ b.toInt) (h2 : 0 ≤ p3.toInt) (c : p3 - p2 = n) (k1 : 0 < n.toInt) : ¬ p2 < 0 ∧ p2 < b := by
  have e1 := c_isub p3 p2
  rw [c] at e1
  have r1 := rng32 p2
  have r2 := rng32 p3
  have r4 := rng32 n
  have a2 : (0 : Int32).toInt = 0 := rfl
  simp only [Int32.lt_iff_toInt_lt, a2]
  omega
def own_n3 (l : List Int32) (p2 p3 : Int32) : Int32 := if (p3 - p2) = (2 : Int32) then (if own_at l p2 = (92 : Int32) then (if own_at l (p2 + (1 : Int32)) = (78 : Int32) then 1 else 0) else 0) else 0
theorem own_eqI {t : Term} {k : Int32} {args : Array Value} {first s : State} {o : Option Outcome} {idx : List Nat} (h : (Jvm.Cond.eq t (Term.int k)).value args first o s idx = some true) : t.eval args first o idx s = some (.int k) := by
  have e : (Term.int k).eval args first o idx s = some (.int k) := rfl
  rw [Jvm.Cond.value] at h
  rw [e] at h
  cases ht : t.eval args first o idx s with
  | none => simp [ht] at h
  | some v => cases v <;> simp_all
theorem own_len {t : Term} {k : Int32} {x : Addr} {cl : Cell} {args : Array Value} {first s : State} {o : Option Outcome} {idx : List Nat} (h : (Term.length t).eval args first o idx s = some (.int k)) (ht : t.eval args first o idx s = some (.ref x)) (ha : s.arrayAt? x = some cl) : cl.slots.size < 2 ^ 31 ∧ cl.slots.size.toInt32 = k := by
  by_cases q : cl.slots.size < 2 ^ 31
  · rw [len_f ht ha q] at h
    exact ⟨q, by simpa using h⟩
  · exfalso; simp [Term.eval, ht, ha, q] at h
theorem own_fr (x : Int32) : 0 ≤ ((x &&& (2147483647 : Int32)) % (5 : Int32)).toInt ∧ ((x &&& (2147483647 : Int32)) % (5 : Int32)).toInt ≤ 4 := by
  have h := c_and x 2147483647 (by decide)
  have q := (c_irem (x &&& (2147483647 : Int32)) 5 5 rfl).1 h.1
  rw [q]; omega
theorem own_five (f : Int32) (h : 0 ≤ f.toInt ∧ f.toInt ≤ 4) : ((5 : Int32) - f).toInt = 5 - f.toInt := by
  have e := c_isub (5 : Int32) f
  have a : (5 : Int32).toInt = 5 := rfl
  have r := rng32 ((5 : Int32) - f)
  omega
theorem own_nz (f : Int32) (h : 0 ≤ f.toInt ∧ f.toInt ≤ 4) : ((5 : Int32) - f) ≠ 0 := by
  intro q
  have e := own_five f h
  rw [q] at e
  have a : (0 : Int32).toInt = 0 := rfl
  omega
theorem own_to (f x : Int32) (h : 0 ≤ f.toInt ∧ f.toInt ≤ 4) : 0 ≤ (f + ((x &&& (2147483647 : Int32)) % ((5 : Int32) - f))).toInt ∧ (f + ((x &&& (2147483647 : Int32)) % ((5 : Int32) - f))).toInt ≤ 4 := by
  have e := own_five f h
  have h1 := c_and x 2147483647 (by decide)
  have q := (c_iremV (x &&& (2147483647 : Int32)) ((5 : Int32) - f)).1 h1.1 (by omega)
  have w := c_iadd f ((x &&& (2147483647 : Int32)) % ((5 : Int32) - f))
  have r := rng32 (f + ((x &&& (2147483647 : Int32)) % ((5 : Int32) - f)))
  omega
theorem ef_1 (m : MethodId) (x0 : Addr) (x1 : Int32) (x2 : Int32) : entryFrame m #[(.ref x0), (.int x1), (.int x2)] 3 = mkF m 0 #[.val (.ref x0), .val (.int x1), .val (.int x2)] [] := by first | (simp [entryFrame, mkF, argsToLocals, Value.category]; done) | rfl
theorem pn_com_example_lastkey_lastkey_exec_TextFormat : plainName "com/example/lastkey/lastkey/exec/TextFormat" = true := by first | (simp [plainName, overriddenIn]; done) | decide +kernel
theorem d1_0 : decode prog_61_method_2_code 0 = .ok (.iload_n 2, 1) := by decide +kernel
theorem d1_1 : decode prog_61_method_2_code 1 = .ok (.iload_n 1, 1) := by decide +kernel
theorem d1_2 : decode prog_61_method_2_code 2 = .ok (.isub, 1) := by decide +kernel
theorem d1_3 : decode prog_61_method_2_code 3 = .ok (.iconst 2, 1) := by decide +kernel
theorem d1_4 : decode prog_61_method_2_code 4 = .ok (.if_icmp .ne 25, 3) := by decide +kernel
theorem d1_7 : decode prog_61_method_2_code 7 = .ok (.aload_n 0, 1) := by decide +kernel
theorem d1_8 : decode prog_61_method_2_code 8 = .ok (.iload_n 1, 1) := by decide +kernel
theorem d1_9 : decode prog_61_method_2_code 9 = .ok (.baload, 1) := by decide +kernel
theorem d1_10 : decode prog_61_method_2_code 10 = .ok (.bipush 92, 2) := by decide +kernel
theorem d1_12 : decode prog_61_method_2_code 12 = .ok (.if_icmp .ne 17, 3) := by decide +kernel
theorem d1_15 : decode prog_61_method_2_code 15 = .ok (.aload_n 0, 1) := by decide +kernel
theorem d1_16 : decode prog_61_method_2_code 16 = .ok (.iload_n 1, 1) := by decide +kernel
theorem d1_17 : decode prog_61_method_2_code 17 = .ok (.iconst 1, 1) := by decide +kernel
theorem d1_18 : decode prog_61_method_2_code 18 = .ok (.iadd, 1) := by decide +kernel
theorem d1_19 : decode prog_61_method_2_code 19 = .ok (.baload, 1) := by decide +kernel
theorem d1_20 : decode prog_61_method_2_code 20 = .ok (.bipush 78, 2) := by decide +kernel
theorem d1_22 : decode prog_61_method_2_code 22 = .ok (.if_icmp .ne 7, 3) := by decide +kernel
theorem d1_25 : decode prog_61_method_2_code 25 = .ok (.iconst 1, 1) := by decide +kernel
theorem d1_26 : decode prog_61_method_2_code 26 = .ok (.goto 4, 3) := by decide +kernel
theorem d1_30 : decode prog_61_method_2_code 30 = .ok (.ireturn, 1) := by decide +kernel
theorem d1_29 : decode prog_61_method_2_code 29 = .ok (.iconst 0, 1) := by decide +kernel
set_option maxRecDepth 65536 in
set_option maxHeartbeats 40000000 in
theorem rm1 (l : Launch) (Z : State) (a0 : Array Value) (hw : ∀ d ∈ tables_1, d.before a0 Z = true) (ws : List Jvm.Cond) (a1 : Addr) (p2 p3 : Int32) (l_ : List Int32) (kb : ClassId) (h0 : Heap) (n0 : Nat) (V : Arv Z h0 a1 kb .byte (4 : Int32) (l_.map Value.int) (.int 0)) (i0 : 0 ≤ p2.toInt) (i1 : p3.toInt ≤ (4 : Int32).toInt) (i2 : 0 ≤ p3.toInt) :
    MetFree l (⟨"com/example/lastkey/lastkey/exec/TextFormat", "isNull", "([BII)Z"⟩ : MethodName) (head1 (Jvm.Cond.code (⟨"com/example/lastkey/lastkey/exec/TextFormat", "isNull", "([BII)Z"⟩ : MethodName) prog_61_method_2_code 3 (some .boolean) :: ws) ({ frames := 0, cells := 0, slots := 0, locals := 0 } : Room)) (fun a U => a = #[(.ref a1), (.int p2), (.int p3)] ∧ Z.Warmed39 U.vm ∧ U.heap = h0) (fun _ _ _ _ _ => True) (fun _ U o U' => ∃ v L, o = .returned v ∧ own_Pure (.int (own_n3 l_ p2 p3)) h0 n0 v U'.heap L ∧ FrameEnd U o U' L ({ frames := 0, cells := 0, slots := 0, locals := 0 } : Room).cells ({ frames := 0, cells := 0, slots := 0, locals := 0 } : Room).slots) := by
  refine MetFree.of_bodySF (plainFor_of_name pn_com_example_lastkey_lastkey_exec_TextFormat) hisR ?_
  intro p e s m args below meth c s₁ Bd hml0 hP hK
  obtain ⟨rfl, hZ, hh⟩ := hP
  have hx := Bd.exec
  have hby := Bd.bytes
  have hml : c.maxLocals = 3 := hml0
  have hown : s.vm.findClass "com/example/lastkey/lastkey/exec/TextFormat" = some m.cls := findClass_of_methodNamed Bd.named
  have hnm := (name_of_methodNamed Bd.named Bd.method).1
  have X0 : Stand p l e ({ frames := 0, cells := 0, slots := 0, locals := 0 } : Room) s m #[(.ref a1), (.int p2), (.int p3)] below meth c s₁ [] 0 0 := Stand.of_body Bd
  have e0 : s₁.heap = h0 := by rw [← hh, Bd.state]; rfl
  have N0 := Fr.nil n0
  show own_Rch p.tables e below (s₁.setTop (entryFrame m #[(.ref a1), (.int p2), (.int p3)] 3)) (own_End s (own_Pure (.int (own_n3 l_ p2 p3)) h0 n0) ({ frames := 0, cells := 0, slots := 0, locals := 0 } : Room).cells ({ frames := 0, cells := 0, slots := 0, locals := 0 } : Room).slots)
  refine own_via (fun t k => castTop (ef_1 m a1 p2 p3) k) ?_
  show own_Rch p.tables e below (s₁.setTop (mkF m 0 #[.val (.ref a1), .val (.int p2), .val (.int p3)] [])) _
  refine own_via (fun t k => XS.iloadN X0.here hx rfl (hb hby d1_0) rfl k) ?_
  show own_Rch p.tables e below (s₁.setTop (mkF m 1 #[.val (.ref a1), .val (.int p2), .val (.int p3)] [(.int p3)])) _
  refine own_via (fun t k => XS.iloadN X0.here hx rfl (hb hby d1_1) rfl k) ?_
  show own_Rch p.tables e below (s₁.setTop (mkF m 2 #[.val (.ref a1), .val (.int p2), .val (.int p3)] [(.int p2), (.int p3)])) _
  refine own_via (fun t k => XS.isub X0.here hx rfl (hb hby d1_2) rfl k) ?_
  show own_Rch p.tables e below (s₁.setTop (mkF m 3 #[.val (.ref a1), .val (.int p2), .val (.int p3)] [(.int (p3 - p2))])) _
  refine own_via (fun t k => XS.iconst X0.here hx rfl (hb hby d1_3) k) ?_
  show own_Rch p.tables e below (s₁.setTop (mkF m 4 #[.val (.ref a1), .val (.int p2), .val (.int p3)] [(.int (2 : Int32)), (.int (p3 - p2))])) _
  by_cases c4 : (p3 - p2) = (2 : Int32)
  · refine own_via (fun t k => XS.icmpNo X0.here hx rfl (hb hby d1_4) rfl (teq c4).2 k) ?_
    show own_Rch p.tables e below (s₁.setTop (mkF m 7 #[.val (.ref a1), .val (.int p2), .val (.int p3)] [])) _
    refine own_via (fun t k => XS.aloadN X0.here hx rfl (hb hby d1_7) rfl rfl k) ?_
    show own_Rch p.tables e below (s₁.setTop (mkF m 8 #[.val (.ref a1), .val (.int p2), .val (.int p3)] [(.ref a1)])) _
    refine own_via (fun t k => XS.iloadN X0.here hx rfl (hb hby d1_8) rfl k) ?_
    show own_Rch p.tables e below (s₁.setTop (mkF m 9 #[.val (.ref a1), .val (.int p2), .val (.int p3)] [(.int p2), (.ref a1)])) _
    obtain ⟨cl1, Ar1, -, S1, M1, H1, -⟩ := id V
    have hin1 : ¬ (p2 < 0 ∨ cl1.slots.size ≤ (p2).toNatClampNeg) := inb_of S1 (own_inz p2 p3 (2 : Int32) (4 : Int32) i0 i1 i2 c4 (by decide))
    have hat1 : cl1.slots[(p2).toNatClampNeg]? = some (.int (own_at l_ p2)) := Has.at H1 hin1 (own_getI l_ _)
    refine own_via (X0.baloadBytes hx (j := p2) (v := (.int (own_at l_ p2))) (by rw [e0]; exact Ar1.1) (State.isArrayOf_alike hZ.alike Ar1.2.1) Ar1.2.2 hin1 hat1 (g := (mkF m 9 #[.val (.ref a1), .val (.int p2), .val (.int p3)] [(.int p2), (.ref a1)])) rfl rfl (hb hby d1_9)) ?_
    show own_Rch p.tables e below (s₁.setTop (mkF m 10 #[.val (.ref a1), .val (.int p2), .val (.int p3)] [(.int (own_at l_ p2))])) _
    refine own_via (fun t k => XS.bipush X0.here hx rfl (hb hby d1_10) k) ?_
    show own_Rch p.tables e below (s₁.setTop (mkF m 12 #[.val (.ref a1), .val (.int p2), .val (.int p3)] [(.int (92 : Int32)), (.int (own_at l_ p2))])) _
    by_cases c12 : (own_at l_ p2) = (92 : Int32)
    · refine own_via (fun t k => XS.icmpNo X0.here hx rfl (hb hby d1_12) rfl (teq c12).2 k) ?_
      show own_Rch p.tables e below (s₁.setTop (mkF m 15 #[.val (.ref a1), .val (.int p2), .val (.int p3)] [])) _
      refine own_via (fun t k => XS.aloadN X0.here hx rfl (hb hby d1_15) rfl rfl k) ?_
      show own_Rch p.tables e below (s₁.setTop (mkF m 16 #[.val (.ref a1), .val (.int p2), .val (.int p3)] [(.ref a1)])) _
      refine own_via (fun t k => XS.iloadN X0.here hx rfl (hb hby d1_16) rfl k) ?_
      show own_Rch p.tables e below (s₁.setTop (mkF m 17 #[.val (.ref a1), .val (.int p2), .val (.int p3)] [(.int p2), (.ref a1)])) _
      refine own_via (fun t k => XS.iconst X0.here hx rfl (hb hby d1_17) k) ?_
      show own_Rch p.tables e below (s₁.setTop (mkF m 18 #[.val (.ref a1), .val (.int p2), .val (.int p3)] [(.int (1 : Int32)), (.int p2), (.ref a1)])) _
      refine own_via (fun t k => XS.iadd X0.here hx rfl (hb hby d1_18) rfl k) ?_
      show own_Rch p.tables e below (s₁.setTop (mkF m 19 #[.val (.ref a1), .val (.int p2), .val (.int p3)] [(.int (p2 + (1 : Int32))), (.ref a1)])) _
      obtain ⟨cl2, Ar2, -, S2, M2, H2, -⟩ := id V
      have hin2 : ¬ ((p2 + (1 : Int32)) < 0 ∨ cl2.slots.size ≤ ((p2 + (1 : Int32))).toNatClampNeg) := inb_of S2 (own_in p2 p3 (2 : Int32) (1 : Int32) (4 : Int32) i0 i1 i2 c4 (by decide) (by decide))
      have hat2 : cl2.slots[((p2 + (1 : Int32))).toNatClampNeg]? = some (.int (own_at l_ (p2 + (1 : Int32)))) := Has.at H2 hin2 (own_getI l_ _)
      refine own_via (X0.baloadBytes hx (j := (p2 + (1 : Int32))) (v := (.int (own_at l_ (p2 + (1 : Int32))))) (by rw [e0]; exact Ar2.1) (State.isArrayOf_alike hZ.alike Ar2.2.1) Ar2.2.2 hin2 hat2 (g := (mkF m 19 #[.val (.ref a1), .val (.int p2), .val (.int p3)] [(.int (p2 + (1 : Int32))), (.ref a1)])) rfl rfl (hb hby d1_19)) ?_
      show own_Rch p.tables e below (s₁.setTop (mkF m 20 #[.val (.ref a1), .val (.int p2), .val (.int p3)] [(.int (own_at l_ (p2 + (1 : Int32))))])) _
      refine own_via (fun t k => XS.bipush X0.here hx rfl (hb hby d1_20) k) ?_
      show own_Rch p.tables e below (s₁.setTop (mkF m 22 #[.val (.ref a1), .val (.int p2), .val (.int p3)] [(.int (78 : Int32)), (.int (own_at l_ (p2 + (1 : Int32))))])) _
      by_cases c22 : (own_at l_ (p2 + (1 : Int32))) = (78 : Int32)
      · refine own_via (fun t k => XS.icmpNo X0.here hx rfl (hb hby d1_22) rfl (teq c22).2 k) ?_
        show own_Rch p.tables e below (s₁.setTop (mkF m 25 #[.val (.ref a1), .val (.int p2), .val (.int p3)] [])) _
        refine own_via (fun t k => XS.iconst X0.here hx rfl (hb hby d1_25) k) ?_
        show own_Rch p.tables e below (s₁.setTop (mkF m 26 #[.val (.ref a1), .val (.int p2), .val (.int p3)] [(.int (1 : Int32))])) _
        refine own_via (fun t k => XS.goto X0.here hx rfl (pc0 := 26) (pc' := 30) rfl (hb hby d1_26) (by decide) (by decide) k) ?_
        show own_Rch p.tables e below (s₁.setTop (mkF m 30 #[.val (.ref a1), .val (.int p2), .val (.int p3)] [(.int (1 : Int32))])) _
        exact own_fin X0 hx (t := .boolean) (i := .ireturn) Bd.returns Bd.notSynchronized rfl (Or.inl ⟨rfl, by simp, _, rfl⟩) (hb hby d1_30) (by decide) (by decide) ⟨by simp only [own_n3, if_pos c4, if_pos c12, if_pos c22], N0, e0⟩
      · refine own_via (fun t k => XS.icmpYes X0.here hx rfl (pc0 := 22) (pc' := 29) rfl (hb hby d1_22) rfl (feq c22).2 (by decide) (by decide) k) ?_
        show own_Rch p.tables e below (s₁.setTop (mkF m 29 #[.val (.ref a1), .val (.int p2), .val (.int p3)] [])) _
        refine own_via (fun t k => XS.iconst X0.here hx rfl (hb hby d1_29) k) ?_
        show own_Rch p.tables e below (s₁.setTop (mkF m 30 #[.val (.ref a1), .val (.int p2), .val (.int p3)] [(.int (0 : Int32))])) _
        exact own_fin X0 hx (t := .boolean) (i := .ireturn) Bd.returns Bd.notSynchronized rfl (Or.inl ⟨rfl, by simp, _, rfl⟩) (hb hby d1_30) (by decide) (by decide) ⟨by simp only [own_n3, if_pos c4, if_pos c12, if_neg c22], N0, e0⟩
    · refine own_via (fun t k => XS.icmpYes X0.here hx rfl (pc0 := 12) (pc' := 29) rfl (hb hby d1_12) rfl (feq c12).2 (by decide) (by decide) k) ?_
      show own_Rch p.tables e below (s₁.setTop (mkF m 29 #[.val (.ref a1), .val (.int p2), .val (.int p3)] [])) _
      refine own_via (fun t k => XS.iconst X0.here hx rfl (hb hby d1_29) k) ?_
      show own_Rch p.tables e below (s₁.setTop (mkF m 30 #[.val (.ref a1), .val (.int p2), .val (.int p3)] [(.int (0 : Int32))])) _
      exact own_fin X0 hx (t := .boolean) (i := .ireturn) Bd.returns Bd.notSynchronized rfl (Or.inl ⟨rfl, by simp, _, rfl⟩) (hb hby d1_30) (by decide) (by decide) ⟨by simp only [own_n3, if_pos c4, if_neg c12], N0, e0⟩
  · refine own_via (fun t k => XS.icmpYes X0.here hx rfl (pc0 := 4) (pc' := 29) rfl (hb hby d1_4) rfl (feq c4).2 (by decide) (by decide) k) ?_
    show own_Rch p.tables e below (s₁.setTop (mkF m 29 #[.val (.ref a1), .val (.int p2), .val (.int p3)] [])) _
    refine own_via (fun t k => XS.iconst X0.here hx rfl (hb hby d1_29) k) ?_
    show own_Rch p.tables e below (s₁.setTop (mkF m 30 #[.val (.ref a1), .val (.int p2), .val (.int p3)] [(.int (0 : Int32))])) _
    exact own_fin X0 hx (t := .boolean) (i := .ireturn) Bd.returns Bd.notSynchronized rfl (Or.inl ⟨rfl, by simp, _, rfl⟩) (hb hby d1_30) (by decide) (by decide) ⟨by simp only [own_n3, if_neg c4], N0, e0⟩
def own_n4_2 (l ts : List Int32) (p2 p3 : Int32) : Int32 := if (p3 - p2) = (2 : Int32) then (if own_at l (p2 + (0 : Int32)) = own_at ts (0 : Int32) then if own_at l (p2 + (1 : Int32)) = own_at ts (1 : Int32) then 1 else 0 else 0) else 0
theorem ef_2 (m : MethodId) (x0 : Addr) (x1 : Int32) (x2 : Int32) (x3 : Addr) : entryFrame m #[(.ref x0), (.int x1), (.int x2), (.ref x3)] 5 = mkF m 0 #[.val (.ref x0), .val (.int x1), .val (.int x2), .val (.ref x3), .unset] [] := by first | (simp [entryFrame, mkF, argsToLocals, Value.category]; done) | rfl
theorem d2_0 : decode prog_61_method_3_code 0 = .ok (.iload_n 2, 1) := by decide +kernel
theorem d2_1 : decode prog_61_method_3_code 1 = .ok (.iload_n 1, 1) := by decide +kernel
theorem d2_2 : decode prog_61_method_3_code 2 = .ok (.isub, 1) := by decide +kernel
theorem d2_3 : decode prog_61_method_3_code 3 = .ok (.aload_n 3, 1) := by decide +kernel
theorem d2_4 : decode prog_61_method_3_code 4 = .ok (.arraylength, 1) := by decide +kernel
theorem d2_5 : decode prog_61_method_3_code 5 = .ok (.if_icmp .eq 5, 3) := by decide +kernel
theorem d2_10 : decode prog_61_method_3_code 10 = .ok (.iconst 0, 1) := by decide +kernel
theorem d2_11 : decode prog_61_method_3_code 11 = .ok (.istore 4, 2) := by decide +kernel
theorem d2_13 : decode prog_61_method_3_code 13 = .ok (.iload 4, 2) := by decide +kernel
theorem d2_15 : decode prog_61_method_3_code 15 = .ok (.aload_n 3, 1) := by decide +kernel
theorem d2_16 : decode prog_61_method_3_code 16 = .ok (.arraylength, 1) := by decide +kernel
theorem d2_17 : decode prog_61_method_3_code 17 = .ok (.if_icmp .ge 24, 3) := by decide +kernel
theorem d2_20 : decode prog_61_method_3_code 20 = .ok (.aload_n 0, 1) := by decide +kernel
theorem d2_21 : decode prog_61_method_3_code 21 = .ok (.iload_n 1, 1) := by decide +kernel
theorem d2_22 : decode prog_61_method_3_code 22 = .ok (.iload 4, 2) := by decide +kernel
theorem d2_24 : decode prog_61_method_3_code 24 = .ok (.iadd, 1) := by decide +kernel
theorem d2_25 : decode prog_61_method_3_code 25 = .ok (.baload, 1) := by decide +kernel
theorem d2_26 : decode prog_61_method_3_code 26 = .ok (.aload_n 3, 1) := by decide +kernel
theorem d2_27 : decode prog_61_method_3_code 27 = .ok (.iload 4, 2) := by decide +kernel
theorem d2_29 : decode prog_61_method_3_code 29 = .ok (.baload, 1) := by decide +kernel
theorem d2_30 : decode prog_61_method_3_code 30 = .ok (.if_icmp .eq 5, 3) := by decide +kernel
theorem d2_35 : decode prog_61_method_3_code 35 = .ok (.iinc 4 1, 3) := by decide +kernel
theorem d2_38 : decode prog_61_method_3_code 38 = .ok (.goto (-25), 3) := by decide +kernel
theorem d2_41 : decode prog_61_method_3_code 41 = .ok (.iconst 1, 1) := by decide +kernel
theorem d2_42 : decode prog_61_method_3_code 42 = .ok (.ireturn, 1) := by decide +kernel
theorem d2_33 : decode prog_61_method_3_code 33 = .ok (.iconst 0, 1) := by decide +kernel
theorem d2_34 : decode prog_61_method_3_code 34 = .ok (.ireturn, 1) := by decide +kernel
theorem d2_8 : decode prog_61_method_3_code 8 = .ok (.iconst 0, 1) := by decide +kernel
theorem d2_9 : decode prog_61_method_3_code 9 = .ok (.ireturn, 1) := by decide +kernel
set_option maxRecDepth 65536 in
set_option maxHeartbeats 40000000 in
theorem rm2 (l : Launch) (Z : State) (a0 : Array Value) (hw : ∀ d ∈ tables_1, d.before a0 Z = true) (ws : List Jvm.Cond) (a1 : Addr) (p2 p3 : Int32) (a4 : Addr) (l_ ts : List Int32) (kb kt : ClassId) (h0 : Heap) (n0 : Nat) (V : Arv Z h0 a1 kb .byte (4 : Int32) (l_.map Value.int) (.int 0)) (Vt : Arv Z h0 a4 kt .byte (2 : Int32) (ts.map Value.int) (.int 0)) (i0 : 0 ≤ p2.toInt) (i1 : p3.toInt ≤ (4 : Int32).toInt) (i2 : 0 ≤ p3.toInt) :
    MetFree l (⟨"com/example/lastkey/lastkey/exec/TextFormat", "isNull", "([BII[B)Z"⟩ : MethodName) (head1 (Jvm.Cond.code (⟨"com/example/lastkey/lastkey/exec/TextFormat", "isNull", "([BII[B)Z"⟩ : MethodName) prog_61_method_3_code 5 (some .boolean) :: ws) ({ frames := 0, cells := 0, slots := 0, locals := 0 } : Room)) (fun a U => a = #[(.ref a1), (.int p2), (.int p3), (.ref a4)] ∧ Z.Warmed39 U.vm ∧ U.heap = h0) (fun _ _ _ _ _ => True) (fun _ U o U' => ∃ v L, o = .returned v ∧ own_Pure (.int (own_n4_2 l_ ts p2 p3)) h0 n0 v U'.heap L ∧ FrameEnd U o U' L ({ frames := 0, cells := 0, slots := 0, locals := 0 } : Room).cells ({ frames := 0, cells := 0, slots := 0, locals := 0 } : Room).slots) := by
  refine MetFree.of_bodySF (plainFor_of_name pn_com_example_lastkey_lastkey_exec_TextFormat) hisR ?_
  intro p e s m args below meth c s₁ Bd hml0 hP hK
  obtain ⟨rfl, hZ, hh⟩ := hP
  have hx := Bd.exec
  have hby := Bd.bytes
  have hml : c.maxLocals = 5 := hml0
  have hown : s.vm.findClass "com/example/lastkey/lastkey/exec/TextFormat" = some m.cls := findClass_of_methodNamed Bd.named
  have hnm := (name_of_methodNamed Bd.named Bd.method).1
  have X0 : Stand p l e ({ frames := 0, cells := 0, slots := 0, locals := 0 } : Room) s m #[(.ref a1), (.int p2), (.int p3), (.ref a4)] below meth c s₁ [] 0 0 := Stand.of_body Bd
  have e0 : s₁.heap = h0 := by rw [← hh, Bd.state]; rfl
  have N0 := Fr.nil n0
  show own_Rch p.tables e below (s₁.setTop (entryFrame m #[(.ref a1), (.int p2), (.int p3), (.ref a4)] 5)) (own_End s (own_Pure (.int (own_n4_2 l_ ts p2 p3)) h0 n0) ({ frames := 0, cells := 0, slots := 0, locals := 0 } : Room).cells ({ frames := 0, cells := 0, slots := 0, locals := 0 } : Room).slots)
  refine own_via (fun t k => castTop (ef_2 m a1 p2 p3 a4) k) ?_
  show own_Rch p.tables e below (s₁.setTop (mkF m 0 #[.val (.ref a1), .val (.int p2), .val (.int p3), .val (.ref a4), .unset] [])) _
  refine own_via (fun t k => XS.iloadN X0.here hx rfl (hb hby d2_0) rfl k) ?_
  show own_Rch p.tables e below (s₁.setTop (mkF m 1 #[.val (.ref a1), .val (.int p2), .val (.int p3), .val (.ref a4), .unset] [(.int p3)])) _
  refine own_via (fun t k => XS.iloadN X0.here hx rfl (hb hby d2_1) rfl k) ?_
  show own_Rch p.tables e below (s₁.setTop (mkF m 2 #[.val (.ref a1), .val (.int p2), .val (.int p3), .val (.ref a4), .unset] [(.int p2), (.int p3)])) _
  refine own_via (fun t k => XS.isub X0.here hx rfl (hb hby d2_2) rfl k) ?_
  show own_Rch p.tables e below (s₁.setTop (mkF m 3 #[.val (.ref a1), .val (.int p2), .val (.int p3), .val (.ref a4), .unset] [(.int (p3 - p2))])) _
  refine own_via (fun t k => XS.aloadN X0.here hx rfl (hb hby d2_3) rfl rfl k) ?_
  show own_Rch p.tables e below (s₁.setTop (mkF m 4 #[.val (.ref a1), .val (.int p2), .val (.int p3), .val (.ref a4), .unset] [(.ref a4), (.int (p3 - p2))])) _
  obtain ⟨cl1, Ar1, -, S1, M1, -, -⟩ := id Vt
  refine own_via (X0.arraylength hx (by rw [e0]; exact Ar1.1) (State.isArrayOf_alike hZ.alike Ar1.2.1) (g := (mkF m 4 #[.val (.ref a1), .val (.int p2), .val (.int p3), .val (.ref a4), .unset] [(.ref a4), (.int (p3 - p2))])) rfl rfl (hb hby d2_4)) ?_
  rw [len_of S1 M1]
  show own_Rch p.tables e below (s₁.setTop (mkF m 5 #[.val (.ref a1), .val (.int p2), .val (.int p3), .val (.ref a4), .unset] [(.int (2 : Int32)), (.int (p3 - p2))])) _
  by_cases c5 : (p3 - p2) = (2 : Int32)
  · refine own_via (fun t k => XS.icmpYes X0.here hx rfl (pc0 := 5) (pc' := 10) rfl (hb hby d2_5) rfl (teq c5).1 (by decide) (by decide) k) ?_
    show own_Rch p.tables e below (s₁.setTop (mkF m 10 #[.val (.ref a1), .val (.int p2), .val (.int p3), .val (.ref a4), .unset] [])) _
    refine own_via (fun t k => XS.iconst X0.here hx rfl (hb hby d2_10) k) ?_
    show own_Rch p.tables e below (s₁.setTop (mkF m 11 #[.val (.ref a1), .val (.int p2), .val (.int p3), .val (.ref a4), .unset] [(.int (0 : Int32))])) _
    refine own_via (fun t k => XS.istore X0.here hx rfl (hb hby d2_11) rfl (l' := #[.val (.ref a1), .val (.int p2), .val (.int p3), .val (.ref a4), .val (.int (0 : Int32))]) rfl k) ?_
    show own_Rch p.tables e below (s₁.setTop (mkF m 13 #[.val (.ref a1), .val (.int p2), .val (.int p3), .val (.ref a4), .val (.int (0 : Int32))] [])) _
    refine own_via (fun t k => XS.iload X0.here hx rfl (hb hby d2_13) rfl k) ?_
    show own_Rch p.tables e below (s₁.setTop (mkF m 15 #[.val (.ref a1), .val (.int p2), .val (.int p3), .val (.ref a4), .val (.int (0 : Int32))] [(.int (0 : Int32))])) _
    refine own_via (fun t k => XS.aloadN X0.here hx rfl (hb hby d2_15) rfl rfl k) ?_
    show own_Rch p.tables e below (s₁.setTop (mkF m 16 #[.val (.ref a1), .val (.int p2), .val (.int p3), .val (.ref a4), .val (.int (0 : Int32))] [(.ref a4), (.int (0 : Int32))])) _
    obtain ⟨cl2, Ar2, -, S2, M2, -, -⟩ := id Vt
    refine own_via (X0.arraylength hx (by rw [e0]; exact Ar2.1) (State.isArrayOf_alike hZ.alike Ar2.2.1) (g := (mkF m 16 #[.val (.ref a1), .val (.int p2), .val (.int p3), .val (.ref a4), .val (.int (0 : Int32))] [(.ref a4), (.int (0 : Int32))])) rfl rfl (hb hby d2_16)) ?_
    rw [len_of S2 M2]
    show own_Rch p.tables e below (s₁.setTop (mkF m 17 #[.val (.ref a1), .val (.int p2), .val (.int p3), .val (.ref a4), .val (.int (0 : Int32))] [(.int (2 : Int32)), (.int (0 : Int32))])) _
    refine own_via (fun t k => XS.icmpNo X0.here hx rfl (hb hby d2_17) rfl (tlt (by decide : (0 : Int32) < (2 : Int32))).2.1 k) ?_
    show own_Rch p.tables e below (s₁.setTop (mkF m 20 #[.val (.ref a1), .val (.int p2), .val (.int p3), .val (.ref a4), .val (.int (0 : Int32))] [])) _
    refine own_via (fun t k => XS.aloadN X0.here hx rfl (hb hby d2_20) rfl rfl k) ?_
    show own_Rch p.tables e below (s₁.setTop (mkF m 21 #[.val (.ref a1), .val (.int p2), .val (.int p3), .val (.ref a4), .val (.int (0 : Int32))] [(.ref a1)])) _
    refine own_via (fun t k => XS.iloadN X0.here hx rfl (hb hby d2_21) rfl k) ?_
    show own_Rch p.tables e below (s₁.setTop (mkF m 22 #[.val (.ref a1), .val (.int p2), .val (.int p3), .val (.ref a4), .val (.int (0 : Int32))] [(.int p2), (.ref a1)])) _
    refine own_via (fun t k => XS.iload X0.here hx rfl (hb hby d2_22) rfl k) ?_
    show own_Rch p.tables e below (s₁.setTop (mkF m 24 #[.val (.ref a1), .val (.int p2), .val (.int p3), .val (.ref a4), .val (.int (0 : Int32))] [(.int (0 : Int32)), (.int p2), (.ref a1)])) _
    refine own_via (fun t k => XS.iadd X0.here hx rfl (hb hby d2_24) rfl k) ?_
    show own_Rch p.tables e below (s₁.setTop (mkF m 25 #[.val (.ref a1), .val (.int p2), .val (.int p3), .val (.ref a4), .val (.int (0 : Int32))] [(.int (p2 + (0 : Int32))), (.ref a1)])) _
    obtain ⟨cl3, Ar3, -, S3, M3, H3, -⟩ := id V
    have hin3 : ¬ ((p2 + (0 : Int32)) < 0 ∨ cl3.slots.size ≤ ((p2 + (0 : Int32))).toNatClampNeg) := inb_of S3 (own_in p2 p3 (2 : Int32) (0 : Int32) (4 : Int32) i0 i1 i2 c5 (by decide) (by decide))
    have hat3 : cl3.slots[((p2 + (0 : Int32))).toNatClampNeg]? = some (.int (own_at l_ (p2 + (0 : Int32)))) := Has.at H3 hin3 (own_getI l_ _)
    refine own_via (X0.baloadBytes hx (j := (p2 + (0 : Int32))) (v := (.int (own_at l_ (p2 + (0 : Int32))))) (by rw [e0]; exact Ar3.1) (State.isArrayOf_alike hZ.alike Ar3.2.1) Ar3.2.2 hin3 hat3 (g := (mkF m 25 #[.val (.ref a1), .val (.int p2), .val (.int p3), .val (.ref a4), .val (.int (0 : Int32))] [(.int (p2 + (0 : Int32))), (.ref a1)])) rfl rfl (hb hby d2_25)) ?_
    show own_Rch p.tables e below (s₁.setTop (mkF m 26 #[.val (.ref a1), .val (.int p2), .val (.int p3), .val (.ref a4), .val (.int (0 : Int32))] [(.int (own_at l_ (p2 + (0 : Int32))))])) _
    refine own_via (fun t k => XS.aloadN X0.here hx rfl (hb hby d2_26) rfl rfl k) ?_
    show own_Rch p.tables e below (s₁.setTop (mkF m 27 #[.val (.ref a1), .val (.int p2), .val (.int p3), .val (.ref a4), .val (.int (0 : Int32))] [(.ref a4), (.int (own_at l_ (p2 + (0 : Int32))))])) _
    refine own_via (fun t k => XS.iload X0.here hx rfl (hb hby d2_27) rfl k) ?_
    show own_Rch p.tables e below (s₁.setTop (mkF m 29 #[.val (.ref a1), .val (.int p2), .val (.int p3), .val (.ref a4), .val (.int (0 : Int32))] [(.int (0 : Int32)), (.ref a4), (.int (own_at l_ (p2 + (0 : Int32))))])) _
    obtain ⟨cl4, Ar4, -, S4, M4, H4, -⟩ := id Vt
    have hin4 : ¬ ((0 : Int32) < 0 ∨ cl4.slots.size ≤ ((0 : Int32)).toNatClampNeg) := inb_of S4 (⟨by decide, by decide⟩)
    have hat4 : cl4.slots[((0 : Int32)).toNatClampNeg]? = some (.int (own_at ts (0 : Int32))) := Has.at H4 hin4 (own_getI ts _)
    refine own_via (X0.baloadBytes hx (j := (0 : Int32)) (v := (.int (own_at ts (0 : Int32)))) (by rw [e0]; exact Ar4.1) (State.isArrayOf_alike hZ.alike Ar4.2.1) Ar4.2.2 hin4 hat4 (g := (mkF m 29 #[.val (.ref a1), .val (.int p2), .val (.int p3), .val (.ref a4), .val (.int (0 : Int32))] [(.int (0 : Int32)), (.ref a4), (.int (own_at l_ (p2 + (0 : Int32))))])) rfl rfl (hb hby d2_29)) ?_
    show own_Rch p.tables e below (s₁.setTop (mkF m 30 #[.val (.ref a1), .val (.int p2), .val (.int p3), .val (.ref a4), .val (.int (0 : Int32))] [(.int (own_at ts (0 : Int32))), (.int (own_at l_ (p2 + (0 : Int32))))])) _
    by_cases c30 : (own_at l_ (p2 + (0 : Int32))) = (own_at ts (0 : Int32))
    · refine own_via (fun t k => XS.icmpYes X0.here hx rfl (pc0 := 30) (pc' := 35) rfl (hb hby d2_30) rfl (teq c30).1 (by decide) (by decide) k) ?_
      show own_Rch p.tables e below (s₁.setTop (mkF m 35 #[.val (.ref a1), .val (.int p2), .val (.int p3), .val (.ref a4), .val (.int (0 : Int32))] [])) _
      refine own_via (fun t k => XS.iinc X0.here hx rfl (hb hby d2_35) rfl (l' := #[.val (.ref a1), .val (.int p2), .val (.int p3), .val (.ref a4), .val (.int (1 : Int32))]) rfl k) ?_
      show own_Rch p.tables e below (s₁.setTop (mkF m 38 #[.val (.ref a1), .val (.int p2), .val (.int p3), .val (.ref a4), .val (.int (1 : Int32))] [])) _
      refine own_via (fun t k => XS.goto X0.here hx rfl (pc0 := 38) (pc' := 13) rfl (hb hby d2_38) (by decide) (by decide) k) ?_
      show own_Rch p.tables e below (s₁.setTop (mkF m 13 #[.val (.ref a1), .val (.int p2), .val (.int p3), .val (.ref a4), .val (.int (1 : Int32))] [])) _
      refine own_via (fun t k => XS.iload X0.here hx rfl (hb hby d2_13) rfl k) ?_
      show own_Rch p.tables e below (s₁.setTop (mkF m 15 #[.val (.ref a1), .val (.int p2), .val (.int p3), .val (.ref a4), .val (.int (1 : Int32))] [(.int (1 : Int32))])) _
      refine own_via (fun t k => XS.aloadN X0.here hx rfl (hb hby d2_15) rfl rfl k) ?_
      show own_Rch p.tables e below (s₁.setTop (mkF m 16 #[.val (.ref a1), .val (.int p2), .val (.int p3), .val (.ref a4), .val (.int (1 : Int32))] [(.ref a4), (.int (1 : Int32))])) _
      obtain ⟨cl5, Ar5, -, S5, M5, -, -⟩ := id Vt
      refine own_via (X0.arraylength hx (by rw [e0]; exact Ar5.1) (State.isArrayOf_alike hZ.alike Ar5.2.1) (g := (mkF m 16 #[.val (.ref a1), .val (.int p2), .val (.int p3), .val (.ref a4), .val (.int (1 : Int32))] [(.ref a4), (.int (1 : Int32))])) rfl rfl (hb hby d2_16)) ?_
      rw [len_of S5 M5]
      show own_Rch p.tables e below (s₁.setTop (mkF m 17 #[.val (.ref a1), .val (.int p2), .val (.int p3), .val (.ref a4), .val (.int (1 : Int32))] [(.int (2 : Int32)), (.int (1 : Int32))])) _
      refine own_via (fun t k => XS.icmpNo X0.here hx rfl (hb hby d2_17) rfl (tlt (by decide : (1 : Int32) < (2 : Int32))).2.1 k) ?_
      show own_Rch p.tables e below (s₁.setTop (mkF m 20 #[.val (.ref a1), .val (.int p2), .val (.int p3), .val (.ref a4), .val (.int (1 : Int32))] [])) _
      refine own_via (fun t k => XS.aloadN X0.here hx rfl (hb hby d2_20) rfl rfl k) ?_
      show own_Rch p.tables e below (s₁.setTop (mkF m 21 #[.val (.ref a1), .val (.int p2), .val (.int p3), .val (.ref a4), .val (.int (1 : Int32))] [(.ref a1)])) _
      refine own_via (fun t k => XS.iloadN X0.here hx rfl (hb hby d2_21) rfl k) ?_
      show own_Rch p.tables e below (s₁.setTop (mkF m 22 #[.val (.ref a1), .val (.int p2), .val (.int p3), .val (.ref a4), .val (.int (1 : Int32))] [(.int p2), (.ref a1)])) _
      refine own_via (fun t k => XS.iload X0.here hx rfl (hb hby d2_22) rfl k) ?_
      show own_Rch p.tables e below (s₁.setTop (mkF m 24 #[.val (.ref a1), .val (.int p2), .val (.int p3), .val (.ref a4), .val (.int (1 : Int32))] [(.int (1 : Int32)), (.int p2), (.ref a1)])) _
      refine own_via (fun t k => XS.iadd X0.here hx rfl (hb hby d2_24) rfl k) ?_
      show own_Rch p.tables e below (s₁.setTop (mkF m 25 #[.val (.ref a1), .val (.int p2), .val (.int p3), .val (.ref a4), .val (.int (1 : Int32))] [(.int (p2 + (1 : Int32))), (.ref a1)])) _
      obtain ⟨cl6, Ar6, -, S6, M6, H6, -⟩ := id V
      have hin6 : ¬ ((p2 + (1 : Int32)) < 0 ∨ cl6.slots.size ≤ ((p2 + (1 : Int32))).toNatClampNeg) := inb_of S6 (own_in p2 p3 (2 : Int32) (1 : Int32) (4 : Int32) i0 i1 i2 c5 (by decide) (by decide))
      have hat6 : cl6.slots[((p2 + (1 : Int32))).toNatClampNeg]? = some (.int (own_at l_ (p2 + (1 : Int32)))) := Has.at H6 hin6 (own_getI l_ _)
      refine own_via (X0.baloadBytes hx (j := (p2 + (1 : Int32))) (v := (.int (own_at l_ (p2 + (1 : Int32))))) (by rw [e0]; exact Ar6.1) (State.isArrayOf_alike hZ.alike Ar6.2.1) Ar6.2.2 hin6 hat6 (g := (mkF m 25 #[.val (.ref a1), .val (.int p2), .val (.int p3), .val (.ref a4), .val (.int (1 : Int32))] [(.int (p2 + (1 : Int32))), (.ref a1)])) rfl rfl (hb hby d2_25)) ?_
      show own_Rch p.tables e below (s₁.setTop (mkF m 26 #[.val (.ref a1), .val (.int p2), .val (.int p3), .val (.ref a4), .val (.int (1 : Int32))] [(.int (own_at l_ (p2 + (1 : Int32))))])) _
      refine own_via (fun t k => XS.aloadN X0.here hx rfl (hb hby d2_26) rfl rfl k) ?_
      show own_Rch p.tables e below (s₁.setTop (mkF m 27 #[.val (.ref a1), .val (.int p2), .val (.int p3), .val (.ref a4), .val (.int (1 : Int32))] [(.ref a4), (.int (own_at l_ (p2 + (1 : Int32))))])) _
      refine own_via (fun t k => XS.iload X0.here hx rfl (hb hby d2_27) rfl k) ?_
      show own_Rch p.tables e below (s₁.setTop (mkF m 29 #[.val (.ref a1), .val (.int p2), .val (.int p3), .val (.ref a4), .val (.int (1 : Int32))] [(.int (1 : Int32)), (.ref a4), (.int (own_at l_ (p2 + (1 : Int32))))])) _
      obtain ⟨cl7, Ar7, -, S7, M7, H7, -⟩ := id Vt
      have hin7 : ¬ ((1 : Int32) < 0 ∨ cl7.slots.size ≤ ((1 : Int32)).toNatClampNeg) := inb_of S7 (⟨by decide, by decide⟩)
      have hat7 : cl7.slots[((1 : Int32)).toNatClampNeg]? = some (.int (own_at ts (1 : Int32))) := Has.at H7 hin7 (own_getI ts _)
      refine own_via (X0.baloadBytes hx (j := (1 : Int32)) (v := (.int (own_at ts (1 : Int32)))) (by rw [e0]; exact Ar7.1) (State.isArrayOf_alike hZ.alike Ar7.2.1) Ar7.2.2 hin7 hat7 (g := (mkF m 29 #[.val (.ref a1), .val (.int p2), .val (.int p3), .val (.ref a4), .val (.int (1 : Int32))] [(.int (1 : Int32)), (.ref a4), (.int (own_at l_ (p2 + (1 : Int32))))])) rfl rfl (hb hby d2_29)) ?_
      show own_Rch p.tables e below (s₁.setTop (mkF m 30 #[.val (.ref a1), .val (.int p2), .val (.int p3), .val (.ref a4), .val (.int (1 : Int32))] [(.int (own_at ts (1 : Int32))), (.int (own_at l_ (p2 + (1 : Int32))))])) _
      by_cases c30' : (own_at l_ (p2 + (1 : Int32))) = (own_at ts (1 : Int32))
      · refine own_via (fun t k => XS.icmpYes X0.here hx rfl (pc0 := 30) (pc' := 35) rfl (hb hby d2_30) rfl (teq c30').1 (by decide) (by decide) k) ?_
        show own_Rch p.tables e below (s₁.setTop (mkF m 35 #[.val (.ref a1), .val (.int p2), .val (.int p3), .val (.ref a4), .val (.int (1 : Int32))] [])) _
        refine own_via (fun t k => XS.iinc X0.here hx rfl (hb hby d2_35) rfl (l' := #[.val (.ref a1), .val (.int p2), .val (.int p3), .val (.ref a4), .val (.int (2 : Int32))]) rfl k) ?_
        show own_Rch p.tables e below (s₁.setTop (mkF m 38 #[.val (.ref a1), .val (.int p2), .val (.int p3), .val (.ref a4), .val (.int (2 : Int32))] [])) _
        refine own_via (fun t k => XS.goto X0.here hx rfl (pc0 := 38) (pc' := 13) rfl (hb hby d2_38) (by decide) (by decide) k) ?_
        show own_Rch p.tables e below (s₁.setTop (mkF m 13 #[.val (.ref a1), .val (.int p2), .val (.int p3), .val (.ref a4), .val (.int (2 : Int32))] [])) _
        refine own_via (fun t k => XS.iload X0.here hx rfl (hb hby d2_13) rfl k) ?_
        show own_Rch p.tables e below (s₁.setTop (mkF m 15 #[.val (.ref a1), .val (.int p2), .val (.int p3), .val (.ref a4), .val (.int (2 : Int32))] [(.int (2 : Int32))])) _
        refine own_via (fun t k => XS.aloadN X0.here hx rfl (hb hby d2_15) rfl rfl k) ?_
        show own_Rch p.tables e below (s₁.setTop (mkF m 16 #[.val (.ref a1), .val (.int p2), .val (.int p3), .val (.ref a4), .val (.int (2 : Int32))] [(.ref a4), (.int (2 : Int32))])) _
        obtain ⟨cl8, Ar8, -, S8, M8, -, -⟩ := id Vt
        refine own_via (X0.arraylength hx (by rw [e0]; exact Ar8.1) (State.isArrayOf_alike hZ.alike Ar8.2.1) (g := (mkF m 16 #[.val (.ref a1), .val (.int p2), .val (.int p3), .val (.ref a4), .val (.int (2 : Int32))] [(.ref a4), (.int (2 : Int32))])) rfl rfl (hb hby d2_16)) ?_
        rw [len_of S8 M8]
        show own_Rch p.tables e below (s₁.setTop (mkF m 17 #[.val (.ref a1), .val (.int p2), .val (.int p3), .val (.ref a4), .val (.int (2 : Int32))] [(.int (2 : Int32)), (.int (2 : Int32))])) _
        refine own_via (fun t k => XS.icmpYes X0.here hx rfl (pc0 := 17) (pc' := 41) rfl (hb hby d2_17) rfl (flt (by decide : ¬ ((2 : Int32) < (2 : Int32)))).2.1 (by decide) (by decide) k) ?_
        show own_Rch p.tables e below (s₁.setTop (mkF m 41 #[.val (.ref a1), .val (.int p2), .val (.int p3), .val (.ref a4), .val (.int (2 : Int32))] [])) _
        refine own_via (fun t k => XS.iconst X0.here hx rfl (hb hby d2_41) k) ?_
        show own_Rch p.tables e below (s₁.setTop (mkF m 42 #[.val (.ref a1), .val (.int p2), .val (.int p3), .val (.ref a4), .val (.int (2 : Int32))] [(.int (1 : Int32))])) _
        exact own_fin X0 hx (t := .boolean) (i := .ireturn) Bd.returns Bd.notSynchronized rfl (Or.inl ⟨rfl, by simp, _, rfl⟩) (hb hby d2_42) (by decide) (by decide) ⟨by simp only [own_n4_2, if_pos c5, if_pos c30, if_pos c30'], N0, e0⟩
      · refine own_via (fun t k => XS.icmpNo X0.here hx rfl (hb hby d2_30) rfl (feq c30').1 k) ?_
        show own_Rch p.tables e below (s₁.setTop (mkF m 33 #[.val (.ref a1), .val (.int p2), .val (.int p3), .val (.ref a4), .val (.int (1 : Int32))] [])) _
        refine own_via (fun t k => XS.iconst X0.here hx rfl (hb hby d2_33) k) ?_
        show own_Rch p.tables e below (s₁.setTop (mkF m 34 #[.val (.ref a1), .val (.int p2), .val (.int p3), .val (.ref a4), .val (.int (1 : Int32))] [(.int (0 : Int32))])) _
        exact own_fin X0 hx (t := .boolean) (i := .ireturn) Bd.returns Bd.notSynchronized rfl (Or.inl ⟨rfl, by simp, _, rfl⟩) (hb hby d2_34) (by decide) (by decide) ⟨by simp only [own_n4_2, if_pos c5, if_pos c30, if_neg c30'], N0, e0⟩
    · refine own_via (fun t k => XS.icmpNo X0.here hx rfl (hb hby d2_30) rfl (feq c30).1 k) ?_
      show own_Rch p.tables e below (s₁.setTop (mkF m 33 #[.val (.ref a1), .val (.int p2), .val (.int p3), .val (.ref a4), .val (.int (0 : Int32))] [])) _
      refine own_via (fun t k => XS.iconst X0.here hx rfl (hb hby d2_33) k) ?_
      show own_Rch p.tables e below (s₁.setTop (mkF m 34 #[.val (.ref a1), .val (.int p2), .val (.int p3), .val (.ref a4), .val (.int (0 : Int32))] [(.int (0 : Int32))])) _
      exact own_fin X0 hx (t := .boolean) (i := .ireturn) Bd.returns Bd.notSynchronized rfl (Or.inl ⟨rfl, by simp, _, rfl⟩) (hb hby d2_34) (by decide) (by decide) ⟨by simp only [own_n4_2, if_pos c5, if_neg c30], N0, e0⟩
  · refine own_via (fun t k => XS.icmpNo X0.here hx rfl (hb hby d2_5) rfl (feq c5).1 k) ?_
    show own_Rch p.tables e below (s₁.setTop (mkF m 8 #[.val (.ref a1), .val (.int p2), .val (.int p3), .val (.ref a4), .unset] [])) _
    refine own_via (fun t k => XS.iconst X0.here hx rfl (hb hby d2_8) k) ?_
    show own_Rch p.tables e below (s₁.setTop (mkF m 9 #[.val (.ref a1), .val (.int p2), .val (.int p3), .val (.ref a4), .unset] [(.int (0 : Int32))])) _
    exact own_fin X0 hx (t := .boolean) (i := .ireturn) Bd.returns Bd.notSynchronized rfl (Or.inl ⟨rfl, by simp, _, rfl⟩) (hb hby d2_9) (by decide) (by decide) ⟨by simp only [own_n4_2, if_neg c5], N0, e0⟩
theorem own_same (l : List Int32) (f t : Int32) : own_n3 l f t = own_n4_2 l [92, 78] f t := by
  have a0 : own_at [92, 78] (0 : Int32) = 92 := rfl
  have a1 : own_at [92, 78] (1 : Int32) = 78 := rfl
  simp only [own_n3, own_n4_2, Int32.add_zero, a0, a1]
def Q0 (n0 : Nat) (v : Option Value) (h : Heap) (L : List Loc) : Prop := v = some (.int (1 : Int32)) ∧ Fr n0 L
theorem pd_0 : parseMethodDescriptor "([BII)Z" = some ⟨[(.array .byte), .int, .int], some .boolean⟩ := by decide +kernel
theorem pd_1 : parseMethodDescriptor "([BII[B)Z" = some ⟨[(.array .byte), .int, .int, (.array .byte)], some .boolean⟩ := by decide +kernel
set_option maxRecDepth 65536 in
set_option maxHeartbeats 40000000 in
theorem tl {p : Program} {l : Launch} {e : Env} {s : State} {m : MethodId} {args : Array Value} {below : List Frame} {meth : Method} {c : Code} {T0 : State} {locs : List Loc} {Z : State} {a0 : Array Value} {h0 : Heap} {n0 : Nat} (p1 p2 p3 p4 : Int32) (b : Addr) (f5 t6 : Int32) (l_ : List Int32) (kb kN : ClassId) (aN : Addr)
    (X0 : Stand p l e room_1 s m args below meth c T0 locs 1 4) (hx : p.tables.exec = Jvm.exec) (hZ : Z.Warmed39 s.vm) (hw : ∀ d ∈ tables_1, d.before a0 Z = true) (hby : c.code = code) (hml : c.maxLocals = 9) (hown : s.vm.findClass "com/example/lastkey/lastkey/exec/TextFormatIsNull379PinLaw" = some m.cls) (hret : meth.sig.returnType = some .boolean) (hlk : meth.locks = false) (e0 : T0.heap = h0) (N0 : Fr n0 locs) (Z0 : n0 ≤ h0.size) (V : Arv Z h0 b kb .byte (4 : Int32) (l_.map Value.int) (.int 0)) (S_N : Sta Z h0 "com/example/lastkey/lastkey/exec/TextFormat" "NULL" "[B" (.ref aN)) (Vn : Arv Z h0 aN kN .byte (2 : Int32) (([92, 78] : List Int32).map Value.int) (.int 0)) (i0 : 0 ≤ f5.toInt) (i1 : t6.toInt ≤ (4 : Int32).toInt) (i2 : 0 ≤ t6.toInt) :
    own_Rch p.tables e below (T0.setTop (mkF m 100 #[.val (.int p1), .val (.int p2), .val (.int p3), .val (.int p4), .val (.ref b), .val (.int f5), .val (.int t6), .unset, .unset] [])) (own_End s (Q0 n0) room_1.cells room_1.slots) := by
  show own_Rch p.tables e below (T0.setTop (mkF m 100 #[.val (.int p1), .val (.int p2), .val (.int p3), .val (.int p4), .val (.ref b), .val (.int f5), .val (.int t6), .unset, .unset] [])) _
  refine own_via (fun t k => XS.aload X0.here hx rfl (hb hby at_100) rfl rfl k) ?_
  show own_Rch p.tables e below (T0.setTop (mkF m 102 #[.val (.int p1), .val (.int p2), .val (.int p3), .val (.int p4), .val (.ref b), .val (.int f5), .val (.int t6), .unset, .unset] [(.ref b)])) _
  refine own_via (fun t k => XS.iload X0.here hx rfl (hb hby at_102) rfl k) ?_
  show own_Rch p.tables e below (T0.setTop (mkF m 104 #[.val (.int p1), .val (.int p2), .val (.int p3), .val (.int p4), .val (.ref b), .val (.int f5), .val (.int t6), .unset, .unset] [(.int f5), (.ref b)])) _
  refine own_via (fun t k => XS.iload X0.here hx rfl (hb hby at_104) rfl k) ?_
  show own_Rch p.tables e below (T0.setTop (mkF m 106 #[.val (.int p1), .val (.int p2), .val (.int p3), .val (.int p4), .val (.ref b), .val (.int f5), .val (.int t6), .unset, .unset] [(.int t6), (.int f5), (.ref b)])) _
  obtain ⟨_, _, ⟨T1, L1, k1, n1⟩, -, X1, ⟨Lc1, hQ1, l1, y1, z1⟩, st1⟩ := Jvm.LawKit.callS X0 hx (y := (⟨"com/example/lastkey/lastkey/exec/TextFormat", "isNull", "([BII)Z"⟩ : MethodName)) hown (mvT hZ (hw _ (List.mem_of_getElem? (i := 2) rfl))) (mvT hZ (hw _ (List.mem_of_getElem? (i := 3) rfl))) (mvT hZ (hw _ (List.mem_of_getElem? (i := 4) rfl))) (mvT hZ (hw _ (List.mem_of_getElem? (i := 5) rfl))) (by decide) (backOf (W := 0) (rm1 l Z a0 hw [] b f5 t6 l_ kb h0 n0 V i0 i1 i2) hZ (hw _ (List.mem_of_getElem? (i := 5) rfl)) (hw _ (List.mem_of_getElem? (i := 4) rfl)) (by decide) (by decide)) (g := (mkF m 106 #[.val (.int p1), .val (.int p2), .val (.int p3), .val (.int p4), .val (.ref b), .val (.int f5), .val (.int t6), .unset, .unset] [(.int t6), (.int f5), (.ref b)])) rfl (by rw [hml]; rfl) (argsL := [(.ref b), (.int f5), (.int t6)]) (rest := []) (lenOf pd_0 rfl) rfl (by show 2 * 0 + _ ≤ _; exact Nat.le_of_eq rfl) (hb hby at_106) (fun _ _ => ⟨rfl, e0, (by decide : 1 + 0 ≤ _), (by decide : 4 + 0 ≤ _)⟩)
  dsimp only [Pt.U, Pt.locs, Pt.cells, Pt.slots] at X1 l1 y1 z1 st1 hQ1
  subst l1 y1 z1
  obtain ⟨rfl, N1q, eh1⟩ := hQ1
  have N1 := Fr.app N0 N1q
  refine own_via st1 ?_
  show own_Rch p.tables e below (T1.setTop (mkF m 109 #[.val (.int p1), .val (.int p2), .val (.int p3), .val (.int p4), .val (.ref b), .val (.int f5), .val (.int t6), .unset, .unset] [(.int (own_n3 l_ f5 t6))])) _
  refine own_via (fun t k => XS.istore X1.here hx rfl (hb hby at_109) rfl (l' := #[.val (.int p1), .val (.int p2), .val (.int p3), .val (.int p4), .val (.ref b), .val (.int f5), .val (.int t6), .val (.int (own_n3 l_ f5 t6)), .unset]) rfl k) ?_
  show own_Rch p.tables e below (T1.setTop (mkF m 111 #[.val (.int p1), .val (.int p2), .val (.int p3), .val (.int p4), .val (.ref b), .val (.int f5), .val (.int t6), .val (.int (own_n3 l_ f5 t6)), .unset] [])) _
  refine own_via (fun t k => XS.aload X1.here hx rfl (hb hby at_111) rfl rfl k) ?_
  show own_Rch p.tables e below (T1.setTop (mkF m 113 #[.val (.int p1), .val (.int p2), .val (.int p3), .val (.int p4), .val (.ref b), .val (.int f5), .val (.int t6), .val (.int (own_n3 l_ f5 t6)), .unset] [(.ref b)])) _
  refine own_via (fun t k => XS.iload X1.here hx rfl (hb hby at_113) rfl k) ?_
  show own_Rch p.tables e below (T1.setTop (mkF m 115 #[.val (.int p1), .val (.int p2), .val (.int p3), .val (.int p4), .val (.ref b), .val (.int f5), .val (.int t6), .val (.int (own_n3 l_ f5 t6)), .unset] [(.int f5), (.ref b)])) _
  refine own_via (fun t k => XS.iload X1.here hx rfl (hb hby at_115) rfl k) ?_
  show own_Rch p.tables e below (T1.setTop (mkF m 117 #[.val (.int p1), .val (.int p2), .val (.int p3), .val (.int p4), .val (.ref b), .val (.int f5), .val (.int t6), .val (.int (own_n3 l_ f5 t6)), .unset] [(.int t6), (.int f5), (.ref b)])) _
  obtain ⟨T2, X2, e2, st2⟩ := getS2 X1 hx hZ hown (host := "") (Or.inl (hw _ (List.mem_of_getElem? (i := 6) rfl))) Via.refl eh1 S_N (g := (mkF m 117 #[.val (.int p1), .val (.int p2), .val (.int p3), .val (.int p4), .val (.ref b), .val (.int f5), .val (.int t6), .val (.int (own_n3 l_ f5 t6)), .unset] [(.int t6), (.int f5), (.ref b)])) rfl (hb hby at_117)
  refine own_via st2 ?_
  show own_Rch p.tables e below (T2.setTop (mkF m 120 #[.val (.int p1), .val (.int p2), .val (.int p3), .val (.int p4), .val (.ref b), .val (.int f5), .val (.int t6), .val (.int (own_n3 l_ f5 t6)), .unset] [(.ref aN), (.int t6), (.int f5), (.ref b)])) _
  obtain ⟨_, _, ⟨T3, L3, k3, n3⟩, -, X3, ⟨Lc3, hQ3, l3, y3, z3⟩, st3⟩ := Jvm.LawKit.callS X2 hx (y := (⟨"com/example/lastkey/lastkey/exec/TextFormat", "isNull", "([BII[B)Z"⟩ : MethodName)) hown (mvT hZ (hw _ (List.mem_of_getElem? (i := 8) rfl))) (mvT hZ (hw _ (List.mem_of_getElem? (i := 9) rfl))) (mvT hZ (hw _ (List.mem_of_getElem? (i := 4) rfl))) (mvT hZ (hw _ (List.mem_of_getElem? (i := 10) rfl))) (by decide) (backOf (W := 0) (rm2 l Z a0 hw [] b f5 t6 aN l_ [92, 78] kb kN h0 n0 V Vn i0 i1 i2) hZ (hw _ (List.mem_of_getElem? (i := 10) rfl)) (hw _ (List.mem_of_getElem? (i := 4) rfl)) (by decide) (by decide)) (g := (mkF m 120 #[.val (.int p1), .val (.int p2), .val (.int p3), .val (.int p4), .val (.ref b), .val (.int f5), .val (.int t6), .val (.int (own_n3 l_ f5 t6)), .unset] [(.ref aN), (.int t6), (.int f5), (.ref b)])) rfl (by rw [hml]; rfl) (argsL := [(.ref b), (.int f5), (.int t6), (.ref aN)]) (rest := []) (lenOf pd_1 rfl) rfl (by show 2 * 0 + _ ≤ _; exact Nat.le_of_eq rfl) (hb hby at_120) (fun _ _ => ⟨rfl, e2, (by decide : 1 + 0 ≤ _), (by decide : 4 + 0 ≤ _)⟩)
  dsimp only [Pt.U, Pt.locs, Pt.cells, Pt.slots] at X3 l3 y3 z3 st3 hQ3
  subst l3 y3 z3
  obtain ⟨rfl, N3q, eh3⟩ := hQ3
  have N3 := Fr.app N1 N3q
  refine own_via st3 ?_
  show own_Rch p.tables e below (T3.setTop (mkF m 123 #[.val (.int p1), .val (.int p2), .val (.int p3), .val (.int p4), .val (.ref b), .val (.int f5), .val (.int t6), .val (.int (own_n3 l_ f5 t6)), .unset] [(.int (own_n4_2 l_ [92, 78] f5 t6))])) _
  refine own_via (fun t k => XS.istore X3.here hx rfl (hb hby at_123) rfl (l' := #[.val (.int p1), .val (.int p2), .val (.int p3), .val (.int p4), .val (.ref b), .val (.int f5), .val (.int t6), .val (.int (own_n3 l_ f5 t6)), .val (.int (own_n4_2 l_ [92, 78] f5 t6))]) rfl k) ?_
  show own_Rch p.tables e below (T3.setTop (mkF m 125 #[.val (.int p1), .val (.int p2), .val (.int p3), .val (.int p4), .val (.ref b), .val (.int f5), .val (.int t6), .val (.int (own_n3 l_ f5 t6)), .val (.int (own_n4_2 l_ [92, 78] f5 t6))] [])) _
  refine own_via (fun t k => XS.iload X3.here hx rfl (hb hby at_125) rfl k) ?_
  show own_Rch p.tables e below (T3.setTop (mkF m 127 #[.val (.int p1), .val (.int p2), .val (.int p3), .val (.int p4), .val (.ref b), .val (.int f5), .val (.int t6), .val (.int (own_n3 l_ f5 t6)), .val (.int (own_n4_2 l_ [92, 78] f5 t6))] [(.int (own_n3 l_ f5 t6))])) _
  refine own_via (fun t k => XS.iload X3.here hx rfl (hb hby at_127) rfl k) ?_
  show own_Rch p.tables e below (T3.setTop (mkF m 129 #[.val (.int p1), .val (.int p2), .val (.int p3), .val (.int p4), .val (.ref b), .val (.int f5), .val (.int t6), .val (.int (own_n3 l_ f5 t6)), .val (.int (own_n4_2 l_ [92, 78] f5 t6))] [(.int (own_n4_2 l_ [92, 78] f5 t6)), (.int (own_n3 l_ f5 t6))])) _
  refine own_via (fun t k => XS.icmpNo X3.here hx rfl (hb hby at_129) rfl (teq (own_same l_ f5 t6)).2 k) ?_
  show own_Rch p.tables e below (T3.setTop (mkF m 132 #[.val (.int p1), .val (.int p2), .val (.int p3), .val (.int p4), .val (.ref b), .val (.int f5), .val (.int t6), .val (.int (own_n3 l_ f5 t6)), .val (.int (own_n4_2 l_ [92, 78] f5 t6))] [])) _
  refine own_via (fun t k => XS.iconst X3.here hx rfl (hb hby at_132) k) ?_
  show own_Rch p.tables e below (T3.setTop (mkF m 133 #[.val (.int p1), .val (.int p2), .val (.int p3), .val (.int p4), .val (.ref b), .val (.int f5), .val (.int t6), .val (.int (own_n3 l_ f5 t6)), .val (.int (own_n4_2 l_ [92, 78] f5 t6))] [(.int (1 : Int32))])) _
  refine own_via (fun t k => XS.goto X3.here hx rfl (pc0 := 133) (pc' := 137) rfl (hb hby at_133) (by decide) (by decide) k) ?_
  show own_Rch p.tables e below (T3.setTop (mkF m 137 #[.val (.int p1), .val (.int p2), .val (.int p3), .val (.int p4), .val (.ref b), .val (.int f5), .val (.int t6), .val (.int (own_n3 l_ f5 t6)), .val (.int (own_n4_2 l_ [92, 78] f5 t6))] [(.int (1 : Int32))])) _
  exact own_fin X3 hx (t := .boolean) (i := .ireturn) hret hlk rfl (Or.inl ⟨rfl, by simp, _, rfl⟩) (hb hby at_137) (by decide) (by decide) ⟨rfl, N3⟩
theorem own_pl (j b : Int32) (h : ¬ j < 0 ∧ j < b) {n : Nat} (e : b.toNatClampNeg = n) : j.toNatClampNeg < n := by
  subst e
  obtain ⟨h1, h2⟩ := h
  have e0 : (0 : Int32).toInt = 0 := rfl
  simp only [Int32.lt_iff_toInt_lt, Int32.toNatClampNeg] at *; omega
theorem own_j0 (f : Int32) (h : 0 ≤ f.toInt ∧ f.toInt ≤ 4) (c : f < (4 : Int32)) : ¬ f < 0 ∧ f < (4 : Int32) := by
  have e0 : (0 : Int32).toInt = 0 := rfl
  refine ⟨?_, c⟩
  rw [Int32.lt_iff_toInt_lt, e0]; omega
theorem own_j1 (f : Int32) (h : 0 ≤ f.toInt ∧ f.toInt ≤ 4) (c : f < (3 : Int32)) : ¬ (f + (1 : Int32)) < 0 ∧ (f + (1 : Int32)) < (4 : Int32) := by
  have e0 : (0 : Int32).toInt = 0 := rfl
  have e1 : (1 : Int32).toInt = 1 := rfl
  have e3 : (3 : Int32).toInt = 3 := rfl
  have e4 : (4 : Int32).toInt = 4 := rfl
  have w := c_iadd f 1
  have r := rng32 (f + (1 : Int32))
  simp only [Int32.lt_iff_toInt_lt] at *
  omega
theorem ef_0 (m : MethodId) (x0 : Int32) (x1 : Int32) (x2 : Int32) (x3 : Int32) : entryFrame m #[(.int x0), (.int x1), (.int x2), (.int x3)] maxLocals = mkF m 0 #[.val (.int x0), .val (.int x1), .val (.int x2), .val (.int x3), .unset, .unset, .unset, .unset, .unset] [] := by first | (simp [entryFrame, mkF, argsToLocals, Value.category, maxLocals]; done) | rfl
theorem pn_com_example_lastkey_lastkey_exec_TextFormatIsNull379PinLaw : plainName "com/example/lastkey/lastkey/exec/TextFormatIsNull379PinLaw" = true := by first | (simp [plainName, overriddenIn]; done) | decide +kernel
set_option maxRecDepth 65536 in
set_option maxHeartbeats 40000000 in
theorem rm0 (l : Launch) (Z : State) (a0 : Array Value) (hw : ∀ d ∈ tables_1, d.before a0 Z = true) (ws : List Jvm.Cond) (p1 p2 p3 p4 : Int32) (aN : Addr) (kN : ClassId) (h0 : Heap) (n0 : Nat) (Z0 : n0 ≤ h0.size) (O0 : Old Z n0 h0) (S_N : Sta Z Z.heap "com/example/lastkey/lastkey/exec/TextFormat" "NULL" "[B" (.ref aN)) (V_N : Arv Z Z.heap aN kN .byte (2 : Int32) (([92, 78] : List Int32).map Value.int) (.int 0)) :
    MetFree l x (head1 (Jvm.Cond.code x code maxLocals ret :: ws) room_1) (fun a U => a = #[(.int p1), (.int p2), (.int p3), (.int p4)] ∧ Z.Warmed39 U.vm ∧ U.heap = h0) (fun _ _ _ _ _ => True) (fun _ U o U' => ∃ v L, o = .returned v ∧ Q0 n0 v U'.heap L ∧ FrameEnd U o U' L room_1.cells room_1.slots) := by
  refine MetFree.of_bodySF (plainFor_of_name pn_com_example_lastkey_lastkey_exec_TextFormatIsNull379PinLaw) hisR ?_
  intro p e s m args below meth c s₁ Bd hml0 hP hK
  obtain ⟨rfl, hZ, hh⟩ := hP
  have hx := Bd.exec
  have hby := Bd.bytes
  have hml : c.maxLocals = 9 := hml0
  have hown : s.vm.findClass "com/example/lastkey/lastkey/exec/TextFormatIsNull379PinLaw" = some m.cls := findClass_of_methodNamed Bd.named
  have hnm := (name_of_methodNamed Bd.named Bd.method).1
  have X0 : Stand p l e room_1 s m #[(.int p1), (.int p2), (.int p3), (.int p4)] below meth c s₁ [] 0 0 := Stand.of_body Bd
  have e0 : s₁.heap = h0 := by rw [← hh, Bd.state]; rfl
  have N0 := Fr.nil n0
  show own_Rch p.tables e below (s₁.setTop (entryFrame m #[(.int p1), (.int p2), (.int p3), (.int p4)] maxLocals)) (own_End s (Q0 n0) room_1.cells room_1.slots)
  refine own_via (fun t k => castTop (ef_0 m p1 p2 p3 p4) k) ?_
  show own_Rch p.tables e below (s₁.setTop (mkF m 0 #[.val (.int p1), .val (.int p2), .val (.int p3), .val (.int p4), .unset, .unset, .unset, .unset, .unset] [])) _
  refine own_via (fun t k => XS.iconst X0.here hx rfl (hb hby at_0) k) ?_
  show own_Rch p.tables e below (s₁.setTop (mkF m 1 #[.val (.int p1), .val (.int p2), .val (.int p3), .val (.int p4), .unset, .unset, .unset, .unset, .unset] [(.int (4 : Int32))])) _
  obtain ⟨T1, h1, k1, X1, e1, E1, A1, st1⟩ := newP X0 hx hZ (hw _ (List.mem_of_getElem? (i := 0) rfl)) e0 (g := (mkF m 1 #[.val (.int p1), .val (.int p2), .val (.int p3), .val (.int p4), .unset, .unset, .unset, .unset, .unset] [(.int (4 : Int32))])) rfl (hb hby at_1) rfl (by decide) (cap := 4) (by decide) (by decide) (by decide) (by decide)
  obtain ⟨b1, g1⟩ : ∃ z, z = h0.size := ⟨_, rfl⟩
  rw [← g1] at A1 st1
  have g_b1 : n0 ≤ b1 := Nat.le_trans Z0 (Nat.le_of_eq g1.symm)
  have V1 : Arv Z h1 b1 k1 .byte (4 : Int32) [(.int (0 : Int32)), (.int (0 : Int32)), (.int (0 : Int32)), (.int (0 : Int32))] (.int (0 : Int32)) := (Arv.new A1 (by decide)).pad (pad_rep [] (.int (0 : Int32)) 4)
  have O1 := O0.ext E1
  refine own_via st1 ?_
  show own_Rch p.tables e below (T1.setTop (mkF m 3 #[.val (.int p1), .val (.int p2), .val (.int p3), .val (.int p4), .unset, .unset, .unset, .unset, .unset] [(.ref b1)])) _
  refine own_via (fun t k => XS.astore X1.here hx rfl (hb hby at_3) rfl rfl (l' := #[.val (.int p1), .val (.int p2), .val (.int p3), .val (.int p4), .val (.ref b1), .unset, .unset, .unset, .unset]) rfl k) ?_
  show own_Rch p.tables e below (T1.setTop (mkF m 5 #[.val (.int p1), .val (.int p2), .val (.int p3), .val (.int p4), .val (.ref b1), .unset, .unset, .unset, .unset] [])) _
  refine own_via (fun t k => XS.aload X1.here hx rfl (hb hby at_5) rfl rfl k) ?_
  show own_Rch p.tables e below (T1.setTop (mkF m 7 #[.val (.int p1), .val (.int p2), .val (.int p3), .val (.int p4), .val (.ref b1), .unset, .unset, .unset, .unset] [(.ref b1)])) _
  refine own_via (fun t k => XS.iconst X1.here hx rfl (hb hby at_7) k) ?_
  show own_Rch p.tables e below (T1.setTop (mkF m 8 #[.val (.int p1), .val (.int p2), .val (.int p3), .val (.int p4), .val (.ref b1), .unset, .unset, .unset, .unset] [(.int (0 : Int32)), (.ref b1)])) _
  refine own_via (fun t k => XS.iloadN X1.here hx rfl (hb hby at_8) rfl k) ?_
  show own_Rch p.tables e below (T1.setTop (mkF m 9 #[.val (.int p1), .val (.int p2), .val (.int p3), .val (.int p4), .val (.ref b1), .unset, .unset, .unset, .unset] [(.int p1), (.int (0 : Int32)), (.ref b1)])) _
  refine own_via (fun t k => XS.i2b X1.here hx rfl (hb hby at_9) rfl k) ?_
  show own_Rch p.tables e below (T1.setTop (mkF m 10 #[.val (.int p1), .val (.int p2), .val (.int p3), .val (.int p4), .val (.ref b1), .unset, .unset, .unset, .unset] [(.int (p1.toInt8.toInt32)), (.int (0 : Int32)), (.ref b1)])) _
  obtain ⟨cl2, Ar2, cq_2, S2, M2, H2, G2⟩ := V1
  have hin2 : ¬ ((0 : Int32) < 0 ∨ cl2.slots.size ≤ ((0 : Int32)).toNatClampNeg) := inb_of S2 ⟨by decide, by decide⟩
  obtain ⟨T2, h2, X2, e2, W2, st2⟩ := stB X1 hx hZ e1 Ar2 (j := (0 : Int32)) hin2 (g := (mkF m 10 #[.val (.int p1), .val (.int p2), .val (.int p3), .val (.int p4), .val (.ref b1), .unset, .unset, .unset, .unset] [(.int (p1.toInt8.toInt32)), (.int (0 : Int32)), (.ref b1)])) rfl rfl (hb hby at_10)
  have V2 := Arv.set Ar2 cq_2 S2 M2 H2 G2 (fits_nar_byte _) W2 0 rfl (Nat.le_of_ble_eq_true rfl)
  have V2' : Arv Z h2 b1 k1 .byte (4 : Int32) [(.int ((p1.toInt8.toInt32).toInt8.toInt32)), (.int (0 : Int32)), (.int (0 : Int32)), (.int (0 : Int32))] (.int (0 : Int32)) := V2
  have N2 := Fr.snoc X2 N0 g_b1
  have O2 := O1.wr W2 g_b1
  refine own_via st2 ?_
  show own_Rch p.tables e below (T2.setTop (mkF m 11 #[.val (.int p1), .val (.int p2), .val (.int p3), .val (.int p4), .val (.ref b1), .unset, .unset, .unset, .unset] [])) _
  refine own_via (fun t k => XS.aload X2.here hx rfl (hb hby at_11) rfl rfl k) ?_
  show own_Rch p.tables e below (T2.setTop (mkF m 13 #[.val (.int p1), .val (.int p2), .val (.int p3), .val (.int p4), .val (.ref b1), .unset, .unset, .unset, .unset] [(.ref b1)])) _
  refine own_via (fun t k => XS.iconst X2.here hx rfl (hb hby at_13) k) ?_
  show own_Rch p.tables e below (T2.setTop (mkF m 14 #[.val (.int p1), .val (.int p2), .val (.int p3), .val (.int p4), .val (.ref b1), .unset, .unset, .unset, .unset] [(.int (1 : Int32)), (.ref b1)])) _
  refine own_via (fun t k => XS.iloadN X2.here hx rfl (hb hby at_14) rfl k) ?_
  show own_Rch p.tables e below (T2.setTop (mkF m 15 #[.val (.int p1), .val (.int p2), .val (.int p3), .val (.int p4), .val (.ref b1), .unset, .unset, .unset, .unset] [(.int p1), (.int (1 : Int32)), (.ref b1)])) _
  refine own_via (fun t k => XS.bipush X2.here hx rfl (hb hby at_15) k) ?_
  show own_Rch p.tables e below (T2.setTop (mkF m 17 #[.val (.int p1), .val (.int p2), .val (.int p3), .val (.int p4), .val (.ref b1), .unset, .unset, .unset, .unset] [(.int (8 : Int32)), (.int p1), (.int (1 : Int32)), (.ref b1)])) _
  refine own_via (fun t k => XS.iushr X2.here hx rfl (hb hby at_17) rfl k) ?_
  show own_Rch p.tables e below (T2.setTop (mkF m 18 #[.val (.int p1), .val (.int p2), .val (.int p3), .val (.int p4), .val (.ref b1), .unset, .unset, .unset, .unset] [(.int ((p1.toUInt32 >>> ((8 : Int32) &&& 31).toUInt32).toInt32)), (.int (1 : Int32)), (.ref b1)])) _
  refine own_via (fun t k => XS.i2b X2.here hx rfl (hb hby at_18) rfl k) ?_
  show own_Rch p.tables e below (T2.setTop (mkF m 19 #[.val (.int p1), .val (.int p2), .val (.int p3), .val (.int p4), .val (.ref b1), .unset, .unset, .unset, .unset] [(.int (((p1.toUInt32 >>> ((8 : Int32) &&& 31).toUInt32).toInt32).toInt8.toInt32)), (.int (1 : Int32)), (.ref b1)])) _
  obtain ⟨cl3, Ar3, cq_3, S3, M3, H3, G3⟩ := V2'
  have hin3 : ¬ ((1 : Int32) < 0 ∨ cl3.slots.size ≤ ((1 : Int32)).toNatClampNeg) := inb_of S3 ⟨by decide, by decide⟩
  obtain ⟨T3, h3, X3, e3, W3, st3⟩ := stB X2 hx hZ e2 Ar3 (j := (1 : Int32)) hin3 (g := (mkF m 19 #[.val (.int p1), .val (.int p2), .val (.int p3), .val (.int p4), .val (.ref b1), .unset, .unset, .unset, .unset] [(.int (((p1.toUInt32 >>> ((8 : Int32) &&& 31).toUInt32).toInt32).toInt8.toInt32)), (.int (1 : Int32)), (.ref b1)])) rfl rfl (hb hby at_19)
  have V3 := Arv.set Ar3 cq_3 S3 M3 H3 G3 (fits_nar_byte _) W3 1 rfl (Nat.le_of_ble_eq_true rfl)
  have V3' : Arv Z h3 b1 k1 .byte (4 : Int32) [(.int ((p1.toInt8.toInt32).toInt8.toInt32)), (.int ((((p1.toUInt32 >>> ((8 : Int32) &&& 31).toUInt32).toInt32).toInt8.toInt32).toInt8.toInt32)), (.int (0 : Int32)), (.int (0 : Int32))] (.int (0 : Int32)) := V3
  have N3 := Fr.snoc X3 N2 g_b1
  have O3 := O2.wr W3 g_b1
  refine own_via st3 ?_
  show own_Rch p.tables e below (T3.setTop (mkF m 20 #[.val (.int p1), .val (.int p2), .val (.int p3), .val (.int p4), .val (.ref b1), .unset, .unset, .unset, .unset] [])) _
  refine own_via (fun t k => XS.aload X3.here hx rfl (hb hby at_20) rfl rfl k) ?_
  show own_Rch p.tables e below (T3.setTop (mkF m 22 #[.val (.int p1), .val (.int p2), .val (.int p3), .val (.int p4), .val (.ref b1), .unset, .unset, .unset, .unset] [(.ref b1)])) _
  refine own_via (fun t k => XS.iconst X3.here hx rfl (hb hby at_22) k) ?_
  show own_Rch p.tables e below (T3.setTop (mkF m 23 #[.val (.int p1), .val (.int p2), .val (.int p3), .val (.int p4), .val (.ref b1), .unset, .unset, .unset, .unset] [(.int (2 : Int32)), (.ref b1)])) _
  refine own_via (fun t k => XS.iloadN X3.here hx rfl (hb hby at_23) rfl k) ?_
  show own_Rch p.tables e below (T3.setTop (mkF m 24 #[.val (.int p1), .val (.int p2), .val (.int p3), .val (.int p4), .val (.ref b1), .unset, .unset, .unset, .unset] [(.int p1), (.int (2 : Int32)), (.ref b1)])) _
  refine own_via (fun t k => XS.bipush X3.here hx rfl (hb hby at_24) k) ?_
  show own_Rch p.tables e below (T3.setTop (mkF m 26 #[.val (.int p1), .val (.int p2), .val (.int p3), .val (.int p4), .val (.ref b1), .unset, .unset, .unset, .unset] [(.int (16 : Int32)), (.int p1), (.int (2 : Int32)), (.ref b1)])) _
  refine own_via (fun t k => XS.iushr X3.here hx rfl (hb hby at_26) rfl k) ?_
  show own_Rch p.tables e below (T3.setTop (mkF m 27 #[.val (.int p1), .val (.int p2), .val (.int p3), .val (.int p4), .val (.ref b1), .unset, .unset, .unset, .unset] [(.int ((p1.toUInt32 >>> ((16 : Int32) &&& 31).toUInt32).toInt32)), (.int (2 : Int32)), (.ref b1)])) _
  refine own_via (fun t k => XS.i2b X3.here hx rfl (hb hby at_27) rfl k) ?_
  show own_Rch p.tables e below (T3.setTop (mkF m 28 #[.val (.int p1), .val (.int p2), .val (.int p3), .val (.int p4), .val (.ref b1), .unset, .unset, .unset, .unset] [(.int (((p1.toUInt32 >>> ((16 : Int32) &&& 31).toUInt32).toInt32).toInt8.toInt32)), (.int (2 : Int32)), (.ref b1)])) _
  obtain ⟨cl4, Ar4, cq_4, S4, M4, H4, G4⟩ := V3'
  have hin4 : ¬ ((2 : Int32) < 0 ∨ cl4.slots.size ≤ ((2 : Int32)).toNatClampNeg) := inb_of S4 ⟨by decide, by decide⟩
  obtain ⟨T4, h4, X4, e4, W4, st4⟩ := stB X3 hx hZ e3 Ar4 (j := (2 : Int32)) hin4 (g := (mkF m 28 #[.val (.int p1), .val (.int p2), .val (.int p3), .val (.int p4), .val (.ref b1), .unset, .unset, .unset, .unset] [(.int (((p1.toUInt32 >>> ((16 : Int32) &&& 31).toUInt32).toInt32).toInt8.toInt32)), (.int (2 : Int32)), (.ref b1)])) rfl rfl (hb hby at_28)
  have V4 := Arv.set Ar4 cq_4 S4 M4 H4 G4 (fits_nar_byte _) W4 2 rfl (Nat.le_of_ble_eq_true rfl)
  have V4' : Arv Z h4 b1 k1 .byte (4 : Int32) [(.int ((p1.toInt8.toInt32).toInt8.toInt32)), (.int ((((p1.toUInt32 >>> ((8 : Int32) &&& 31).toUInt32).toInt32).toInt8.toInt32).toInt8.toInt32)), (.int ((((p1.toUInt32 >>> ((16 : Int32) &&& 31).toUInt32).toInt32).toInt8.toInt32).toInt8.toInt32)), (.int (0 : Int32))] (.int (0 : Int32)) := V4
  have N4 := Fr.snoc X4 N3 g_b1
  have O4 := O3.wr W4 g_b1
  refine own_via st4 ?_
  show own_Rch p.tables e below (T4.setTop (mkF m 29 #[.val (.int p1), .val (.int p2), .val (.int p3), .val (.int p4), .val (.ref b1), .unset, .unset, .unset, .unset] [])) _
  refine own_via (fun t k => XS.aload X4.here hx rfl (hb hby at_29) rfl rfl k) ?_
  show own_Rch p.tables e below (T4.setTop (mkF m 31 #[.val (.int p1), .val (.int p2), .val (.int p3), .val (.int p4), .val (.ref b1), .unset, .unset, .unset, .unset] [(.ref b1)])) _
  refine own_via (fun t k => XS.iconst X4.here hx rfl (hb hby at_31) k) ?_
  show own_Rch p.tables e below (T4.setTop (mkF m 32 #[.val (.int p1), .val (.int p2), .val (.int p3), .val (.int p4), .val (.ref b1), .unset, .unset, .unset, .unset] [(.int (3 : Int32)), (.ref b1)])) _
  refine own_via (fun t k => XS.iloadN X4.here hx rfl (hb hby at_32) rfl k) ?_
  show own_Rch p.tables e below (T4.setTop (mkF m 33 #[.val (.int p1), .val (.int p2), .val (.int p3), .val (.int p4), .val (.ref b1), .unset, .unset, .unset, .unset] [(.int p1), (.int (3 : Int32)), (.ref b1)])) _
  refine own_via (fun t k => XS.bipush X4.here hx rfl (hb hby at_33) k) ?_
  show own_Rch p.tables e below (T4.setTop (mkF m 35 #[.val (.int p1), .val (.int p2), .val (.int p3), .val (.int p4), .val (.ref b1), .unset, .unset, .unset, .unset] [(.int (24 : Int32)), (.int p1), (.int (3 : Int32)), (.ref b1)])) _
  refine own_via (fun t k => XS.iushr X4.here hx rfl (hb hby at_35) rfl k) ?_
  show own_Rch p.tables e below (T4.setTop (mkF m 36 #[.val (.int p1), .val (.int p2), .val (.int p3), .val (.int p4), .val (.ref b1), .unset, .unset, .unset, .unset] [(.int ((p1.toUInt32 >>> ((24 : Int32) &&& 31).toUInt32).toInt32)), (.int (3 : Int32)), (.ref b1)])) _
  refine own_via (fun t k => XS.i2b X4.here hx rfl (hb hby at_36) rfl k) ?_
  show own_Rch p.tables e below (T4.setTop (mkF m 37 #[.val (.int p1), .val (.int p2), .val (.int p3), .val (.int p4), .val (.ref b1), .unset, .unset, .unset, .unset] [(.int (((p1.toUInt32 >>> ((24 : Int32) &&& 31).toUInt32).toInt32).toInt8.toInt32)), (.int (3 : Int32)), (.ref b1)])) _
  obtain ⟨cl5, Ar5, cq_5, S5, M5, H5, G5⟩ := V4'
  have hin5 : ¬ ((3 : Int32) < 0 ∨ cl5.slots.size ≤ ((3 : Int32)).toNatClampNeg) := inb_of S5 ⟨by decide, by decide⟩
  obtain ⟨T5, h5, X5, e5, W5, st5⟩ := stB X4 hx hZ e4 Ar5 (j := (3 : Int32)) hin5 (g := (mkF m 37 #[.val (.int p1), .val (.int p2), .val (.int p3), .val (.int p4), .val (.ref b1), .unset, .unset, .unset, .unset] [(.int (((p1.toUInt32 >>> ((24 : Int32) &&& 31).toUInt32).toInt32).toInt8.toInt32)), (.int (3 : Int32)), (.ref b1)])) rfl rfl (hb hby at_37)
  have V5 := Arv.set Ar5 cq_5 S5 M5 H5 G5 (fits_nar_byte _) W5 3 rfl (Nat.le_of_ble_eq_true rfl)
  have V5' : Arv Z h5 b1 k1 .byte (4 : Int32) [(.int ((p1.toInt8.toInt32).toInt8.toInt32)), (.int ((((p1.toUInt32 >>> ((8 : Int32) &&& 31).toUInt32).toInt32).toInt8.toInt32).toInt8.toInt32)), (.int ((((p1.toUInt32 >>> ((16 : Int32) &&& 31).toUInt32).toInt32).toInt8.toInt32).toInt8.toInt32)), (.int ((((p1.toUInt32 >>> ((24 : Int32) &&& 31).toUInt32).toInt32).toInt8.toInt32).toInt8.toInt32))] (.int (0 : Int32)) := V5
  have N5 := Fr.snoc X5 N4 g_b1
  have O5 := O4.wr W5 g_b1
  refine own_via st5 ?_
  show own_Rch p.tables e below (T5.setTop (mkF m 38 #[.val (.int p1), .val (.int p2), .val (.int p3), .val (.int p4), .val (.ref b1), .unset, .unset, .unset, .unset] [])) _
  refine own_via (fun t k => XS.iloadN X5.here hx rfl (hb hby at_38) rfl k) ?_
  show own_Rch p.tables e below (T5.setTop (mkF m 39 #[.val (.int p1), .val (.int p2), .val (.int p3), .val (.int p4), .val (.ref b1), .unset, .unset, .unset, .unset] [(.int p2)])) _
  refine own_via (X5.ldcInt hx hown (mvT hZ (hw _ (List.mem_of_getElem? (i := 1) rfl))) (g := (mkF m 39 #[.val (.int p1), .val (.int p2), .val (.int p3), .val (.int p4), .val (.ref b1), .unset, .unset, .unset, .unset] [(.int p2)])) rfl (hb hby at_39)) ?_
  show own_Rch p.tables e below (T5.setTop (mkF m 41 #[.val (.int p1), .val (.int p2), .val (.int p3), .val (.int p4), .val (.ref b1), .unset, .unset, .unset, .unset] [(.int (2147483647 : Int32)), (.int p2)])) _
  refine own_via (fun t k => XS.iand X5.here hx rfl (hb hby at_41) rfl k) ?_
  show own_Rch p.tables e below (T5.setTop (mkF m 42 #[.val (.int p1), .val (.int p2), .val (.int p3), .val (.int p4), .val (.ref b1), .unset, .unset, .unset, .unset] [(.int (p2 &&& (2147483647 : Int32)))])) _
  refine own_via (fun t k => XS.iconst X5.here hx rfl (hb hby at_42) k) ?_
  show own_Rch p.tables e below (T5.setTop (mkF m 43 #[.val (.int p1), .val (.int p2), .val (.int p3), .val (.int p4), .val (.ref b1), .unset, .unset, .unset, .unset] [(.int (5 : Int32)), (.int (p2 &&& (2147483647 : Int32)))])) _
  refine own_via (fun t k => iremM X5 hx rfl (hb hby at_43) rfl (by decide) k) ?_
  show own_Rch p.tables e below (T5.setTop (mkF m 44 #[.val (.int p1), .val (.int p2), .val (.int p3), .val (.int p4), .val (.ref b1), .unset, .unset, .unset, .unset] [(.int ((p2 &&& (2147483647 : Int32)) % (5 : Int32)))])) _
  obtain ⟨f5, hf5⟩ : ∃ z : Int32, z = ((p2 &&& (2147483647 : Int32)) % (5 : Int32)) := ⟨_, rfl⟩
  rw [← hf5]
  show own_Rch p.tables e below (T5.setTop (mkF m 44 #[.val (.int p1), .val (.int p2), .val (.int p3), .val (.int p4), .val (.ref b1), .unset, .unset, .unset, .unset] [(.int f5)])) _
  have hf := hf5 ▸ own_fr p2
  refine own_via (fun t k => XS.istore X5.here hx rfl (hb hby at_44) rfl (l' := #[.val (.int p1), .val (.int p2), .val (.int p3), .val (.int p4), .val (.ref b1), .val (.int f5), .unset, .unset, .unset]) rfl k) ?_
  show own_Rch p.tables e below (T5.setTop (mkF m 46 #[.val (.int p1), .val (.int p2), .val (.int p3), .val (.int p4), .val (.ref b1), .val (.int f5), .unset, .unset, .unset] [])) _
  refine own_via (fun t k => XS.iload X5.here hx rfl (hb hby at_46) rfl k) ?_
  show own_Rch p.tables e below (T5.setTop (mkF m 48 #[.val (.int p1), .val (.int p2), .val (.int p3), .val (.int p4), .val (.ref b1), .val (.int f5), .unset, .unset, .unset] [(.int f5)])) _
  refine own_via (fun t k => XS.iloadN X5.here hx rfl (hb hby at_48) rfl k) ?_
  show own_Rch p.tables e below (T5.setTop (mkF m 49 #[.val (.int p1), .val (.int p2), .val (.int p3), .val (.int p4), .val (.ref b1), .val (.int f5), .unset, .unset, .unset] [(.int p3), (.int f5)])) _
  refine own_via (X5.ldcInt hx hown (mvT hZ (hw _ (List.mem_of_getElem? (i := 1) rfl))) (g := (mkF m 49 #[.val (.int p1), .val (.int p2), .val (.int p3), .val (.int p4), .val (.ref b1), .val (.int f5), .unset, .unset, .unset] [(.int p3), (.int f5)])) rfl (hb hby at_49)) ?_
  show own_Rch p.tables e below (T5.setTop (mkF m 51 #[.val (.int p1), .val (.int p2), .val (.int p3), .val (.int p4), .val (.ref b1), .val (.int f5), .unset, .unset, .unset] [(.int (2147483647 : Int32)), (.int p3), (.int f5)])) _
  refine own_via (fun t k => XS.iand X5.here hx rfl (hb hby at_51) rfl k) ?_
  show own_Rch p.tables e below (T5.setTop (mkF m 52 #[.val (.int p1), .val (.int p2), .val (.int p3), .val (.int p4), .val (.ref b1), .val (.int f5), .unset, .unset, .unset] [(.int (p3 &&& (2147483647 : Int32))), (.int f5)])) _
  refine own_via (fun t k => XS.iconst X5.here hx rfl (hb hby at_52) k) ?_
  show own_Rch p.tables e below (T5.setTop (mkF m 53 #[.val (.int p1), .val (.int p2), .val (.int p3), .val (.int p4), .val (.ref b1), .val (.int f5), .unset, .unset, .unset] [(.int (5 : Int32)), (.int (p3 &&& (2147483647 : Int32))), (.int f5)])) _
  refine own_via (fun t k => XS.iload X5.here hx rfl (hb hby at_53) rfl k) ?_
  show own_Rch p.tables e below (T5.setTop (mkF m 55 #[.val (.int p1), .val (.int p2), .val (.int p3), .val (.int p4), .val (.ref b1), .val (.int f5), .unset, .unset, .unset] [(.int f5), (.int (5 : Int32)), (.int (p3 &&& (2147483647 : Int32))), (.int f5)])) _
  refine own_via (fun t k => XS.isub X5.here hx rfl (hb hby at_55) rfl k) ?_
  show own_Rch p.tables e below (T5.setTop (mkF m 56 #[.val (.int p1), .val (.int p2), .val (.int p3), .val (.int p4), .val (.ref b1), .val (.int f5), .unset, .unset, .unset] [(.int ((5 : Int32) - f5)), (.int (p3 &&& (2147483647 : Int32))), (.int f5)])) _
  refine own_via (fun t k => iremM X5 hx rfl (hb hby at_56) rfl (own_nz f5 hf) k) ?_
  show own_Rch p.tables e below (T5.setTop (mkF m 57 #[.val (.int p1), .val (.int p2), .val (.int p3), .val (.int p4), .val (.ref b1), .val (.int f5), .unset, .unset, .unset] [(.int ((p3 &&& (2147483647 : Int32)) % ((5 : Int32) - f5))), (.int f5)])) _
  refine own_via (fun t k => XS.iadd X5.here hx rfl (hb hby at_57) rfl k) ?_
  show own_Rch p.tables e below (T5.setTop (mkF m 58 #[.val (.int p1), .val (.int p2), .val (.int p3), .val (.int p4), .val (.ref b1), .val (.int f5), .unset, .unset, .unset] [(.int (f5 + ((p3 &&& (2147483647 : Int32)) % ((5 : Int32) - f5))))])) _
  obtain ⟨t6, ht6⟩ : ∃ z : Int32, z = (f5 + ((p3 &&& (2147483647 : Int32)) % ((5 : Int32) - f5))) := ⟨_, rfl⟩
  rw [← ht6]
  show own_Rch p.tables e below (T5.setTop (mkF m 58 #[.val (.int p1), .val (.int p2), .val (.int p3), .val (.int p4), .val (.ref b1), .val (.int f5), .unset, .unset, .unset] [(.int t6)])) _
  have ht := ht6 ▸ own_to f5 p3 hf
  obtain ⟨l_, hl_, Vl⟩ : ∃ l : List Int32, l.length = 4 ∧ Arv Z h5 b1 k1 .byte (4 : Int32) (l.map Value.int) (.int 0) := ⟨[((p1.toInt8.toInt32).toInt8.toInt32), ((((p1.toUInt32 >>> ((8 : Int32) &&& 31).toUInt32).toInt32).toInt8.toInt32).toInt8.toInt32), ((((p1.toUInt32 >>> ((16 : Int32) &&& 31).toUInt32).toInt32).toInt8.toInt32).toInt8.toInt32), ((((p1.toUInt32 >>> ((24 : Int32) &&& 31).toUInt32).toInt32).toInt8.toInt32).toInt8.toInt32)], rfl, V5'⟩
  refine own_via (fun t k => XS.istore X5.here hx rfl (hb hby at_58) rfl (l' := #[.val (.int p1), .val (.int p2), .val (.int p3), .val (.int p4), .val (.ref b1), .val (.int f5), .val (.int t6), .unset, .unset]) rfl k) ?_
  show own_Rch p.tables e below (T5.setTop (mkF m 60 #[.val (.int p1), .val (.int p2), .val (.int p3), .val (.int p4), .val (.ref b1), .val (.int f5), .val (.int t6), .unset, .unset] [])) _
  refine own_via (fun t k => XS.iloadN X5.here hx rfl (hb hby at_60) rfl k) ?_
  show own_Rch p.tables e below (T5.setTop (mkF m 61 #[.val (.int p1), .val (.int p2), .val (.int p3), .val (.int p4), .val (.ref b1), .val (.int f5), .val (.int t6), .unset, .unset] [(.int p4)])) _
  refine own_via (fun t k => XS.iconst X5.here hx rfl (hb hby at_61) k) ?_
  show own_Rch p.tables e below (T5.setTop (mkF m 62 #[.val (.int p1), .val (.int p2), .val (.int p3), .val (.int p4), .val (.ref b1), .val (.int f5), .val (.int t6), .unset, .unset] [(.int (1 : Int32)), (.int p4)])) _
  refine own_via (fun t k => XS.iand X5.here hx rfl (hb hby at_62) rfl k) ?_
  show own_Rch p.tables e below (T5.setTop (mkF m 63 #[.val (.int p1), .val (.int p2), .val (.int p3), .val (.int p4), .val (.ref b1), .val (.int f5), .val (.int t6), .unset, .unset] [(.int (p4 &&& (1 : Int32)))])) _
  by_cases c63 : (p4 &&& (1 : Int32)) = (0 : Int32)
  · refine own_via (fun t k => XS.ifYes X5.here hx rfl (pc0 := 63) (pc' := 79) rfl (hb hby at_63) rfl ((if0 _ _).trans (teq c63).1) (by decide) (by decide) k) ?_
    show own_Rch p.tables e below (T5.setTop (mkF m 79 #[.val (.int p1), .val (.int p2), .val (.int p3), .val (.int p4), .val (.ref b1), .val (.int f5), .val (.int t6), .unset, .unset] [])) _
    refine own_via (fun t k => XS.iloadN X5.here hx rfl (hb hby at_79) rfl k) ?_
    show own_Rch p.tables e below (T5.setTop (mkF m 80 #[.val (.int p1), .val (.int p2), .val (.int p3), .val (.int p4), .val (.ref b1), .val (.int f5), .val (.int t6), .unset, .unset] [(.int p4)])) _
    refine own_via (fun t k => XS.iconst X5.here hx rfl (hb hby at_80) k) ?_
    show own_Rch p.tables e below (T5.setTop (mkF m 81 #[.val (.int p1), .val (.int p2), .val (.int p3), .val (.int p4), .val (.ref b1), .val (.int f5), .val (.int t6), .unset, .unset] [(.int (2 : Int32)), (.int p4)])) _
    refine own_via (fun t k => XS.iand X5.here hx rfl (hb hby at_81) rfl k) ?_
    show own_Rch p.tables e below (T5.setTop (mkF m 82 #[.val (.int p1), .val (.int p2), .val (.int p3), .val (.int p4), .val (.ref b1), .val (.int f5), .val (.int t6), .unset, .unset] [(.int (p4 &&& (2 : Int32)))])) _
    by_cases c82 : (p4 &&& (2 : Int32)) = (0 : Int32)
    · refine own_via (fun t k => XS.ifYes X5.here hx rfl (pc0 := 82) (pc' := 100) rfl (hb hby at_82) rfl ((if0 _ _).trans (teq c82).1) (by decide) (by decide) k) ?_
      show own_Rch p.tables e below (T5.setTop (mkF m 100 #[.val (.int p1), .val (.int p2), .val (.int p3), .val (.int p4), .val (.ref b1), .val (.int f5), .val (.int t6), .unset, .unset] [])) _
      exact tl p1 p2 p3 p4 b1 f5 t6 _ _ _ aN X5 hx hZ hw hby hml hown Bd.returns Bd.notSynchronized e5 N5 (Nat.le_trans (Nat.le_trans (Nat.le_trans (Nat.le_trans (Nat.le_trans Z0 E1.1) (Keep.of_wr W2).1) (Keep.of_wr W3).1) (Keep.of_wr W4).1) (Keep.of_wr W5).1) Vl (S_N.ext O5.2) (V_N.ext O5.2) hf.1 ht.2 ht.1
    · refine own_via (fun t k => XS.ifNo X5.here hx rfl (hb hby at_82) rfl ((if0 _ _).trans (feq c82).1) k) ?_
      show own_Rch p.tables e below (T5.setTop (mkF m 85 #[.val (.int p1), .val (.int p2), .val (.int p3), .val (.int p4), .val (.ref b1), .val (.int f5), .val (.int t6), .unset, .unset] [])) _
      refine own_via (fun t k => XS.iload X5.here hx rfl (hb hby at_85) rfl k) ?_
      show own_Rch p.tables e below (T5.setTop (mkF m 87 #[.val (.int p1), .val (.int p2), .val (.int p3), .val (.int p4), .val (.ref b1), .val (.int f5), .val (.int t6), .unset, .unset] [(.int f5)])) _
      refine own_via (fun t k => XS.iconst X5.here hx rfl (hb hby at_87) k) ?_
      show own_Rch p.tables e below (T5.setTop (mkF m 88 #[.val (.int p1), .val (.int p2), .val (.int p3), .val (.int p4), .val (.ref b1), .val (.int f5), .val (.int t6), .unset, .unset] [(.int (3 : Int32)), (.int f5)])) _
      by_cases c88 : f5 < (3 : Int32)
      · refine own_via (fun t k => XS.icmpNo X5.here hx rfl (hb hby at_88) rfl (tlt c88).2.1 k) ?_
        show own_Rch p.tables e below (T5.setTop (mkF m 91 #[.val (.int p1), .val (.int p2), .val (.int p3), .val (.int p4), .val (.ref b1), .val (.int f5), .val (.int t6), .unset, .unset] [])) _
        refine own_via (fun t k => XS.aload X5.here hx rfl (hb hby at_91) rfl rfl k) ?_
        show own_Rch p.tables e below (T5.setTop (mkF m 93 #[.val (.int p1), .val (.int p2), .val (.int p3), .val (.int p4), .val (.ref b1), .val (.int f5), .val (.int t6), .unset, .unset] [(.ref b1)])) _
        refine own_via (fun t k => XS.iload X5.here hx rfl (hb hby at_93) rfl k) ?_
        show own_Rch p.tables e below (T5.setTop (mkF m 95 #[.val (.int p1), .val (.int p2), .val (.int p3), .val (.int p4), .val (.ref b1), .val (.int f5), .val (.int t6), .unset, .unset] [(.int f5), (.ref b1)])) _
        refine own_via (fun t k => XS.iconst X5.here hx rfl (hb hby at_95) k) ?_
        show own_Rch p.tables e below (T5.setTop (mkF m 96 #[.val (.int p1), .val (.int p2), .val (.int p3), .val (.int p4), .val (.ref b1), .val (.int f5), .val (.int t6), .unset, .unset] [(.int (1 : Int32)), (.int f5), (.ref b1)])) _
        refine own_via (fun t k => XS.iadd X5.here hx rfl (hb hby at_96) rfl k) ?_
        show own_Rch p.tables e below (T5.setTop (mkF m 97 #[.val (.int p1), .val (.int p2), .val (.int p3), .val (.int p4), .val (.ref b1), .val (.int f5), .val (.int t6), .unset, .unset] [(.int (f5 + (1 : Int32))), (.ref b1)])) _
        refine own_via (fun t k => XS.bipush X5.here hx rfl (hb hby at_97) k) ?_
        show own_Rch p.tables e below (T5.setTop (mkF m 99 #[.val (.int p1), .val (.int p2), .val (.int p3), .val (.int p4), .val (.ref b1), .val (.int f5), .val (.int t6), .unset, .unset] [(.int (78 : Int32)), (.int (f5 + (1 : Int32))), (.ref b1)])) _
        obtain ⟨cl6, Ar6, cq_6, S6, M6, H6, G6⟩ := Vl
        have hin6 : ¬ ((f5 + (1 : Int32)) < 0 ∨ cl6.slots.size ≤ ((f5 + (1 : Int32))).toNatClampNeg) := inb_of S6 (own_j1 f5 hf c88)
        obtain ⟨T6, h6, X6, e6, W6, st6⟩ := stB X5 hx hZ e5 Ar6 (j := (f5 + (1 : Int32))) hin6 (g := (mkF m 99 #[.val (.int p1), .val (.int p2), .val (.int p3), .val (.int p4), .val (.ref b1), .val (.int f5), .val (.int t6), .unset, .unset] [(.int (78 : Int32)), (.int (f5 + (1 : Int32))), (.ref b1)])) rfl rfl (hb hby at_99)
        have V6 := Arv.set Ar6 cq_6 S6 M6 H6 G6 (fits_nar_byte _) W6 _ rfl (by rw [List.length_map, hl_]; exact own_pl _ _ ((own_j1 f5 hf c88)) rfl)
        obtain ⟨l_, hl_, V6'⟩ : ∃ l : List Int32, l.length = 4 ∧ Arv Z h6 _ _ .byte (4 : Int32) (l.map Value.int) (.int 0) := ⟨_, (List.length_set ..).trans hl_, (List.map_set (f := Value.int) ..).symm ▸ V6⟩
        have N6 := Fr.snoc X6 N5 g_b1
        have O6 := O5.wr W6 g_b1
        refine own_via st6 ?_
        show own_Rch p.tables e below (T6.setTop (mkF m 100 #[.val (.int p1), .val (.int p2), .val (.int p3), .val (.int p4), .val (.ref b1), .val (.int f5), .val (.int t6), .unset, .unset] [])) _
        exact tl p1 p2 p3 p4 b1 f5 t6 _ _ _ aN X6 hx hZ hw hby hml hown Bd.returns Bd.notSynchronized e6 N6 (Nat.le_trans (Nat.le_trans (Nat.le_trans (Nat.le_trans (Nat.le_trans (Nat.le_trans Z0 E1.1) (Keep.of_wr W2).1) (Keep.of_wr W3).1) (Keep.of_wr W4).1) (Keep.of_wr W5).1) (Keep.of_wr W6).1) V6' (S_N.ext O6.2) (V_N.ext O6.2) hf.1 ht.2 ht.1
      · refine own_via (fun t k => XS.icmpYes X5.here hx rfl (pc0 := 88) (pc' := 100) rfl (hb hby at_88) rfl (flt c88).2.1 (by decide) (by decide) k) ?_
        show own_Rch p.tables e below (T5.setTop (mkF m 100 #[.val (.int p1), .val (.int p2), .val (.int p3), .val (.int p4), .val (.ref b1), .val (.int f5), .val (.int t6), .unset, .unset] [])) _
        exact tl p1 p2 p3 p4 b1 f5 t6 _ _ _ aN X5 hx hZ hw hby hml hown Bd.returns Bd.notSynchronized e5 N5 (Nat.le_trans (Nat.le_trans (Nat.le_trans (Nat.le_trans (Nat.le_trans Z0 E1.1) (Keep.of_wr W2).1) (Keep.of_wr W3).1) (Keep.of_wr W4).1) (Keep.of_wr W5).1) Vl (S_N.ext O5.2) (V_N.ext O5.2) hf.1 ht.2 ht.1
  · refine own_via (fun t k => XS.ifNo X5.here hx rfl (hb hby at_63) rfl ((if0 _ _).trans (feq c63).1) k) ?_
    show own_Rch p.tables e below (T5.setTop (mkF m 66 #[.val (.int p1), .val (.int p2), .val (.int p3), .val (.int p4), .val (.ref b1), .val (.int f5), .val (.int t6), .unset, .unset] [])) _
    refine own_via (fun t k => XS.iload X5.here hx rfl (hb hby at_66) rfl k) ?_
    show own_Rch p.tables e below (T5.setTop (mkF m 68 #[.val (.int p1), .val (.int p2), .val (.int p3), .val (.int p4), .val (.ref b1), .val (.int f5), .val (.int t6), .unset, .unset] [(.int f5)])) _
    refine own_via (fun t k => XS.iconst X5.here hx rfl (hb hby at_68) k) ?_
    show own_Rch p.tables e below (T5.setTop (mkF m 69 #[.val (.int p1), .val (.int p2), .val (.int p3), .val (.int p4), .val (.ref b1), .val (.int f5), .val (.int t6), .unset, .unset] [(.int (4 : Int32)), (.int f5)])) _
    by_cases c69 : f5 < (4 : Int32)
    · refine own_via (fun t k => XS.icmpNo X5.here hx rfl (hb hby at_69) rfl (tlt c69).2.1 k) ?_
      show own_Rch p.tables e below (T5.setTop (mkF m 72 #[.val (.int p1), .val (.int p2), .val (.int p3), .val (.int p4), .val (.ref b1), .val (.int f5), .val (.int t6), .unset, .unset] [])) _
      refine own_via (fun t k => XS.aload X5.here hx rfl (hb hby at_72) rfl rfl k) ?_
      show own_Rch p.tables e below (T5.setTop (mkF m 74 #[.val (.int p1), .val (.int p2), .val (.int p3), .val (.int p4), .val (.ref b1), .val (.int f5), .val (.int t6), .unset, .unset] [(.ref b1)])) _
      refine own_via (fun t k => XS.iload X5.here hx rfl (hb hby at_74) rfl k) ?_
      show own_Rch p.tables e below (T5.setTop (mkF m 76 #[.val (.int p1), .val (.int p2), .val (.int p3), .val (.int p4), .val (.ref b1), .val (.int f5), .val (.int t6), .unset, .unset] [(.int f5), (.ref b1)])) _
      refine own_via (fun t k => XS.bipush X5.here hx rfl (hb hby at_76) k) ?_
      show own_Rch p.tables e below (T5.setTop (mkF m 78 #[.val (.int p1), .val (.int p2), .val (.int p3), .val (.int p4), .val (.ref b1), .val (.int f5), .val (.int t6), .unset, .unset] [(.int (92 : Int32)), (.int f5), (.ref b1)])) _
      obtain ⟨cl7, Ar7, cq_7, S7, M7, H7, G7⟩ := Vl
      have hin7 : ¬ (f5 < 0 ∨ cl7.slots.size ≤ (f5).toNatClampNeg) := inb_of S7 (own_j0 f5 hf c69)
      obtain ⟨T7, h7, X7, e7, W7, st7⟩ := stB X5 hx hZ e5 Ar7 (j := f5) hin7 (g := (mkF m 78 #[.val (.int p1), .val (.int p2), .val (.int p3), .val (.int p4), .val (.ref b1), .val (.int f5), .val (.int t6), .unset, .unset] [(.int (92 : Int32)), (.int f5), (.ref b1)])) rfl rfl (hb hby at_78)
      have V7 := Arv.set Ar7 cq_7 S7 M7 H7 G7 (fits_nar_byte _) W7 _ rfl (by rw [List.length_map, hl_]; exact own_pl _ _ ((own_j0 f5 hf c69)) rfl)
      obtain ⟨l_, hl_, V7'⟩ : ∃ l : List Int32, l.length = 4 ∧ Arv Z h7 _ _ .byte (4 : Int32) (l.map Value.int) (.int 0) := ⟨_, (List.length_set ..).trans hl_, (List.map_set (f := Value.int) ..).symm ▸ V7⟩
      have N7 := Fr.snoc X7 N5 g_b1
      have O7 := O5.wr W7 g_b1
      refine own_via st7 ?_
      show own_Rch p.tables e below (T7.setTop (mkF m 79 #[.val (.int p1), .val (.int p2), .val (.int p3), .val (.int p4), .val (.ref b1), .val (.int f5), .val (.int t6), .unset, .unset] [])) _
      refine own_via (fun t k => XS.iloadN X7.here hx rfl (hb hby at_79) rfl k) ?_
      show own_Rch p.tables e below (T7.setTop (mkF m 80 #[.val (.int p1), .val (.int p2), .val (.int p3), .val (.int p4), .val (.ref b1), .val (.int f5), .val (.int t6), .unset, .unset] [(.int p4)])) _
      refine own_via (fun t k => XS.iconst X7.here hx rfl (hb hby at_80) k) ?_
      show own_Rch p.tables e below (T7.setTop (mkF m 81 #[.val (.int p1), .val (.int p2), .val (.int p3), .val (.int p4), .val (.ref b1), .val (.int f5), .val (.int t6), .unset, .unset] [(.int (2 : Int32)), (.int p4)])) _
      refine own_via (fun t k => XS.iand X7.here hx rfl (hb hby at_81) rfl k) ?_
      show own_Rch p.tables e below (T7.setTop (mkF m 82 #[.val (.int p1), .val (.int p2), .val (.int p3), .val (.int p4), .val (.ref b1), .val (.int f5), .val (.int t6), .unset, .unset] [(.int (p4 &&& (2 : Int32)))])) _
      by_cases c82 : (p4 &&& (2 : Int32)) = (0 : Int32)
      · refine own_via (fun t k => XS.ifYes X7.here hx rfl (pc0 := 82) (pc' := 100) rfl (hb hby at_82) rfl ((if0 _ _).trans (teq c82).1) (by decide) (by decide) k) ?_
        show own_Rch p.tables e below (T7.setTop (mkF m 100 #[.val (.int p1), .val (.int p2), .val (.int p3), .val (.int p4), .val (.ref b1), .val (.int f5), .val (.int t6), .unset, .unset] [])) _
        exact tl p1 p2 p3 p4 b1 f5 t6 _ _ _ aN X7 hx hZ hw hby hml hown Bd.returns Bd.notSynchronized e7 N7 (Nat.le_trans (Nat.le_trans (Nat.le_trans (Nat.le_trans (Nat.le_trans (Nat.le_trans Z0 E1.1) (Keep.of_wr W2).1) (Keep.of_wr W3).1) (Keep.of_wr W4).1) (Keep.of_wr W5).1) (Keep.of_wr W7).1) V7' (S_N.ext O7.2) (V_N.ext O7.2) hf.1 ht.2 ht.1
      · refine own_via (fun t k => XS.ifNo X7.here hx rfl (hb hby at_82) rfl ((if0 _ _).trans (feq c82).1) k) ?_
        show own_Rch p.tables e below (T7.setTop (mkF m 85 #[.val (.int p1), .val (.int p2), .val (.int p3), .val (.int p4), .val (.ref b1), .val (.int f5), .val (.int t6), .unset, .unset] [])) _
        refine own_via (fun t k => XS.iload X7.here hx rfl (hb hby at_85) rfl k) ?_
        show own_Rch p.tables e below (T7.setTop (mkF m 87 #[.val (.int p1), .val (.int p2), .val (.int p3), .val (.int p4), .val (.ref b1), .val (.int f5), .val (.int t6), .unset, .unset] [(.int f5)])) _
        refine own_via (fun t k => XS.iconst X7.here hx rfl (hb hby at_87) k) ?_
        show own_Rch p.tables e below (T7.setTop (mkF m 88 #[.val (.int p1), .val (.int p2), .val (.int p3), .val (.int p4), .val (.ref b1), .val (.int f5), .val (.int t6), .unset, .unset] [(.int (3 : Int32)), (.int f5)])) _
        by_cases c88 : f5 < (3 : Int32)
        · refine own_via (fun t k => XS.icmpNo X7.here hx rfl (hb hby at_88) rfl (tlt c88).2.1 k) ?_
          show own_Rch p.tables e below (T7.setTop (mkF m 91 #[.val (.int p1), .val (.int p2), .val (.int p3), .val (.int p4), .val (.ref b1), .val (.int f5), .val (.int t6), .unset, .unset] [])) _
          refine own_via (fun t k => XS.aload X7.here hx rfl (hb hby at_91) rfl rfl k) ?_
          show own_Rch p.tables e below (T7.setTop (mkF m 93 #[.val (.int p1), .val (.int p2), .val (.int p3), .val (.int p4), .val (.ref b1), .val (.int f5), .val (.int t6), .unset, .unset] [(.ref b1)])) _
          refine own_via (fun t k => XS.iload X7.here hx rfl (hb hby at_93) rfl k) ?_
          show own_Rch p.tables e below (T7.setTop (mkF m 95 #[.val (.int p1), .val (.int p2), .val (.int p3), .val (.int p4), .val (.ref b1), .val (.int f5), .val (.int t6), .unset, .unset] [(.int f5), (.ref b1)])) _
          refine own_via (fun t k => XS.iconst X7.here hx rfl (hb hby at_95) k) ?_
          show own_Rch p.tables e below (T7.setTop (mkF m 96 #[.val (.int p1), .val (.int p2), .val (.int p3), .val (.int p4), .val (.ref b1), .val (.int f5), .val (.int t6), .unset, .unset] [(.int (1 : Int32)), (.int f5), (.ref b1)])) _
          refine own_via (fun t k => XS.iadd X7.here hx rfl (hb hby at_96) rfl k) ?_
          show own_Rch p.tables e below (T7.setTop (mkF m 97 #[.val (.int p1), .val (.int p2), .val (.int p3), .val (.int p4), .val (.ref b1), .val (.int f5), .val (.int t6), .unset, .unset] [(.int (f5 + (1 : Int32))), (.ref b1)])) _
          refine own_via (fun t k => XS.bipush X7.here hx rfl (hb hby at_97) k) ?_
          show own_Rch p.tables e below (T7.setTop (mkF m 99 #[.val (.int p1), .val (.int p2), .val (.int p3), .val (.int p4), .val (.ref b1), .val (.int f5), .val (.int t6), .unset, .unset] [(.int (78 : Int32)), (.int (f5 + (1 : Int32))), (.ref b1)])) _
          obtain ⟨cl8, Ar8, cq_8, S8, M8, H8, G8⟩ := V7'
          have hin8 : ¬ ((f5 + (1 : Int32)) < 0 ∨ cl8.slots.size ≤ ((f5 + (1 : Int32))).toNatClampNeg) := inb_of S8 (own_j1 f5 hf c88)
          obtain ⟨T8, h8, X8, e8, W8, st8⟩ := stB X7 hx hZ e7 Ar8 (j := (f5 + (1 : Int32))) hin8 (g := (mkF m 99 #[.val (.int p1), .val (.int p2), .val (.int p3), .val (.int p4), .val (.ref b1), .val (.int f5), .val (.int t6), .unset, .unset] [(.int (78 : Int32)), (.int (f5 + (1 : Int32))), (.ref b1)])) rfl rfl (hb hby at_99)
          have V8 := Arv.set Ar8 cq_8 S8 M8 H8 G8 (fits_nar_byte _) W8 _ rfl (by rw [List.length_map, hl_]; exact own_pl _ _ ((own_j1 f5 hf c88)) rfl)
          obtain ⟨l_, hl_, V8'⟩ : ∃ l : List Int32, l.length = 4 ∧ Arv Z h8 _ _ .byte (4 : Int32) (l.map Value.int) (.int 0) := ⟨_, (List.length_set ..).trans hl_, (List.map_set (f := Value.int) ..).symm ▸ V8⟩
          have N8 := Fr.snoc X8 N7 g_b1
          have O8 := O7.wr W8 g_b1
          refine own_via st8 ?_
          show own_Rch p.tables e below (T8.setTop (mkF m 100 #[.val (.int p1), .val (.int p2), .val (.int p3), .val (.int p4), .val (.ref b1), .val (.int f5), .val (.int t6), .unset, .unset] [])) _
          exact tl p1 p2 p3 p4 b1 f5 t6 _ _ _ aN X8 hx hZ hw hby hml hown Bd.returns Bd.notSynchronized e8 N8 (Nat.le_trans (Nat.le_trans (Nat.le_trans (Nat.le_trans (Nat.le_trans (Nat.le_trans (Nat.le_trans Z0 E1.1) (Keep.of_wr W2).1) (Keep.of_wr W3).1) (Keep.of_wr W4).1) (Keep.of_wr W5).1) (Keep.of_wr W7).1) (Keep.of_wr W8).1) V8' (S_N.ext O8.2) (V_N.ext O8.2) hf.1 ht.2 ht.1
        · refine own_via (fun t k => XS.icmpYes X7.here hx rfl (pc0 := 88) (pc' := 100) rfl (hb hby at_88) rfl (flt c88).2.1 (by decide) (by decide) k) ?_
          show own_Rch p.tables e below (T7.setTop (mkF m 100 #[.val (.int p1), .val (.int p2), .val (.int p3), .val (.int p4), .val (.ref b1), .val (.int f5), .val (.int t6), .unset, .unset] [])) _
          exact tl p1 p2 p3 p4 b1 f5 t6 _ _ _ aN X7 hx hZ hw hby hml hown Bd.returns Bd.notSynchronized e7 N7 (Nat.le_trans (Nat.le_trans (Nat.le_trans (Nat.le_trans (Nat.le_trans (Nat.le_trans Z0 E1.1) (Keep.of_wr W2).1) (Keep.of_wr W3).1) (Keep.of_wr W4).1) (Keep.of_wr W5).1) (Keep.of_wr W7).1) V7' (S_N.ext O7.2) (V_N.ext O7.2) hf.1 ht.2 ht.1
    · refine own_via (fun t k => XS.icmpYes X5.here hx rfl (pc0 := 69) (pc' := 79) rfl (hb hby at_69) rfl (flt c69).2.1 (by decide) (by decide) k) ?_
      show own_Rch p.tables e below (T5.setTop (mkF m 79 #[.val (.int p1), .val (.int p2), .val (.int p3), .val (.int p4), .val (.ref b1), .val (.int f5), .val (.int t6), .unset, .unset] [])) _
      refine own_via (fun t k => XS.iloadN X5.here hx rfl (hb hby at_79) rfl k) ?_
      show own_Rch p.tables e below (T5.setTop (mkF m 80 #[.val (.int p1), .val (.int p2), .val (.int p3), .val (.int p4), .val (.ref b1), .val (.int f5), .val (.int t6), .unset, .unset] [(.int p4)])) _
      refine own_via (fun t k => XS.iconst X5.here hx rfl (hb hby at_80) k) ?_
      show own_Rch p.tables e below (T5.setTop (mkF m 81 #[.val (.int p1), .val (.int p2), .val (.int p3), .val (.int p4), .val (.ref b1), .val (.int f5), .val (.int t6), .unset, .unset] [(.int (2 : Int32)), (.int p4)])) _
      refine own_via (fun t k => XS.iand X5.here hx rfl (hb hby at_81) rfl k) ?_
      show own_Rch p.tables e below (T5.setTop (mkF m 82 #[.val (.int p1), .val (.int p2), .val (.int p3), .val (.int p4), .val (.ref b1), .val (.int f5), .val (.int t6), .unset, .unset] [(.int (p4 &&& (2 : Int32)))])) _
      by_cases c82 : (p4 &&& (2 : Int32)) = (0 : Int32)
      · refine own_via (fun t k => XS.ifYes X5.here hx rfl (pc0 := 82) (pc' := 100) rfl (hb hby at_82) rfl ((if0 _ _).trans (teq c82).1) (by decide) (by decide) k) ?_
        show own_Rch p.tables e below (T5.setTop (mkF m 100 #[.val (.int p1), .val (.int p2), .val (.int p3), .val (.int p4), .val (.ref b1), .val (.int f5), .val (.int t6), .unset, .unset] [])) _
        exact tl p1 p2 p3 p4 b1 f5 t6 _ _ _ aN X5 hx hZ hw hby hml hown Bd.returns Bd.notSynchronized e5 N5 (Nat.le_trans (Nat.le_trans (Nat.le_trans (Nat.le_trans (Nat.le_trans Z0 E1.1) (Keep.of_wr W2).1) (Keep.of_wr W3).1) (Keep.of_wr W4).1) (Keep.of_wr W5).1) Vl (S_N.ext O5.2) (V_N.ext O5.2) hf.1 ht.2 ht.1
      · refine own_via (fun t k => XS.ifNo X5.here hx rfl (hb hby at_82) rfl ((if0 _ _).trans (feq c82).1) k) ?_
        show own_Rch p.tables e below (T5.setTop (mkF m 85 #[.val (.int p1), .val (.int p2), .val (.int p3), .val (.int p4), .val (.ref b1), .val (.int f5), .val (.int t6), .unset, .unset] [])) _
        refine own_via (fun t k => XS.iload X5.here hx rfl (hb hby at_85) rfl k) ?_
        show own_Rch p.tables e below (T5.setTop (mkF m 87 #[.val (.int p1), .val (.int p2), .val (.int p3), .val (.int p4), .val (.ref b1), .val (.int f5), .val (.int t6), .unset, .unset] [(.int f5)])) _
        refine own_via (fun t k => XS.iconst X5.here hx rfl (hb hby at_87) k) ?_
        show own_Rch p.tables e below (T5.setTop (mkF m 88 #[.val (.int p1), .val (.int p2), .val (.int p3), .val (.int p4), .val (.ref b1), .val (.int f5), .val (.int t6), .unset, .unset] [(.int (3 : Int32)), (.int f5)])) _
        have c88 : ¬ (f5 < (3 : Int32)) := (fun q => by have z0_ : ¬ f5.toInt < 4 := fun q => c69 (Int32.lt_iff_toInt_lt.mpr q); have zq : f5.toInt < 3 := Int32.lt_iff_toInt_lt.mp q; omega)
        refine own_via (fun t k => XS.icmpYes X5.here hx rfl (pc0 := 88) (pc' := 100) rfl (hb hby at_88) rfl (flt c88).2.1 (by decide) (by decide) k) ?_
        show own_Rch p.tables e below (T5.setTop (mkF m 100 #[.val (.int p1), .val (.int p2), .val (.int p3), .val (.int p4), .val (.ref b1), .val (.int f5), .val (.int t6), .unset, .unset] [])) _
        exact tl p1 p2 p3 p4 b1 f5 t6 _ _ _ aN X5 hx hZ hw hby hml hown Bd.returns Bd.notSynchronized e5 N5 (Nat.le_trans (Nat.le_trans (Nat.le_trans (Nat.le_trans (Nat.le_trans Z0 E1.1) (Keep.of_wr W2).1) (Keep.of_wr W3).1) (Keep.of_wr W4).1) (Keep.of_wr W5).1) Vl (S_N.ext O5.2) (V_N.ext O5.2) hf.1 ht.2 ht.1
set_option maxRecDepth 65536 in
set_option maxHeartbeats 40000000 in
theorem comes_1 {Post : Tables → Env → Array Value → State → Outcome → State → Prop} (hpost : ∀ tb e args s v u, (limb_1_1.after args s (.returned v) u = true ∧ limb_1_2.after args s (.returned v) u = true ∧ True) → FrameEnd s (.returned v) u (Jvm.fieldLocs frame_1_writes args s ++ Jvm.arrayLocs frame_1_arrays args s ++ Jvm.staticLocs frame_1_statics s) 16 128 → Post tb e args s (.returned v) u) :
    ArmFor flags0 classFile x code maxLocals ret World_1 tables_1 room_1 Calls_1 rest_1 Pre_1 Post := by
  intro l hfl _ _ p e ha hc hk s m args below hf hA hF happ hP
  obtain ⟨hcalls, hrest, hpre⟩ := hP
  obtain ⟨-, -, -, hnamed, -, -, -, hat⟩ := (Spec.applies_iff hf).mp happ
  obtain ⟨hg, hn⟩ := and_e (Cond.before_iff.mp (show (Jvm.Cond.and given_1 narrow_1).before args s = true from hpre))
  obtain ⟨hcount, r0⟩ := and_e hg
  obtain ⟨v0, r1⟩ := and_e r0
  obtain ⟨v1, r2⟩ := and_e r1
  obtain ⟨v2, r3⟩ := and_e r2
  obtain ⟨w0, w1, w2, w3, rfl⟩ : ∃ w0 w1 w2 w3 : Value, args = #[w0, w1, w2, w3] := by
    have hs : args.size = 4 := by simpa [Cond.value, given_1] using hcount
    obtain ⟨L⟩ := args
    match L, hs with
    | [w0, w1, w2, w3], _ => exact ⟨w0, w1, w2, w3, rfl⟩
  have hw := fun d (hd : d ∈ tables_1) => atoms_spec (ws := Jvm.Cond.code x code maxLocals ret :: tables_1) hat d (List.mem_cons_of_mem _ hd)
  have hfit : Fit s := fun {y c} hc i hi => by
    obtain ⟨ha, rfl⟩ := Array.getElem?_eq_some_iff.mp hc
    have q := List.all_eq_true.mp ((Array.all_eq_true_iff_forall_mem.mp hF) _ (Array.getElem_mem ha)) i (List.mem_range.mpr hi)
    simpa [Array.getElem?_eq_getElem hi] using q
  obtain ⟨i0, ei0⟩ := is_v v0
  obtain rfl : w0 = (.int i0) := Option.some.inj ei0
  obtain ⟨i1, ei1⟩ := is_v v1
  obtain rfl : w1 = (.int i1) := Option.some.inj ei1
  obtain ⟨i2, ei2⟩ := is_v v2
  obtain rfl : w2 = (.int i2) := Option.some.inj ei2
  obtain ⟨i3, ei3⟩ := is_v r3
  obtain rfl : w3 = (.int i3) := Option.some.inj ei3
  obtain ⟨n1, r⟩ := and_e hn
  obtain ⟨n2, r⟩ := and_e r
  obtain ⟨n3, n4⟩ := and_e r
  obtain ⟨aN, evN⟩ := arr_v n1
  obtain ⟨cN, AN⟩ := Arr.start evN n1
  have sN := Sta.start evN (Or.inr ⟨hw _ (List.mem_of_getElem? (i := 4) rfl), hw _ (List.mem_of_getElem? (i := 7) rfl)⟩)
  obtain ⟨q1, q2⟩ := own_len (own_eqI n2) evN (IntBox.arrayAt_of AN.1 AN.2.1 AN.2.2)
  have q3 := (elem_in (own_eqI n3) evN rfl AN.1).2
  have q4 := (elem_in (own_eqI n4) evN rfl AN.1).2
  have vN : Arv s s.heap aN cN.cls .byte (2 : Int32) (([92, 78] : List Int32).map Value.int) (.int 0) := Arv.start hfit AN q1 q2 (by decide) rfl ⟨q3, q4, trivial⟩
  obtain ⟨n, o, h1, h2, h3, _, L, rfl, ⟨rfl, N⟩, hq⟩ := rm0 l s _ hw tables_1 i0 i1 i2 i3 aN cN.cls s.heap s.heap.size (Nat.le_refl _) (Old.start s) sN vN p e ha hc hk s m _ below hf ((Spec.applies_iff_loose hf).mp happ).1 ⟨rfl, State.Warmed39.refl s, rfl⟩ trivial
  refine ⟨n, _, h1, h2, h3, hpost _ _ _ _ _ _ ⟨Cond.after_iff.mpr rfl, Cond.after_iff.mpr (eq_i res_at (Term.int_eval (1)) rfl), trivial⟩ ⟨hq.1, hq.2.1, (hq.2.2.sift fun y hy => Or.inr (N y hy)).mono (by decide) (by decide)⟩⟩
theorem main_1_1 : Claimed_1_1 := comes_1 fun _ _ _ _ _ _ h hF => ⟨h.1, hF⟩
theorem main_1_2 : Claimed_1_2 := comes_1 fun _ _ _ _ _ _ h hF => ⟨h.2.1, hF⟩
end Jvm.Pilot.@@N@@
namespace Jvm.Pilot.@@N@@
open Jvm Jvm.ClassFile Sem Op Lib Jvm.Free Jvm.Stand Jvm.Pilot.@@N@@.Jvm.D
/-! MADE BY PROGRAM (witnessworld.py) out of the Statement's table words and the real class files: 9 classes; the members and pool entries that the words name. The judged class is class 1, her method 1. -/
namespace start1
open Jvm.ClassFile
def u (s : String) : CpInfo := .utf8 (stringToUtf16 s)
/-- a pool by its gaps: so many unusable entries, then the entry; so many at the end -/
def gap : Nat → List CpInfo → List CpInfo
  | 0, r => r
  | n + 1, r => .unusable :: gap n r
def poolList (es : List (Nat × CpInfo)) (last : Nat) : List CpInfo := es.foldr (fun e r => gap e.1 (e.2 :: r)) (gap last [])
def pool (es : List (Nat × CpInfo)) (last : Nat) : Array CpInfo := ⟨poolList es last⟩
def fileOf (pool : Array CpInfo) (this : Nat) (attrs : Array Attribute := #[]) (ms : Array MethodInfo := #[]) (fl : Nat := 33) (sup : Nat := 0) (ifs : Array Nat := #[]) (fds : Array FieldInfo := #[]) : ClassFile where
  minorVersion := 0
  majorVersion := 65
  constantPool := pool
  accessFlags := fl
  thisClass := this
  superClass := sup
  interfaces := ifs
  fields := fds
  methods := ms
  attributes := attrs
def plain (name : String) (sup : Option ClassId) : Class where
  name := name
  kind := .ordinary
  loader := none
  accessFlags := 33
  super := sup
  interfaces := #[]
  cf := none
  fields := #[]
  methods := #[]
  instanceTypes := #[]
  staticTypes := #[]
  resolved := #[]
  callSites := []
  init := .initialized
  statics := none
  mirror := none

def pool0 : Array CpInfo := pool [(5, u "<init>"), (0, u "()V"), (1, .class_ 10), (1, u "java/lang/Object")] 113

def k0m0 : Method := { name := "<init>", desc := "()V", sig := { parameters := [], returnType := none }, accessFlags := 1, code := none }
/-- java/lang/Object -/
def k0 : Class := { plain "java/lang/Object" none with
  accessFlags := 33
  interfaces := #[]
  cf := some (fileOf pool0 8 #[] #[{ accessFlags := 1, nameIndex := 5, descriptorIndex := 6, attributes := #[] }] 33 0 #[] #[])
  fields := #[]
  methods := #[k0m0]
  instanceTypes := #[]
  staticTypes := #[]
  resolved := Array.replicate 124 none
  statics := none }

def pool1 : Array CpInfo := pool [(2, .class_ 4), (1, u "java/lang/Object"), (0, u "<init>"), (0, u "()V"), (0, .integer 2147483647), (0, .methodref 9 10), (0, .class_ 11), (0, .nameAndType 12 13), (0, u "com/example/lastkey/lastkey/exec/TextFormat"), (0, u "isNull"), (0, u "([BII)Z"), (0, .fieldref 9 15), (0, .nameAndType 16 17), (0, u "NULL"), (0, u "[B"), (0, .methodref 9 19), (0, .nameAndType 12 20), (0, u "([BII[B)Z"), (0, .class_ 22), (0, u "com/example/lastkey/lastkey/exec/TextFormatIsNull379PinLaw"), (2, u "law"), (0, u "(IIII)Z")] 4

def k1m0 : Method := { name := "<init>", desc := "()V", sig := { parameters := [], returnType := none }, accessFlags := 1, code := none }
def k1c1 : Code := { maxStack := 4, maxLocals := 9, code := code, exceptionTable := #[], attributes := #[] }
def k1m1 : Method := { name := "law", desc := "(IIII)Z", sig := { parameters := [.int, .int, .int, .int], returnType := some .boolean }, accessFlags := 9, code := some k1c1 }
/-- com/example/lastkey/lastkey/exec/TextFormatIsNull379PinLaw -/
def k1 : Class := { plain "com/example/lastkey/lastkey/exec/TextFormatIsNull379PinLaw" (some 0) with
  accessFlags := 49
  interfaces := #[]
  cf := some (fileOf pool1 21 #[] #[{ accessFlags := 1, nameIndex := 5, descriptorIndex := 6, attributes := #[] }, { accessFlags := 9, nameIndex := 25, descriptorIndex := 26, attributes := #[] }] 49 2 #[] #[])
  fields := #[]
  methods := #[k1m0, k1m1]
  instanceTypes := #[]
  staticTypes := #[]
  resolved := Array.replicate 31 none
  statics := none }

def pool2 : Array CpInfo := pool [(2, .class_ 4), (1, u "java/lang/Object"), (0, u "<init>"), (0, u "()V"), (23, .class_ 32), (1, u "com/example/lastkey/lastkey/exec/TextFormat"), (0, u "NULL"), (0, u "[B"), (2, u "isNull"), (0, u "([BII)Z"), (1, u "([BII[B)Z")] 4

def k2m0 : Method := { name := "<init>", desc := "()V", sig := { parameters := [], returnType := none }, accessFlags := 2, code := none }
def k2c1 : Code := { maxStack := 3, maxLocals := 3, code := prog_61_method_2_code, exceptionTable := #[], attributes := #[] }
def k2m1 : Method := { name := "isNull", desc := "([BII)Z", sig := { parameters := [(.array .byte), .int, .int], returnType := some .boolean }, accessFlags := 8, code := some k2c1 }
def k2c2 : Code := { maxStack := 3, maxLocals := 5, code := prog_61_method_3_code, exceptionTable := #[], attributes := #[] }
def k2m2 : Method := { name := "isNull", desc := "([BII[B)Z", sig := { parameters := [(.array .byte), .int, .int, (.array .byte)], returnType := some .boolean }, accessFlags := 8, code := some k2c2 }
/-- com/example/lastkey/lastkey/exec/TextFormat -/
def k2 : Class := { plain "com/example/lastkey/lastkey/exec/TextFormat" (some 0) with
  accessFlags := 48
  interfaces := #[]
  cf := some (fileOf pool2 30 #[] #[{ accessFlags := 2, nameIndex := 5, descriptorIndex := 6, attributes := #[] }, { accessFlags := 8, nameIndex := 37, descriptorIndex := 38, attributes := #[] }, { accessFlags := 8, nameIndex := 37, descriptorIndex := 40, attributes := #[] }] 48 2 #[] #[{ accessFlags := 24, nameIndex := 33, descriptorIndex := 34, attributes := #[] }])
  fields := #[{ name := "NULL", type := (.array .byte), accessFlags := 24, slot := 0, constantValue := 0 }]
  methods := #[k2m0, k2m1, k2m2]
  instanceTypes := #[]
  staticTypes := #[(.array .byte)]
  resolved := Array.replicate 45 none
  statics := some 0 }

def pool3 : Array CpInfo := pool [(1, u "java/lang/Cloneable"), (0, .class_ 1), (0, u "java/lang/Object"), (0, .class_ 3)] 3

/-- java/lang/Cloneable -/
def k3 : Class := { plain "java/lang/Cloneable" (some 0) with
  accessFlags := 1537
  interfaces := #[]
  cf := some (fileOf pool3 2 #[] #[] 1537 4 #[] #[])
  fields := #[]
  methods := #[]
  instanceTypes := #[]
  staticTypes := #[]
  resolved := Array.replicate 8 none
  statics := none }

def pool4 : Array CpInfo := pool [(1, u "java/io/Serializable"), (0, .class_ 1), (0, u "java/lang/Object"), (0, .class_ 3)] 3

/-- java/io/Serializable -/
def k4 : Class := { plain "java/io/Serializable" (some 0) with
  accessFlags := 1537
  interfaces := #[]
  cf := some (fileOf pool4 2 #[] #[] 1537 4 #[] #[])
  fields := #[]
  methods := #[]
  instanceTypes := #[]
  staticTypes := #[]
  resolved := Array.replicate 8 none
  statics := none }

/-- the primitive byte -/
def k5 : Class := { plain "byte" none with kind := .primitive 'B', accessFlags := 0x411 }
/-- [B -/
def k6 : Class := { plain "[B" (some 0) with kind := .array 5 .byte, interfaces := #[3, 4], accessFlags := 1041 }

/-- the primitive int -/
def k7 : Class := { plain "int" none with kind := .primitive 'I', accessFlags := 0x411 }
/-- [I -/
def k8 : Class := { plain "[I" (some 0) with kind := .array 7 .int, interfaces := #[3, 4], accessFlags := 1041 }

def heap : Heap := #[{ cls := 2, slots := #[.ref 1], vm := .statics 2 },
  { cls := 6, slots := #[.int 92, .int 78], vm := .none }]
def classes : Array Class := #[k0, k1, k2, k3, k4, k5, k6, k7, k8]
def interned : List (Array UInt16 × Addr) := []
def slotsUsed : Nat := 3
def theMethod : MethodId := ⟨1, 1⟩
def args0 : Array Value := #[.int 5, .int 5, .int 5, .int 5]
def aboutOver (below : List Frame) : State where
  vm := { classes := classes, interned := interned.toArray }
  heap := heap
  slotsUsed := slotsUsed
  threads := #[{ frames := .invoking theMethod args0 :: below }]
def below0 : List Frame := [.native { method := ⟨0, 0⟩, args := #[] }]
def about1 : State := aboutOver below0
def p0 : Program := .bare "" "" ""
def e0 : Env := launch0.env 0 0 0
theorem w_frames : about1.frames = Frame.invoking theMethod args0 :: below0 := rfl
set_option maxRecDepth 65536 in
theorem w_args : argsFit about1.vm theMethod args0 = true := by decide +kernel
set_option maxRecDepth 65536 in
theorem w_heap : heapFits about1 = true := by decide +kernel
set_option maxRecDepth 65536 in
theorem w_runnable : about1.curStatus? = some .runnable := by decide +kernel
set_option maxRecDepth 65536 in
theorem w_alone : about1.alone = true := by decide +kernel
set_option maxRecDepth 65536 in
theorem w_named : about1.methodNamed? x = some theMethod := by decide +kernel
set_option maxRecDepth 65536 in
theorem w_hears : about1.hears theMethod below0 = true := by decide +kernel
set_option maxRecDepth 65536 in
theorem w_ripe : about1.ripe theMethod args0 below0 = true := by decide +kernel
theorem w_running : about1.status = .running := rfl
set_option maxRecDepth 65536 in
theorem w_room : about1.hasRoom e0.platform room_1 = true :=
  launch0.hasRoom_least _ room_1 (by decide +kernel) (by decide +kernel) (by decide +kernel) (by decide +kernel) (by decide +kernel) (by decide +kernel)
theorem allAtoms_all (ts : List Jvm.Cond) (a : Array Jvm.Value) (st : Jvm.State) : (allAtoms ts).before a st = ts.all (fun c => c.before a st) := by
  induction ts with
  | nil => rfl
  | cons c t ih =>
    show (Jvm.Cond.and c (allAtoms t)).before a st = _
    rw [Jvm.Cond.before_and, ih, List.all_cons]
def words1 : List Jvm.Cond := Jvm.Cond.code x code maxLocals ret :: tables_1
/-- a 'code' word, met by the world's own term for the bytes: nothing is compared byte by byte -/
theorem code_word {y : MethodName} {bytes : ByteArray} {mx : Nat} {rt : Option FieldType} {a : Array Value} {s : State} {m : MethodId} {meth : Method} {c : Code} (h1 : s.methodNamed? y = some m) (h2 : s.vm.method? m = some meth) (h3 : meth.code = some c) (h4 : c.code = bytes)
    (h5 : (c.maxLocals == mx && c.exceptionTable.isEmpty && decide (c.maxStack ≤ mostOperands) && decide (meth.sig.returnType = rt) && !meth.locks && decide (parseMethodDescriptor y.desc = some meth.sig)) = true) : (Jvm.Cond.code y bytes mx rt).before a s = true := by
  simp only [Bool.and_eq_true, beq_iff_eq, Bool.not_eq_true', decide_eq_true_eq] at h5
  obtain ⟨⟨⟨⟨⟨g1, g2⟩, g3⟩, g4⟩, g5⟩, g6⟩ := h5
  simp [Cond.before, Cond.holds, Cond.value, h1, h2, h3, h4, g1, g2, g3, g4, g5, g6]
def isCode : Jvm.Cond → Bool
  | .code _ _ _ _ => true
  | _ => false
theorem all_split {L : List Jvm.Cond} {P : Jvm.Cond → Bool} (h1 : L.all (fun c => isCode c || P c) = true) (h2 : ∀ c ∈ L.filter isCode, P c = true) : L.all P = true := by
  refine List.all_eq_true.mpr fun c hc => ?_
  have h := List.all_eq_true.mp h1 c hc
  rcases Bool.eq_false_or_eq_true (isCode c) with hi | hi
  · exact h2 c (List.mem_filter.mpr ⟨hc, hi⟩)
  · simpa [hi] using h
set_option maxRecDepth 65536 in
theorem w_c0 : (Jvm.Cond.code x code maxLocals ret).before args0 about1 = true := code_word (m := ⟨1, 1⟩) (meth := k1m1) (c := k1c1) (by decide +kernel) rfl rfl rfl (by decide +kernel)
set_option maxRecDepth 65536 in
theorem w_c1 : (Jvm.Cond.code ({ cls := "com/example/lastkey/lastkey/exec/TextFormat", name := "isNull", desc := "([BII)Z" } : Jvm.MethodName) prog_61_method_2_code (3 : Nat) (Option.some Jvm.ClassFile.FieldType.boolean)).before args0 about1 = true := code_word (m := ⟨2, 1⟩) (meth := k2m1) (c := k2c1) (by decide +kernel) rfl rfl rfl (by decide +kernel)
set_option maxRecDepth 65536 in
theorem w_c2 : (Jvm.Cond.code ({ cls := "com/example/lastkey/lastkey/exec/TextFormat", name := "isNull", desc := "([BII[B)Z" } : Jvm.MethodName) prog_61_method_3_code (5 : Nat) (Option.some Jvm.ClassFile.FieldType.boolean)).before args0 about1 = true := code_word (m := ⟨2, 2⟩) (meth := k2m2) (c := k2c2) (by decide +kernel) rfl rfl rfl (by decide +kernel)
def codes1 : List Jvm.Cond := [Jvm.Cond.code x code maxLocals ret, Jvm.Cond.code ({ cls := "com/example/lastkey/lastkey/exec/TextFormat", name := "isNull", desc := "([BII)Z" } : Jvm.MethodName) prog_61_method_2_code (3 : Nat) (Option.some Jvm.ClassFile.FieldType.boolean), Jvm.Cond.code ({ cls := "com/example/lastkey/lastkey/exec/TextFormat", name := "isNull", desc := "([BII[B)Z" } : Jvm.MethodName) prog_61_method_3_code (5 : Nat) (Option.some Jvm.ClassFile.FieldType.boolean)]
set_option maxRecDepth 65536 in
theorem codes_eq : words1.filter isCode = codes1 := rfl
theorem w_codes : ∀ c ∈ words1.filter isCode, c.before args0 about1 = true := by
  rw [codes_eq]
  intro c hc
  simp only [codes1, List.mem_cons, List.not_mem_nil, or_false] at hc
  rcases hc with rfl | rfl | rfl
  · exact w_c0
  · exact w_c1
  · exact w_c2
set_option maxRecDepth 65536 in
theorem w_t1 : words1.all (fun c => isCode c || c.before args0 about1) = true := by decide +kernel
theorem w_tables : (allAtoms (Jvm.Cond.code x code maxLocals ret :: tables_1)).before args0 about1 = true := by
  rw [allAtoms_all]
  show words1.all (fun c => c.before args0 about1) = true
  refine all_split ?_ w_codes
  rw [w_t1]
set_option maxRecDepth 65536 in
theorem w_case : (Jvm.Cond.and given_1 narrow_1).before args0 about1 = true := by decide +kernel
theorem w_applies : (headSpec (Jvm.Cond.code x code maxLocals ret :: tables_1) room_1).applies x e0.platform about1 = true :=
  (Spec.applies_iff w_frames).mpr ⟨w_running, w_runnable, w_alone, w_named, w_hears, w_ripe, w_room, w_tables⟩
theorem atStart : AtStart classFile x code maxLocals ret World_1 tables_1 room_1 Calls_1 rest_1 Pre_1 launch0 p0 e0 about1 theMethod args0 below0 :=
  ⟨lists_1, trivial, launch0.admits_env _ _ _, launch0.least_env, fairChoices_fair.cas, fairChoices_fair.clock, w_frames, w_args, w_heap, w_applies, trivial, trivial, w_case⟩
end start1
theorem witness_1 : WitnessClaimed_1 := ⟨start1.p0, start1.e0, start1.about1, start1.theMethod, start1.args0, start1.below0, start1.atStart⟩
end Jvm.Pilot.@@N@@
