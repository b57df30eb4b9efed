import JvmDerived
import JvmDerived.Pilot.@@N@@Statement
import JvmDerived.Pilot.@@N@@Code
set_option linter.unusedVariables false
set_option linter.unusedSimpArgs false
namespace Jvm.RoadKit
open Sem ClassFile Op Lib Jvm.Stand Jvm.Free Jvm.LawKit
section New
variable {p : Program} {l : Launch} {e : Env} {R : Room} {s : State} {m : MethodId} {args : Array Value} {below : List Frame} {meth : Method} {c : Code} {T : State} {locs : List Loc} {cells slots : Nat}
theorem retI (X : Stand p l e R s m args below meth c T locs cells slots) (hx : p.tables.exec = Jvm.exec) {pc : Nat} {Ls : Array Slot} {z : Int32} {rest : List Value} (hret : meth.sig.returnType = some .int) (hd : decode c.code pc = .ok (.ireturn, 1)) {fs : List Frame}
    (hl : ∀ (f : JFrame) (acts : List Action), f.method = m → f.locked = none → f.entered = [] → (doReturn e (T.setTop f) acts (some (.int z))).1 = T.setFrames fs) : Steps p.tables e below (T.setTop (mkF m pc Ls (.int z :: rest))) (T.setFrames fs) := by
  have hm' : T.vm.method? m = some meth := X.method'
  have hn : narrow .int (.int z) = .int z := rfl
  show Steps p.tables e below (T.setTop { method := m, pc := pc, locals := Ls, stack := _ :: rest, locked := none }) _
  jvm_step X.here [X.here.top, hx, hd, hm', hret, hn]
  first | (intro acts; rw [hl _ acts rfl rfl rfl]) | rw [hl _ _ rfl rfl rfl]
  exact Steps.refl _
end New
end Jvm.RoadKit
namespace Jvm.Pilot.@@N@@
open Jvm Jvm.ClassFile Sem Op Lib Jvm.Free Jvm.Stand Jvm.LawKit Jvm.RoadKit Bundle Jvm.Pilot.@@N@@.Jvm.D
section OwnKit
variable {p : Program} {l : Launch} {e : Env} {R : Room} {s : State} {m : MethodId} {args : Array Value} {below : List Frame} {meth : Method} {c : Code} {T : State} {locs : List Loc} {cells slots : Nat}
def own_Rch (tb : Tables) (e : Env) (below : List Frame) (S : State) (Φ : Outcome → State → Prop) : Prop := ∃ s₂ o, Steps tb e below S s₂ ∧ s₂.status = .running ∧ Ended s₂ below o ∧ Φ o s₂
theorem own_via {tb : Tables} {S S' : State} {Φ : Outcome → State → Prop} (h : ∀ t, Steps tb e below S' t → Steps tb e below S t) (k : own_Rch tb e below S' Φ) : own_Rch tb e below S Φ := by
  obtain ⟨s₂, o, k1, k2⟩ := k
  exact ⟨s₂, o, h _ k1, k2⟩
abbrev own_End (s : State) (Q : Option Value → Heap → List Loc → Prop) (k n : Nat) : Outcome → State → Prop := fun o U' => ∃ v L, o = .returned v ∧ Q v U'.heap L ∧ FrameEnd s o U' L k n
theorem own_fin (X : Stand p l e R s m args below meth c T locs cells slots) (hx : p.tables.exec = Jvm.exec) {pc : Nat} {Ls : Array Slot} {w : Value} {t : FieldType} {i : Instr} {rest : List Value} (hret : meth.sig.returnType = some t) (hlk : meth.locks = false) (hnw : narrow t w = w)
    (hi : (i = .ireturn ∧ (t = .int ∨ t = .boolean ∨ t = .byte ∨ t = .char ∨ t = .short) ∧ ∃ z, w = .int z) ∨ (i = .lreturn ∧ t = .long ∧ ∃ z, w = .long z) ∨ (i = .dreturn ∧ t = .double ∧ ∃ z, w = .double z) ∨ (i = .freturn ∧ t = .float ∧ ∃ z, w = .float z) ∨ (i = .areturn ∧ t.isReference = true ∧ w.isRef = true))
    (hd : decode c.code pc = .ok (i, 1)) {Q : Option Value → Heap → List Loc → Prop} {k n : Nat} (hk : cells ≤ k) (hn : slots ≤ n) (hQ : Q (some w) T.heap locs) : own_Rch p.tables e below (T.setTop (mkF m pc Ls (w :: rest))) (own_End s Q k n) := by
  obtain ⟨fs, hr, hrun, hended, hW, hsame⟩ := X.leave (v := some w) (fun h => by rw [hret] at h; cases h) hlk
  exact ⟨_, _, retOut X hx hret hnw hi hd hr, hrun, hended, _, _, rfl, hQ, ⟨_, rfl⟩, hW, hsame.mono hk hn⟩
theorem own_fin0 (X : Stand p l e R s m args below meth c T locs cells slots) (hx : p.tables.exec = Jvm.exec) {pc : Nat} {Ls : Array Slot} (hret : meth.sig.returnType = none) (hlk : meth.locks = false)
    (hd : decode c.code pc = .ok (.return_, 1)) {Q : Option Value → Heap → List Loc → Prop} {k n : Nat} (hk : cells ≤ k) (hn : slots ≤ n) (hQ : Q none T.heap locs) : own_Rch p.tables e below (T.setTop (mkF m pc Ls [])) (own_End s Q k n) := by
  obtain ⟨fs, hr, hrun, hended, hW, hsame⟩ := X.leave (v := none) (fun _ => rfl) hlk
  exact ⟨_, _, X.returnOut hx hret hd hr, hrun, hended, _, _, rfl, hQ, ⟨_, rfl⟩, hW, hsame.mono hk hn⟩
theorem own_lrem {g : JFrame} {target : State} (X : Stand p l e R s m args below meth c T locs cells slots) (hx : p.tables.exec = Jvm.exec) (hg : g.method = m) {x y : Int64} {rest : List Value} (hd : decode c.code g.pc = .ok (.lrem, 1)) (hs : g.stack = .long y :: .long x :: rest) (hy : y ≠ 0)
    (hr : Steps p.tables e below (T.setTop { g with pc := g.pc + 1, stack := .long (x % y) :: rest }) target) : Steps p.tables e below (T.setTop g) target := by
  have q : x - x / y * y = x % y := lrem_mod x y
  exact XS.lrem X.here hx hg hd hs hy (by rw [q]; exact hr)
end OwnKit
def own_Pure (r : Value) (h0 : Heap) (n0 : Nat) (v : Option Value) (h : Heap) (L : List Loc) : Prop := v = some r ∧ Fr n0 L ∧ h = h0
def own_at (l : List Int32) (j : Int32) : Int32 := l.getD j.toNatClampNeg 0
theorem own_getI (l : List Int32) : ∀ k : Nat, (l.map Value.int).getD k (.int 0) = .int (l.getD k 0) := by
  induction l with
  | nil => intro k; rfl
  | cons a t ih => intro k; cases k with
    | zero => rfl
    | succ k => exact ih k
theorem own_in (p2 p3 n i b : Int32) (h0 : 0 ≤ p2.toInt) (h1 : p3.toInt ≤ b.toInt) (h2 : 0 ≤ p3.toInt) (c : p3 - p2 = n) (k0 : 0 ≤ i.toInt) (k1 : i.toInt < n.toInt) : ¬ (p2 + i) < 0 ∧ (p2 + i) < b := by
  have e1 := c_isub p3 p2
  have e2 := c_iadd p2 i
  rw [c] at e1
  have r1 := rng32 p2
  have r2 := rng32 p3
  have r3 := rng32 (p2 + i)
  have r4 := rng32 n
  have a2 : (0 : Int32).toInt = 0 := rfl
  simp only [Int32.lt_iff_toInt_lt, a2]
  omega
theorem own_inz (p2 p3 n b : Int32) (h0 : 0 ≤ p2.toInt) (h1 : p3.toInt ≤ b.toInt) (h2 : 0 ≤ p3.toInt) (c : p3 - p2 = n) (k1 : 0 < n.toInt) : ¬ p2 < 0 ∧ p2 < b := by
  have e1 := c_isub p3 p2
  rw [c] at e1
  have r1 := rng32 p2
  have r2 := rng32 p3
  have r4 := rng32 n
  have a2 : (0 : Int32).toInt = 0 := rfl
  simp only [Int32.lt_iff_toInt_lt, a2]
  omega
theorem own_small (x : Int32) (h0 : -128 ≤ x.toInt) (h1 : x.toInt < 128) : x.toInt8.toInt32 = x := by
  obtain ⟨e, e1, e2⟩ := c_i2b x
  exact Int32.toInt_inj.mp (by omega)
theorem own_idem (x : Int32) : x.toInt8.toInt32.toInt8.toInt32 = x.toInt8.toInt32 := by
  obtain ⟨e, e1, e2⟩ := c_i2b x
  exact own_small _ e1 e2
theorem own_fitB {x : Int32} (h : fits .byte (.int x) = true) : x.toInt8.toInt32 = x := by
  obtain ⟨h1, h2⟩ := rng_byte h
  have a : (-128 : Int32).toInt = -128 := rfl
  have b : (127 : Int32).toInt = 127 := rfl
  simp only [Int32.lt_iff_toInt_lt, a, b] at h1 h2
  exact own_small x (by omega) (by omega)
theorem own_nar (x : Int32) (h : x.toInt8.toInt32 = x) : narrow .byte (.int x) = .int x := by
  have e : narrow .byte (.int x) = .int x.toInt8.toInt32 := rfl
  rw [e, h]
theorem own_mod5 (p2 : Int32) (h : 0 ≤ p2.toInt) : ¬ (p2 % (5 : Int32)) < 0 ∧ (p2 % (5 : Int32)) < (5 : Int32) := by
  have q := (c_irem p2 5 5 rfl).1 h
  have a0 : (0 : Int32).toInt = 0 := rfl
  have a5 : (5 : Int32).toInt = 5 := rfl
  simp only [Int32.lt_iff_toInt_lt, q, a0, a5]
  omega
theorem own_fr (x : Int32) : 0 ≤ ((x &&& (2147483647 : Int32)) % (6 : Int32)).toInt ∧ ((x &&& (2147483647 : Int32)) % (6 : Int32)).toInt ≤ 5 := by
  have h := c_and x 2147483647 (by decide)
  have q := (c_irem (x &&& (2147483647 : Int32)) 6 6 rfl).1 h.1
  rw [q]; omega
theorem own_six (n : Int32) (h : 0 ≤ n.toInt ∧ n.toInt ≤ 5) : n = (0 : Int32) ∨ n = (1 : Int32) ∨ n = (2 : Int32) ∨ n = (3 : Int32) ∨ n = (4 : Int32) ∨ n = (5 : Int32) := by
  have : n.toInt = 0 ∨ n.toInt = 1 ∨ n.toInt = 2 ∨ n.toInt = 3 ∨ n.toInt = 4 ∨ n.toInt = 5 := by omega
  rcases this with q | q | q | q | q | q
  · exact Or.inl (Int32.toInt_inj.mp q)
  · exact Or.inr (Or.inl (Int32.toInt_inj.mp q))
  · exact Or.inr (Or.inr (Or.inl (Int32.toInt_inj.mp q)))
  · exact Or.inr (Or.inr (Or.inr (Or.inl (Int32.toInt_inj.mp q))))
  · exact Or.inr (Or.inr (Or.inr (Or.inr (Or.inl (Int32.toInt_inj.mp q)))))
  · exact Or.inr (Or.inr (Or.inr (Or.inr (Or.inr (Int32.toInt_inj.mp q)))))
theorem own_pi (f i : Int32) (h : 0 ≤ f.toInt ∧ f.toInt ≤ 5) (h0 : 0 ≤ i.toInt) (h1 : i.toInt ≤ 5) : 0 ≤ (f + i).toInt := by
  have w := c_iadd f i
  have r := rng32 (f + i)
  omega
def QP (h0 : Heap) (n0 : Nat) (v : Option Value) (h : Heap) (L : List Loc) : Prop := ∃ z : Int32, v = some (.int z) ∧ Fr n0 L ∧ h = h0 ∧ z.toInt8.toInt32 = z
theorem ef_1 (m : MethodId) (x0 : Addr) (x1 : Int32) (x2 : Int32) (x3 : Int32) (x4 : Int64) : entryFrame m #[(.ref x0), (.int x1), (.int x2), (.int x3), (.long x4)] 9 = mkF m 0 #[.val (.ref x0), .val (.int x1), .val (.int x2), .val (.int x3), .val (.long x4), .second, .unset, .unset, .unset] [] := by first | (simp [entryFrame, mkF, argsToLocals, Value.category]; done) | rfl
theorem pn_com_example_lastkey_lastkey_exec_TextFormatIsNullPinLaw : plainName "com/example/lastkey/lastkey/exec/TextFormatIsNullPinLaw" = true := by first | (simp [plainName, overriddenIn]; done) | decide +kernel
theorem d1_0 : decode method_2_code 0 = .ok (.iload_n 2, 1) := by decide +kernel
theorem d1_1 : decode method_2_code 1 = .ok (.iconst 2, 1) := by decide +kernel
theorem d1_2 : decode method_2_code 2 = .ok (.iload_n 3, 1) := by decide +kernel
theorem d1_3 : decode method_2_code 3 = .ok (.imul, 1) := by decide +kernel
theorem d1_4 : decode method_2_code 4 = .ok (.iushr, 1) := by decide +kernel
theorem d1_5 : decode method_2_code 5 = .ok (.iconst 3, 1) := by decide +kernel
theorem d1_6 : decode method_2_code 6 = .ok (.iand, 1) := by decide +kernel
theorem d1_7 : decode method_2_code 7 = .ok (.istore 6, 2) := by decide +kernel
theorem d1_9 : decode method_2_code 9 = .ok (.iload_n 2, 1) := by decide +kernel
theorem d1_10 : decode method_2_code 10 = .ok (.bipush 10, 2) := by decide +kernel
theorem d1_12 : decode method_2_code 12 = .ok (.iconst 3, 1) := by decide +kernel
theorem d1_13 : decode method_2_code 13 = .ok (.iload_n 3, 1) := by decide +kernel
theorem d1_14 : decode method_2_code 14 = .ok (.imul, 1) := by decide +kernel
theorem d1_15 : decode method_2_code 15 = .ok (.iadd, 1) := by decide +kernel
theorem d1_16 : decode method_2_code 16 = .ok (.iushr, 1) := by decide +kernel
theorem d1_17 : decode method_2_code 17 = .ok (.bipush 7, 2) := by decide +kernel
theorem d1_19 : decode method_2_code 19 = .ok (.iand, 1) := by decide +kernel
theorem d1_20 : decode method_2_code 20 = .ok (.istore 7, 2) := by decide +kernel
theorem d1_22 : decode method_2_code 22 = .ok (.aload_n 0, 1) := by decide +kernel
theorem d1_23 : decode method_2_code 23 = .ok (.iload_n 1, 1) := by decide +kernel
theorem d1_24 : decode method_2_code 24 = .ok (.iconst 5, 1) := by decide +kernel
theorem d1_25 : decode method_2_code 25 = .ok (.irem, 1) := by decide +kernel
theorem d1_26 : decode method_2_code 26 = .ok (.baload, 1) := by decide +kernel
theorem d1_27 : decode method_2_code 27 = .ok (.istore 8, 2) := by decide +kernel
theorem d1_29 : decode method_2_code 29 = .ok (.iload 6, 2) := by decide +kernel
theorem d1_31 : decode method_2_code 31 = .ok (.iconst 2, 1) := by decide +kernel
theorem d1_32 : decode method_2_code 32 = .ok (.if_icmp .ne 12, 3) := by decide +kernel
theorem d1_35 : decode method_2_code 35 = .ok (.iload 8, 2) := by decide +kernel
theorem d1_37 : decode method_2_code 37 = .ok (.iconst 1, 1) := by decide +kernel
theorem d1_38 : decode method_2_code 38 = .ok (.iload 7, 2) := by decide +kernel
theorem d1_40 : decode method_2_code 40 = .ok (.ishl, 1) := by decide +kernel
theorem d1_41 : decode method_2_code 41 = .ok (.ixor, 1) := by decide +kernel
theorem d1_42 : decode method_2_code 42 = .ok (.i2b, 1) := by decide +kernel
theorem d1_43 : decode method_2_code 43 = .ok (.ireturn, 1) := by decide +kernel
theorem d1_44 : decode method_2_code 44 = .ok (.iload 6, 2) := by decide +kernel
theorem d1_46 : decode method_2_code 46 = .ok (.iconst 3, 1) := by decide +kernel
theorem d1_47 : decode method_2_code 47 = .ok (.if_icmp .ne 13, 3) := by decide +kernel
theorem d1_50 : decode method_2_code 50 = .ok (.lload 4, 2) := by decide +kernel
theorem d1_52 : decode method_2_code 52 = .ok (.bipush 8, 2) := by decide +kernel
theorem d1_54 : decode method_2_code 54 = .ok (.iload_n 3, 1) := by decide +kernel
theorem d1_55 : decode method_2_code 55 = .ok (.imul, 1) := by decide +kernel
theorem d1_56 : decode method_2_code 56 = .ok (.lushr, 1) := by decide +kernel
theorem d1_57 : decode method_2_code 57 = .ok (.l2i, 1) := by decide +kernel
theorem d1_58 : decode method_2_code 58 = .ok (.i2b, 1) := by decide +kernel
theorem d1_59 : decode method_2_code 59 = .ok (.ireturn, 1) := by decide +kernel
theorem d1_60 : decode method_2_code 60 = .ok (.iload 8, 2) := by decide +kernel
theorem d1_62 : decode method_2_code 62 = .ok (.ireturn, 1) := by decide +kernel
set_option maxRecDepth 65536 in
set_option maxHeartbeats 40000000 in
theorem rm1 (l : Launch) (Z : State) (a0 : Array Value) (hw : ∀ d ∈ tables_1, d.before a0 Z = true) (ws : List Jvm.Cond) (a1 : Addr) (p2 p3 p4 : Int32) (q5 : Int64) (l_ : List Int32) (kb : ClassId) (h0 : Heap) (n0 : Nat) (V : Arv Z h0 a1 kb .byte (5 : Int32) (l_.map Value.int) (.int 0)) (hp : 0 ≤ p2.toInt) :
    MetFree l (⟨"com/example/lastkey/lastkey/exec/TextFormatIsNullPinLaw", "pick", "([BIIIJ)B"⟩ : MethodName) (head1 (Jvm.Cond.code (⟨"com/example/lastkey/lastkey/exec/TextFormatIsNullPinLaw", "pick", "([BIIIJ)B"⟩ : MethodName) method_2_code 9 (some .byte) :: ws) ({ frames := 0, cells := 0, slots := 0, locals := 0 } : Room)) (fun a U => a = #[(.ref a1), (.int p2), (.int p3), (.int p4), (.long q5)] ∧ Z.Warmed39 U.vm ∧ U.heap = h0) (fun _ _ _ _ _ => True) (fun _ U o U' => ∃ v L, o = .returned v ∧ QP h0 n0 v U'.heap L ∧ FrameEnd U o U' L ({ frames := 0, cells := 0, slots := 0, locals := 0 } : Room).cells ({ frames := 0, cells := 0, slots := 0, locals := 0 } : Room).slots) := by
  refine MetFree.of_bodySF (plainFor_of_name pn_com_example_lastkey_lastkey_exec_TextFormatIsNullPinLaw) hisR ?_
  intro p e s m args below meth c s₁ Bd hml0 hP hK
  obtain ⟨rfl, hZ, hh⟩ := hP
  have hx := Bd.exec
  have hby := Bd.bytes
  have hml : c.maxLocals = 9 := hml0
  have hown : s.vm.findClass "com/example/lastkey/lastkey/exec/TextFormatIsNullPinLaw" = some m.cls := findClass_of_methodNamed Bd.named
  have hnm := (name_of_methodNamed Bd.named Bd.method).1
  have X0 : Stand p l e ({ frames := 0, cells := 0, slots := 0, locals := 0 } : Room) s m #[(.ref a1), (.int p2), (.int p3), (.int p4), (.long q5)] below meth c s₁ [] 0 0 := Stand.of_body Bd
  have e0 : s₁.heap = h0 := by rw [← hh, Bd.state]; rfl
  have N0 := Fr.nil n0
  show own_Rch p.tables e below (s₁.setTop (entryFrame m #[(.ref a1), (.int p2), (.int p3), (.int p4), (.long q5)] 9)) (own_End s (QP h0 n0) ({ frames := 0, cells := 0, slots := 0, locals := 0 } : Room).cells ({ frames := 0, cells := 0, slots := 0, locals := 0 } : Room).slots)
  refine own_via (fun t k => castTop (ef_1 m a1 p2 p3 p4 q5) k) ?_
  show own_Rch p.tables e below (s₁.setTop (mkF m 0 #[.val (.ref a1), .val (.int p2), .val (.int p3), .val (.int p4), .val (.long q5), .second, .unset, .unset, .unset] [])) _
  refine own_via (fun t k => XS.iloadN X0.here hx rfl (hb hby d1_0) rfl k) ?_
  show own_Rch p.tables e below (s₁.setTop (mkF m 1 #[.val (.ref a1), .val (.int p2), .val (.int p3), .val (.int p4), .val (.long q5), .second, .unset, .unset, .unset] [(.int p3)])) _
  refine own_via (fun t k => XS.iconst X0.here hx rfl (hb hby d1_1) k) ?_
  show own_Rch p.tables e below (s₁.setTop (mkF m 2 #[.val (.ref a1), .val (.int p2), .val (.int p3), .val (.int p4), .val (.long q5), .second, .unset, .unset, .unset] [(.int (2 : Int32)), (.int p3)])) _
  refine own_via (fun t k => XS.iloadN X0.here hx rfl (hb hby d1_2) rfl k) ?_
  show own_Rch p.tables e below (s₁.setTop (mkF m 3 #[.val (.ref a1), .val (.int p2), .val (.int p3), .val (.int p4), .val (.long q5), .second, .unset, .unset, .unset] [(.int p4), (.int (2 : Int32)), (.int p3)])) _
  refine own_via (fun t k => XS.imul X0.here hx rfl (hb hby d1_3) rfl k) ?_
  show own_Rch p.tables e below (s₁.setTop (mkF m 4 #[.val (.ref a1), .val (.int p2), .val (.int p3), .val (.int p4), .val (.long q5), .second, .unset, .unset, .unset] [(.int ((2 : Int32) * p4)), (.int p3)])) _
  refine own_via (fun t k => XS.iushr X0.here hx rfl (hb hby d1_4) rfl k) ?_
  show own_Rch p.tables e below (s₁.setTop (mkF m 5 #[.val (.ref a1), .val (.int p2), .val (.int p3), .val (.int p4), .val (.long q5), .second, .unset, .unset, .unset] [(.int ((p3.toUInt32 >>> (((2 : Int32) * p4) &&& 31).toUInt32).toInt32))])) _
  refine own_via (fun t k => XS.iconst X0.here hx rfl (hb hby d1_5) k) ?_
  show own_Rch p.tables e below (s₁.setTop (mkF m 6 #[.val (.ref a1), .val (.int p2), .val (.int p3), .val (.int p4), .val (.long q5), .second, .unset, .unset, .unset] [(.int (3 : Int32)), (.int ((p3.toUInt32 >>> (((2 : Int32) * p4) &&& 31).toUInt32).toInt32))])) _
  refine own_via (fun t k => XS.iand X0.here hx rfl (hb hby d1_6) rfl k) ?_
  show own_Rch p.tables e below (s₁.setTop (mkF m 7 #[.val (.ref a1), .val (.int p2), .val (.int p3), .val (.int p4), .val (.long q5), .second, .unset, .unset, .unset] [(.int (((p3.toUInt32 >>> (((2 : Int32) * p4) &&& 31).toUInt32).toInt32) &&& (3 : Int32)))])) _
  refine own_via (fun t k => XS.istore X0.here hx rfl (hb hby d1_7) rfl (l' := #[.val (.ref a1), .val (.int p2), .val (.int p3), .val (.int p4), .val (.long q5), .second, .val (.int (((p3.toUInt32 >>> (((2 : Int32) * p4) &&& 31).toUInt32).toInt32) &&& (3 : Int32))), .unset, .unset]) rfl k) ?_
  show own_Rch p.tables e below (s₁.setTop (mkF m 9 #[.val (.ref a1), .val (.int p2), .val (.int p3), .val (.int p4), .val (.long q5), .second, .val (.int (((p3.toUInt32 >>> (((2 : Int32) * p4) &&& 31).toUInt32).toInt32) &&& (3 : Int32))), .unset, .unset] [])) _
  refine own_via (fun t k => XS.iloadN X0.here hx rfl (hb hby d1_9) rfl k) ?_
  show own_Rch p.tables e below (s₁.setTop (mkF m 10 #[.val (.ref a1), .val (.int p2), .val (.int p3), .val (.int p4), .val (.long q5), .second, .val (.int (((p3.toUInt32 >>> (((2 : Int32) * p4) &&& 31).toUInt32).toInt32) &&& (3 : Int32))), .unset, .unset] [(.int p3)])) _
  refine own_via (fun t k => XS.bipush X0.here hx rfl (hb hby d1_10) k) ?_
  show own_Rch p.tables e below (s₁.setTop (mkF m 12 #[.val (.ref a1), .val (.int p2), .val (.int p3), .val (.int p4), .val (.long q5), .second, .val (.int (((p3.toUInt32 >>> (((2 : Int32) * p4) &&& 31).toUInt32).toInt32) &&& (3 : Int32))), .unset, .unset] [(.int (10 : Int32)), (.int p3)])) _
  refine own_via (fun t k => XS.iconst X0.here hx rfl (hb hby d1_12) k) ?_
  show own_Rch p.tables e below (s₁.setTop (mkF m 13 #[.val (.ref a1), .val (.int p2), .val (.int p3), .val (.int p4), .val (.long q5), .second, .val (.int (((p3.toUInt32 >>> (((2 : Int32) * p4) &&& 31).toUInt32).toInt32) &&& (3 : Int32))), .unset, .unset] [(.int (3 : Int32)), (.int (10 : Int32)), (.int p3)])) _
  refine own_via (fun t k => XS.iloadN X0.here hx rfl (hb hby d1_13) rfl k) ?_
  show own_Rch p.tables e below (s₁.setTop (mkF m 14 #[.val (.ref a1), .val (.int p2), .val (.int p3), .val (.int p4), .val (.long q5), .second, .val (.int (((p3.toUInt32 >>> (((2 : Int32) * p4) &&& 31).toUInt32).toInt32) &&& (3 : Int32))), .unset, .unset] [(.int p4), (.int (3 : Int32)), (.int (10 : Int32)), (.int p3)])) _
  refine own_via (fun t k => XS.imul X0.here hx rfl (hb hby d1_14) rfl k) ?_
  show own_Rch p.tables e below (s₁.setTop (mkF m 15 #[.val (.ref a1), .val (.int p2), .val (.int p3), .val (.int p4), .val (.long q5), .second, .val (.int (((p3.toUInt32 >>> (((2 : Int32) * p4) &&& 31).toUInt32).toInt32) &&& (3 : Int32))), .unset, .unset] [(.int ((3 : Int32) * p4)), (.int (10 : Int32)), (.int p3)])) _
  refine own_via (fun t k => XS.iadd X0.here hx rfl (hb hby d1_15) rfl k) ?_
  show own_Rch p.tables e below (s₁.setTop (mkF m 16 #[.val (.ref a1), .val (.int p2), .val (.int p3), .val (.int p4), .val (.long q5), .second, .val (.int (((p3.toUInt32 >>> (((2 : Int32) * p4) &&& 31).toUInt32).toInt32) &&& (3 : Int32))), .unset, .unset] [(.int ((10 : Int32) + ((3 : Int32) * p4))), (.int p3)])) _
  refine own_via (fun t k => XS.iushr X0.here hx rfl (hb hby d1_16) rfl k) ?_
  show own_Rch p.tables e below (s₁.setTop (mkF m 17 #[.val (.ref a1), .val (.int p2), .val (.int p3), .val (.int p4), .val (.long q5), .second, .val (.int (((p3.toUInt32 >>> (((2 : Int32) * p4) &&& 31).toUInt32).toInt32) &&& (3 : Int32))), .unset, .unset] [(.int ((p3.toUInt32 >>> (((10 : Int32) + ((3 : Int32) * p4)) &&& 31).toUInt32).toInt32))])) _
  refine own_via (fun t k => XS.bipush X0.here hx rfl (hb hby d1_17) k) ?_
  show own_Rch p.tables e below (s₁.setTop (mkF m 19 #[.val (.ref a1), .val (.int p2), .val (.int p3), .val (.int p4), .val (.long q5), .second, .val (.int (((p3.toUInt32 >>> (((2 : Int32) * p4) &&& 31).toUInt32).toInt32) &&& (3 : Int32))), .unset, .unset] [(.int (7 : Int32)), (.int ((p3.toUInt32 >>> (((10 : Int32) + ((3 : Int32) * p4)) &&& 31).toUInt32).toInt32))])) _
  refine own_via (fun t k => XS.iand X0.here hx rfl (hb hby d1_19) rfl k) ?_
  show own_Rch p.tables e below (s₁.setTop (mkF m 20 #[.val (.ref a1), .val (.int p2), .val (.int p3), .val (.int p4), .val (.long q5), .second, .val (.int (((p3.toUInt32 >>> (((2 : Int32) * p4) &&& 31).toUInt32).toInt32) &&& (3 : Int32))), .unset, .unset] [(.int (((p3.toUInt32 >>> (((10 : Int32) + ((3 : Int32) * p4)) &&& 31).toUInt32).toInt32) &&& (7 : Int32)))])) _
  refine own_via (fun t k => XS.istore X0.here hx rfl (hb hby d1_20) rfl (l' := #[.val (.ref a1), .val (.int p2), .val (.int p3), .val (.int p4), .val (.long q5), .second, .val (.int (((p3.toUInt32 >>> (((2 : Int32) * p4) &&& 31).toUInt32).toInt32) &&& (3 : Int32))), .val (.int (((p3.toUInt32 >>> (((10 : Int32) + ((3 : Int32) * p4)) &&& 31).toUInt32).toInt32) &&& (7 : Int32))), .unset]) rfl k) ?_
  show own_Rch p.tables e below (s₁.setTop (mkF m 22 #[.val (.ref a1), .val (.int p2), .val (.int p3), .val (.int p4), .val (.long q5), .second, .val (.int (((p3.toUInt32 >>> (((2 : Int32) * p4) &&& 31).toUInt32).toInt32) &&& (3 : Int32))), .val (.int (((p3.toUInt32 >>> (((10 : Int32) + ((3 : Int32) * p4)) &&& 31).toUInt32).toInt32) &&& (7 : Int32))), .unset] [])) _
  refine own_via (fun t k => XS.aloadN X0.here hx rfl (hb hby d1_22) rfl rfl k) ?_
  show own_Rch p.tables e below (s₁.setTop (mkF m 23 #[.val (.ref a1), .val (.int p2), .val (.int p3), .val (.int p4), .val (.long q5), .second, .val (.int (((p3.toUInt32 >>> (((2 : Int32) * p4) &&& 31).toUInt32).toInt32) &&& (3 : Int32))), .val (.int (((p3.toUInt32 >>> (((10 : Int32) + ((3 : Int32) * p4)) &&& 31).toUInt32).toInt32) &&& (7 : Int32))), .unset] [(.ref a1)])) _
  refine own_via (fun t k => XS.iloadN X0.here hx rfl (hb hby d1_23) rfl k) ?_
  show own_Rch p.tables e below (s₁.setTop (mkF m 24 #[.val (.ref a1), .val (.int p2), .val (.int p3), .val (.int p4), .val (.long q5), .second, .val (.int (((p3.toUInt32 >>> (((2 : Int32) * p4) &&& 31).toUInt32).toInt32) &&& (3 : Int32))), .val (.int (((p3.toUInt32 >>> (((10 : Int32) + ((3 : Int32) * p4)) &&& 31).toUInt32).toInt32) &&& (7 : Int32))), .unset] [(.int p2), (.ref a1)])) _
  refine own_via (fun t k => XS.iconst X0.here hx rfl (hb hby d1_24) k) ?_
  show own_Rch p.tables e below (s₁.setTop (mkF m 25 #[.val (.ref a1), .val (.int p2), .val (.int p3), .val (.int p4), .val (.long q5), .second, .val (.int (((p3.toUInt32 >>> (((2 : Int32) * p4) &&& 31).toUInt32).toInt32) &&& (3 : Int32))), .val (.int (((p3.toUInt32 >>> (((10 : Int32) + ((3 : Int32) * p4)) &&& 31).toUInt32).toInt32) &&& (7 : Int32))), .unset] [(.int (5 : Int32)), (.int p2), (.ref a1)])) _
  refine own_via (fun t k => iremM X0 hx rfl (hb hby d1_25) rfl (by decide) k) ?_
  show own_Rch p.tables e below (s₁.setTop (mkF m 26 #[.val (.ref a1), .val (.int p2), .val (.int p3), .val (.int p4), .val (.long q5), .second, .val (.int (((p3.toUInt32 >>> (((2 : Int32) * p4) &&& 31).toUInt32).toInt32) &&& (3 : Int32))), .val (.int (((p3.toUInt32 >>> (((10 : Int32) + ((3 : Int32) * p4)) &&& 31).toUInt32).toInt32) &&& (7 : Int32))), .unset] [(.int (p2 % (5 : Int32))), (.ref a1)])) _
  obtain ⟨cl1, Ar1, -, S1, M1, H1, G1⟩ := V
  have hin1 : ¬ ((p2 % (5 : Int32)) < 0 ∨ cl1.slots.size ≤ ((p2 % (5 : Int32))).toNatClampNeg) := inb_of S1 (own_mod5 p2 hp)
  have hat1 : cl1.slots[((p2 % (5 : Int32))).toNatClampNeg]? = some (.int (own_at l_ (p2 % (5 : Int32)))) := Has.at H1 hin1 (own_getI l_ _)
  have hfb : (own_at l_ (p2 % (5 : Int32))).toInt8.toInt32 = own_at l_ (p2 % (5 : Int32)) := own_fitB (by have q := G1 _ (Nat.lt_of_not_le fun y => hin1 (Or.inr y)); rw [own_getI l_] at q; exact q)
  obtain ⟨y_, hy_⟩ : ∃ z : Int32, z = own_at l_ (p2 % (5 : Int32)) := ⟨_, rfl⟩
  rw [← hy_] at hfb hat1
  refine own_via (X0.baloadBytes hx (j := (p2 % (5 : Int32))) (v := (.int y_)) (by rw [e0]; exact Ar1.1) (State.isArrayOf_alike hZ.alike Ar1.2.1) Ar1.2.2 hin1 hat1 (g := (mkF m 26 #[.val (.ref a1), .val (.int p2), .val (.int p3), .val (.int p4), .val (.long q5), .second, .val (.int (((p3.toUInt32 >>> (((2 : Int32) * p4) &&& 31).toUInt32).toInt32) &&& (3 : Int32))), .val (.int (((p3.toUInt32 >>> (((10 : Int32) + ((3 : Int32) * p4)) &&& 31).toUInt32).toInt32) &&& (7 : Int32))), .unset] [(.int (p2 % (5 : Int32))), (.ref a1)])) rfl rfl (hb hby d1_26)) ?_
  show own_Rch p.tables e below (s₁.setTop (mkF m 27 #[.val (.ref a1), .val (.int p2), .val (.int p3), .val (.int p4), .val (.long q5), .second, .val (.int (((p3.toUInt32 >>> (((2 : Int32) * p4) &&& 31).toUInt32).toInt32) &&& (3 : Int32))), .val (.int (((p3.toUInt32 >>> (((10 : Int32) + ((3 : Int32) * p4)) &&& 31).toUInt32).toInt32) &&& (7 : Int32))), .unset] [(.int y_)])) _
  refine own_via (fun t k => XS.istore X0.here hx rfl (hb hby d1_27) rfl (l' := #[.val (.ref a1), .val (.int p2), .val (.int p3), .val (.int p4), .val (.long q5), .second, .val (.int (((p3.toUInt32 >>> (((2 : Int32) * p4) &&& 31).toUInt32).toInt32) &&& (3 : Int32))), .val (.int (((p3.toUInt32 >>> (((10 : Int32) + ((3 : Int32) * p4)) &&& 31).toUInt32).toInt32) &&& (7 : Int32))), .val (.int y_)]) rfl k) ?_
  show own_Rch p.tables e below (s₁.setTop (mkF m 29 #[.val (.ref a1), .val (.int p2), .val (.int p3), .val (.int p4), .val (.long q5), .second, .val (.int (((p3.toUInt32 >>> (((2 : Int32) * p4) &&& 31).toUInt32).toInt32) &&& (3 : Int32))), .val (.int (((p3.toUInt32 >>> (((10 : Int32) + ((3 : Int32) * p4)) &&& 31).toUInt32).toInt32) &&& (7 : Int32))), .val (.int y_)] [])) _
  refine own_via (fun t k => XS.iload X0.here hx rfl (hb hby d1_29) rfl k) ?_
  show own_Rch p.tables e below (s₁.setTop (mkF m 31 #[.val (.ref a1), .val (.int p2), .val (.int p3), .val (.int p4), .val (.long q5), .second, .val (.int (((p3.toUInt32 >>> (((2 : Int32) * p4) &&& 31).toUInt32).toInt32) &&& (3 : Int32))), .val (.int (((p3.toUInt32 >>> (((10 : Int32) + ((3 : Int32) * p4)) &&& 31).toUInt32).toInt32) &&& (7 : Int32))), .val (.int y_)] [(.int (((p3.toUInt32 >>> (((2 : Int32) * p4) &&& 31).toUInt32).toInt32) &&& (3 : Int32)))])) _
  refine own_via (fun t k => XS.iconst X0.here hx rfl (hb hby d1_31) k) ?_
  show own_Rch p.tables e below (s₁.setTop (mkF m 32 #[.val (.ref a1), .val (.int p2), .val (.int p3), .val (.int p4), .val (.long q5), .second, .val (.int (((p3.toUInt32 >>> (((2 : Int32) * p4) &&& 31).toUInt32).toInt32) &&& (3 : Int32))), .val (.int (((p3.toUInt32 >>> (((10 : Int32) + ((3 : Int32) * p4)) &&& 31).toUInt32).toInt32) &&& (7 : Int32))), .val (.int y_)] [(.int (2 : Int32)), (.int (((p3.toUInt32 >>> (((2 : Int32) * p4) &&& 31).toUInt32).toInt32) &&& (3 : Int32)))])) _
  by_cases c32 : (((p3.toUInt32 >>> (((2 : Int32) * p4) &&& 31).toUInt32).toInt32) &&& (3 : Int32)) = (2 : Int32)
  · refine own_via (fun t k => XS.icmpNo X0.here hx rfl (hb hby d1_32) rfl (teq c32).2 k) ?_
    show own_Rch p.tables e below (s₁.setTop (mkF m 35 #[.val (.ref a1), .val (.int p2), .val (.int p3), .val (.int p4), .val (.long q5), .second, .val (.int (((p3.toUInt32 >>> (((2 : Int32) * p4) &&& 31).toUInt32).toInt32) &&& (3 : Int32))), .val (.int (((p3.toUInt32 >>> (((10 : Int32) + ((3 : Int32) * p4)) &&& 31).toUInt32).toInt32) &&& (7 : Int32))), .val (.int y_)] [])) _
    refine own_via (fun t k => XS.iload X0.here hx rfl (hb hby d1_35) rfl k) ?_
    show own_Rch p.tables e below (s₁.setTop (mkF m 37 #[.val (.ref a1), .val (.int p2), .val (.int p3), .val (.int p4), .val (.long q5), .second, .val (.int (((p3.toUInt32 >>> (((2 : Int32) * p4) &&& 31).toUInt32).toInt32) &&& (3 : Int32))), .val (.int (((p3.toUInt32 >>> (((10 : Int32) + ((3 : Int32) * p4)) &&& 31).toUInt32).toInt32) &&& (7 : Int32))), .val (.int y_)] [(.int y_)])) _
    refine own_via (fun t k => XS.iconst X0.here hx rfl (hb hby d1_37) k) ?_
    show own_Rch p.tables e below (s₁.setTop (mkF m 38 #[.val (.ref a1), .val (.int p2), .val (.int p3), .val (.int p4), .val (.long q5), .second, .val (.int (((p3.toUInt32 >>> (((2 : Int32) * p4) &&& 31).toUInt32).toInt32) &&& (3 : Int32))), .val (.int (((p3.toUInt32 >>> (((10 : Int32) + ((3 : Int32) * p4)) &&& 31).toUInt32).toInt32) &&& (7 : Int32))), .val (.int y_)] [(.int (1 : Int32)), (.int y_)])) _
    refine own_via (fun t k => XS.iload X0.here hx rfl (hb hby d1_38) rfl k) ?_
    show own_Rch p.tables e below (s₁.setTop (mkF m 40 #[.val (.ref a1), .val (.int p2), .val (.int p3), .val (.int p4), .val (.long q5), .second, .val (.int (((p3.toUInt32 >>> (((2 : Int32) * p4) &&& 31).toUInt32).toInt32) &&& (3 : Int32))), .val (.int (((p3.toUInt32 >>> (((10 : Int32) + ((3 : Int32) * p4)) &&& 31).toUInt32).toInt32) &&& (7 : Int32))), .val (.int y_)] [(.int (((p3.toUInt32 >>> (((10 : Int32) + ((3 : Int32) * p4)) &&& 31).toUInt32).toInt32) &&& (7 : Int32))), (.int (1 : Int32)), (.int y_)])) _
    refine own_via (fun t k => XS.ishl X0.here hx rfl (hb hby d1_40) rfl k) ?_
    show own_Rch p.tables e below (s₁.setTop (mkF m 41 #[.val (.ref a1), .val (.int p2), .val (.int p3), .val (.int p4), .val (.long q5), .second, .val (.int (((p3.toUInt32 >>> (((2 : Int32) * p4) &&& 31).toUInt32).toInt32) &&& (3 : Int32))), .val (.int (((p3.toUInt32 >>> (((10 : Int32) + ((3 : Int32) * p4)) &&& 31).toUInt32).toInt32) &&& (7 : Int32))), .val (.int y_)] [(.int ((1 : Int32) <<< ((((p3.toUInt32 >>> (((10 : Int32) + ((3 : Int32) * p4)) &&& 31).toUInt32).toInt32) &&& (7 : Int32)) &&& 31))), (.int y_)])) _
    refine own_via (fun t k => XS.ixor X0.here hx rfl (hb hby d1_41) rfl k) ?_
    show own_Rch p.tables e below (s₁.setTop (mkF m 42 #[.val (.ref a1), .val (.int p2), .val (.int p3), .val (.int p4), .val (.long q5), .second, .val (.int (((p3.toUInt32 >>> (((2 : Int32) * p4) &&& 31).toUInt32).toInt32) &&& (3 : Int32))), .val (.int (((p3.toUInt32 >>> (((10 : Int32) + ((3 : Int32) * p4)) &&& 31).toUInt32).toInt32) &&& (7 : Int32))), .val (.int y_)] [(.int (y_ ^^^ ((1 : Int32) <<< ((((p3.toUInt32 >>> (((10 : Int32) + ((3 : Int32) * p4)) &&& 31).toUInt32).toInt32) &&& (7 : Int32)) &&& 31))))])) _
    refine own_via (fun t k => XS.i2b X0.here hx rfl (hb hby d1_42) rfl k) ?_
    show own_Rch p.tables e below (s₁.setTop (mkF m 43 #[.val (.ref a1), .val (.int p2), .val (.int p3), .val (.int p4), .val (.long q5), .second, .val (.int (((p3.toUInt32 >>> (((2 : Int32) * p4) &&& 31).toUInt32).toInt32) &&& (3 : Int32))), .val (.int (((p3.toUInt32 >>> (((10 : Int32) + ((3 : Int32) * p4)) &&& 31).toUInt32).toInt32) &&& (7 : Int32))), .val (.int y_)] [(.int ((y_ ^^^ ((1 : Int32) <<< ((((p3.toUInt32 >>> (((10 : Int32) + ((3 : Int32) * p4)) &&& 31).toUInt32).toInt32) &&& (7 : Int32)) &&& 31))).toInt8.toInt32))])) _
    exact own_fin X0 hx (t := .byte) (i := .ireturn) Bd.returns Bd.notSynchronized (own_nar _ (own_idem _)) (Or.inl ⟨rfl, by simp, _, rfl⟩) (hb hby d1_43) (by decide) (by decide) ⟨_, rfl, N0, e0, own_idem _⟩
  · refine own_via (fun t k => XS.icmpYes X0.here hx rfl (pc0 := 32) (pc' := 44) rfl (hb hby d1_32) rfl (feq c32).2 (by decide) (by decide) k) ?_
    show own_Rch p.tables e below (s₁.setTop (mkF m 44 #[.val (.ref a1), .val (.int p2), .val (.int p3), .val (.int p4), .val (.long q5), .second, .val (.int (((p3.toUInt32 >>> (((2 : Int32) * p4) &&& 31).toUInt32).toInt32) &&& (3 : Int32))), .val (.int (((p3.toUInt32 >>> (((10 : Int32) + ((3 : Int32) * p4)) &&& 31).toUInt32).toInt32) &&& (7 : Int32))), .val (.int y_)] [])) _
    refine own_via (fun t k => XS.iload X0.here hx rfl (hb hby d1_44) rfl k) ?_
    show own_Rch p.tables e below (s₁.setTop (mkF m 46 #[.val (.ref a1), .val (.int p2), .val (.int p3), .val (.int p4), .val (.long q5), .second, .val (.int (((p3.toUInt32 >>> (((2 : Int32) * p4) &&& 31).toUInt32).toInt32) &&& (3 : Int32))), .val (.int (((p3.toUInt32 >>> (((10 : Int32) + ((3 : Int32) * p4)) &&& 31).toUInt32).toInt32) &&& (7 : Int32))), .val (.int y_)] [(.int (((p3.toUInt32 >>> (((2 : Int32) * p4) &&& 31).toUInt32).toInt32) &&& (3 : Int32)))])) _
    refine own_via (fun t k => XS.iconst X0.here hx rfl (hb hby d1_46) k) ?_
    show own_Rch p.tables e below (s₁.setTop (mkF m 47 #[.val (.ref a1), .val (.int p2), .val (.int p3), .val (.int p4), .val (.long q5), .second, .val (.int (((p3.toUInt32 >>> (((2 : Int32) * p4) &&& 31).toUInt32).toInt32) &&& (3 : Int32))), .val (.int (((p3.toUInt32 >>> (((10 : Int32) + ((3 : Int32) * p4)) &&& 31).toUInt32).toInt32) &&& (7 : Int32))), .val (.int y_)] [(.int (3 : Int32)), (.int (((p3.toUInt32 >>> (((2 : Int32) * p4) &&& 31).toUInt32).toInt32) &&& (3 : Int32)))])) _
    by_cases c47 : (((p3.toUInt32 >>> (((2 : Int32) * p4) &&& 31).toUInt32).toInt32) &&& (3 : Int32)) = (3 : Int32)
    · refine own_via (fun t k => XS.icmpNo X0.here hx rfl (hb hby d1_47) rfl (teq c47).2 k) ?_
      show own_Rch p.tables e below (s₁.setTop (mkF m 50 #[.val (.ref a1), .val (.int p2), .val (.int p3), .val (.int p4), .val (.long q5), .second, .val (.int (((p3.toUInt32 >>> (((2 : Int32) * p4) &&& 31).toUInt32).toInt32) &&& (3 : Int32))), .val (.int (((p3.toUInt32 >>> (((10 : Int32) + ((3 : Int32) * p4)) &&& 31).toUInt32).toInt32) &&& (7 : Int32))), .val (.int y_)] [])) _
      refine own_via (fun t k => XS.lload X0.here hx rfl (hb hby d1_50) rfl k) ?_
      show own_Rch p.tables e below (s₁.setTop (mkF m 52 #[.val (.ref a1), .val (.int p2), .val (.int p3), .val (.int p4), .val (.long q5), .second, .val (.int (((p3.toUInt32 >>> (((2 : Int32) * p4) &&& 31).toUInt32).toInt32) &&& (3 : Int32))), .val (.int (((p3.toUInt32 >>> (((10 : Int32) + ((3 : Int32) * p4)) &&& 31).toUInt32).toInt32) &&& (7 : Int32))), .val (.int y_)] [(.long q5)])) _
      refine own_via (fun t k => XS.bipush X0.here hx rfl (hb hby d1_52) k) ?_
      show own_Rch p.tables e below (s₁.setTop (mkF m 54 #[.val (.ref a1), .val (.int p2), .val (.int p3), .val (.int p4), .val (.long q5), .second, .val (.int (((p3.toUInt32 >>> (((2 : Int32) * p4) &&& 31).toUInt32).toInt32) &&& (3 : Int32))), .val (.int (((p3.toUInt32 >>> (((10 : Int32) + ((3 : Int32) * p4)) &&& 31).toUInt32).toInt32) &&& (7 : Int32))), .val (.int y_)] [(.int (8 : Int32)), (.long q5)])) _
      refine own_via (fun t k => XS.iloadN X0.here hx rfl (hb hby d1_54) rfl k) ?_
      show own_Rch p.tables e below (s₁.setTop (mkF m 55 #[.val (.ref a1), .val (.int p2), .val (.int p3), .val (.int p4), .val (.long q5), .second, .val (.int (((p3.toUInt32 >>> (((2 : Int32) * p4) &&& 31).toUInt32).toInt32) &&& (3 : Int32))), .val (.int (((p3.toUInt32 >>> (((10 : Int32) + ((3 : Int32) * p4)) &&& 31).toUInt32).toInt32) &&& (7 : Int32))), .val (.int y_)] [(.int p4), (.int (8 : Int32)), (.long q5)])) _
      refine own_via (fun t k => XS.imul X0.here hx rfl (hb hby d1_55) rfl k) ?_
      show own_Rch p.tables e below (s₁.setTop (mkF m 56 #[.val (.ref a1), .val (.int p2), .val (.int p3), .val (.int p4), .val (.long q5), .second, .val (.int (((p3.toUInt32 >>> (((2 : Int32) * p4) &&& 31).toUInt32).toInt32) &&& (3 : Int32))), .val (.int (((p3.toUInt32 >>> (((10 : Int32) + ((3 : Int32) * p4)) &&& 31).toUInt32).toInt32) &&& (7 : Int32))), .val (.int y_)] [(.int ((8 : Int32) * p4)), (.long q5)])) _
      refine own_via (fun t k => XS.lushr X0.here hx rfl (hb hby d1_56) rfl k) ?_
      show own_Rch p.tables e below (s₁.setTop (mkF m 57 #[.val (.ref a1), .val (.int p2), .val (.int p3), .val (.int p4), .val (.long q5), .second, .val (.int (((p3.toUInt32 >>> (((2 : Int32) * p4) &&& 31).toUInt32).toInt32) &&& (3 : Int32))), .val (.int (((p3.toUInt32 >>> (((10 : Int32) + ((3 : Int32) * p4)) &&& 31).toUInt32).toInt32) &&& (7 : Int32))), .val (.int y_)] [(.long ((q5.toUInt64 >>> (((8 : Int32) * p4) &&& 0x3f).toInt64.toUInt64).toInt64))])) _
      refine own_via (fun t k => XS.l2i X0.here hx rfl (hb hby d1_57) rfl k) ?_
      show own_Rch p.tables e below (s₁.setTop (mkF m 58 #[.val (.ref a1), .val (.int p2), .val (.int p3), .val (.int p4), .val (.long q5), .second, .val (.int (((p3.toUInt32 >>> (((2 : Int32) * p4) &&& 31).toUInt32).toInt32) &&& (3 : Int32))), .val (.int (((p3.toUInt32 >>> (((10 : Int32) + ((3 : Int32) * p4)) &&& 31).toUInt32).toInt32) &&& (7 : Int32))), .val (.int y_)] [(.int (((q5.toUInt64 >>> (((8 : Int32) * p4) &&& 0x3f).toInt64.toUInt64).toInt64).toInt32))])) _
      refine own_via (fun t k => XS.i2b X0.here hx rfl (hb hby d1_58) rfl k) ?_
      show own_Rch p.tables e below (s₁.setTop (mkF m 59 #[.val (.ref a1), .val (.int p2), .val (.int p3), .val (.int p4), .val (.long q5), .second, .val (.int (((p3.toUInt32 >>> (((2 : Int32) * p4) &&& 31).toUInt32).toInt32) &&& (3 : Int32))), .val (.int (((p3.toUInt32 >>> (((10 : Int32) + ((3 : Int32) * p4)) &&& 31).toUInt32).toInt32) &&& (7 : Int32))), .val (.int y_)] [(.int ((((q5.toUInt64 >>> (((8 : Int32) * p4) &&& 0x3f).toInt64.toUInt64).toInt64).toInt32).toInt8.toInt32))])) _
      exact own_fin X0 hx (t := .byte) (i := .ireturn) Bd.returns Bd.notSynchronized (own_nar _ (own_idem _)) (Or.inl ⟨rfl, by simp, _, rfl⟩) (hb hby d1_59) (by decide) (by decide) ⟨_, rfl, N0, e0, own_idem _⟩
    · refine own_via (fun t k => XS.icmpYes X0.here hx rfl (pc0 := 47) (pc' := 60) rfl (hb hby d1_47) rfl (feq c47).2 (by decide) (by decide) k) ?_
      show own_Rch p.tables e below (s₁.setTop (mkF m 60 #[.val (.ref a1), .val (.int p2), .val (.int p3), .val (.int p4), .val (.long q5), .second, .val (.int (((p3.toUInt32 >>> (((2 : Int32) * p4) &&& 31).toUInt32).toInt32) &&& (3 : Int32))), .val (.int (((p3.toUInt32 >>> (((10 : Int32) + ((3 : Int32) * p4)) &&& 31).toUInt32).toInt32) &&& (7 : Int32))), .val (.int y_)] [])) _
      refine own_via (fun t k => XS.iload X0.here hx rfl (hb hby d1_60) rfl k) ?_
      show own_Rch p.tables e below (s₁.setTop (mkF m 62 #[.val (.ref a1), .val (.int p2), .val (.int p3), .val (.int p4), .val (.long q5), .second, .val (.int (((p3.toUInt32 >>> (((2 : Int32) * p4) &&& 31).toUInt32).toInt32) &&& (3 : Int32))), .val (.int (((p3.toUInt32 >>> (((10 : Int32) + ((3 : Int32) * p4)) &&& 31).toUInt32).toInt32) &&& (7 : Int32))), .val (.int y_)] [(.int y_)])) _
      exact own_fin X0 hx (t := .byte) (i := .ireturn) Bd.returns Bd.notSynchronized (own_nar _ hfb) (Or.inl ⟨rfl, by simp, _, rfl⟩) (hb hby d1_62) (by decide) (by decide) ⟨_, rfl, N0, e0, hfb⟩
def own_n4_0 (l ts : List Int32) (p2 p3 : Int32) : Int32 := if (p3 - p2) = (0 : Int32) then (1) else 0
theorem ef_2_0 (m : MethodId) (x0 : Addr) (x1 : Int32) (x2 : Int32) (x3 : Addr) : entryFrame m #[(.ref x0), (.int x1), (.int x2), (.ref x3)] 5 = mkF m 0 #[.val (.ref x0), .val (.int x1), .val (.int x2), .val (.ref x3), .unset] [] := by first | (simp [entryFrame, mkF, argsToLocals, Value.category]; done) | rfl
theorem pn_com_example_lastkey_lastkey_exec_TextFormat : plainName "com/example/lastkey/lastkey/exec/TextFormat" = true := by first | (simp [plainName, overriddenIn]; done) | decide +kernel
theorem d2_0 : decode prog_61_method_3_code 0 = .ok (.iload_n 2, 1) := by decide +kernel
theorem d2_1 : decode prog_61_method_3_code 1 = .ok (.iload_n 1, 1) := by decide +kernel
theorem d2_2 : decode prog_61_method_3_code 2 = .ok (.isub, 1) := by decide +kernel
theorem d2_3 : decode prog_61_method_3_code 3 = .ok (.aload_n 3, 1) := by decide +kernel
theorem d2_4 : decode prog_61_method_3_code 4 = .ok (.arraylength, 1) := by decide +kernel
theorem d2_5 : decode prog_61_method_3_code 5 = .ok (.if_icmp .eq 5, 3) := by decide +kernel
theorem d2_10 : decode prog_61_method_3_code 10 = .ok (.iconst 0, 1) := by decide +kernel
theorem d2_11 : decode prog_61_method_3_code 11 = .ok (.istore 4, 2) := by decide +kernel
theorem d2_13 : decode prog_61_method_3_code 13 = .ok (.iload 4, 2) := by decide +kernel
theorem d2_15 : decode prog_61_method_3_code 15 = .ok (.aload_n 3, 1) := by decide +kernel
theorem d2_16 : decode prog_61_method_3_code 16 = .ok (.arraylength, 1) := by decide +kernel
theorem d2_17 : decode prog_61_method_3_code 17 = .ok (.if_icmp .ge 24, 3) := by decide +kernel
theorem d2_41 : decode prog_61_method_3_code 41 = .ok (.iconst 1, 1) := by decide +kernel
theorem d2_42 : decode prog_61_method_3_code 42 = .ok (.ireturn, 1) := by decide +kernel
theorem d2_8 : decode prog_61_method_3_code 8 = .ok (.iconst 0, 1) := by decide +kernel
theorem d2_9 : decode prog_61_method_3_code 9 = .ok (.ireturn, 1) := by decide +kernel
set_option maxRecDepth 65536 in
set_option maxHeartbeats 40000000 in
theorem rm2_0 (l : Launch) (Z : State) (a0 : Array Value) (hw : ∀ d ∈ tables_1, d.before a0 Z = true) (ws : List Jvm.Cond) (a1 : Addr) (p2 p3 : Int32) (a4 : Addr) (l_ ts : List Int32) (kb kt : ClassId) (h0 : Heap) (n0 : Nat) (V : Arv Z h0 a1 kb .byte (5 : Int32) (l_.map Value.int) (.int 0)) (Vt : Arv Z h0 a4 kt .byte (0 : Int32) (ts.map Value.int) (.int 0)) (i0 : 0 ≤ p2.toInt) (i1 : p3.toInt ≤ (5 : Int32).toInt) (i2 : 0 ≤ p3.toInt) :
    MetFree l (⟨"com/example/lastkey/lastkey/exec/TextFormat", "isNull", "([BII[B)Z"⟩ : MethodName) (head1 (Jvm.Cond.code (⟨"com/example/lastkey/lastkey/exec/TextFormat", "isNull", "([BII[B)Z"⟩ : MethodName) prog_61_method_3_code 5 (some .boolean) :: ws) ({ frames := 0, cells := 0, slots := 0, locals := 0 } : Room)) (fun a U => a = #[(.ref a1), (.int p2), (.int p3), (.ref a4)] ∧ Z.Warmed39 U.vm ∧ U.heap = h0) (fun _ _ _ _ _ => True) (fun _ U o U' => ∃ v L, o = .returned v ∧ own_Pure (.int (own_n4_0 l_ ts p2 p3)) h0 n0 v U'.heap L ∧ FrameEnd U o U' L ({ frames := 0, cells := 0, slots := 0, locals := 0 } : Room).cells ({ frames := 0, cells := 0, slots := 0, locals := 0 } : Room).slots) := by
  refine MetFree.of_bodySF (plainFor_of_name pn_com_example_lastkey_lastkey_exec_TextFormat) hisR ?_
  intro p e s m args below meth c s₁ Bd hml0 hP hK
  obtain ⟨rfl, hZ, hh⟩ := hP
  have hx := Bd.exec
  have hby := Bd.bytes
  have hml : c.maxLocals = 5 := hml0
  have hown : s.vm.findClass "com/example/lastkey/lastkey/exec/TextFormat" = some m.cls := findClass_of_methodNamed Bd.named
  have hnm := (name_of_methodNamed Bd.named Bd.method).1
  have X0 : Stand p l e ({ frames := 0, cells := 0, slots := 0, locals := 0 } : Room) s m #[(.ref a1), (.int p2), (.int p3), (.ref a4)] below meth c s₁ [] 0 0 := Stand.of_body Bd
  have e0 : s₁.heap = h0 := by rw [← hh, Bd.state]; rfl
  have N0 := Fr.nil n0
  show own_Rch p.tables e below (s₁.setTop (entryFrame m #[(.ref a1), (.int p2), (.int p3), (.ref a4)] 5)) (own_End s (own_Pure (.int (own_n4_0 l_ ts p2 p3)) h0 n0) ({ frames := 0, cells := 0, slots := 0, locals := 0 } : Room).cells ({ frames := 0, cells := 0, slots := 0, locals := 0 } : Room).slots)
  refine own_via (fun t k => castTop (ef_2_0 m a1 p2 p3 a4) k) ?_
  show own_Rch p.tables e below (s₁.setTop (mkF m 0 #[.val (.ref a1), .val (.int p2), .val (.int p3), .val (.ref a4), .unset] [])) _
  refine own_via (fun t k => XS.iloadN X0.here hx rfl (hb hby d2_0) rfl k) ?_
  show own_Rch p.tables e below (s₁.setTop (mkF m 1 #[.val (.ref a1), .val (.int p2), .val (.int p3), .val (.ref a4), .unset] [(.int p3)])) _
  refine own_via (fun t k => XS.iloadN X0.here hx rfl (hb hby d2_1) rfl k) ?_
  show own_Rch p.tables e below (s₁.setTop (mkF m 2 #[.val (.ref a1), .val (.int p2), .val (.int p3), .val (.ref a4), .unset] [(.int p2), (.int p3)])) _
  refine own_via (fun t k => XS.isub X0.here hx rfl (hb hby d2_2) rfl k) ?_
  show own_Rch p.tables e below (s₁.setTop (mkF m 3 #[.val (.ref a1), .val (.int p2), .val (.int p3), .val (.ref a4), .unset] [(.int (p3 - p2))])) _
  refine own_via (fun t k => XS.aloadN X0.here hx rfl (hb hby d2_3) rfl rfl k) ?_
  show own_Rch p.tables e below (s₁.setTop (mkF m 4 #[.val (.ref a1), .val (.int p2), .val (.int p3), .val (.ref a4), .unset] [(.ref a4), (.int (p3 - p2))])) _
  obtain ⟨cl1, Ar1, -, S1, M1, -, -⟩ := id Vt
  refine own_via (X0.arraylength hx (by rw [e0]; exact Ar1.1) (State.isArrayOf_alike hZ.alike Ar1.2.1) (g := (mkF m 4 #[.val (.ref a1), .val (.int p2), .val (.int p3), .val (.ref a4), .unset] [(.ref a4), (.int (p3 - p2))])) rfl rfl (hb hby d2_4)) ?_
  rw [len_of S1 M1]
  show own_Rch p.tables e below (s₁.setTop (mkF m 5 #[.val (.ref a1), .val (.int p2), .val (.int p3), .val (.ref a4), .unset] [(.int (0 : Int32)), (.int (p3 - p2))])) _
  by_cases c5 : (p3 - p2) = (0 : Int32)
  · refine own_via (fun t k => XS.icmpYes X0.here hx rfl (pc0 := 5) (pc' := 10) rfl (hb hby d2_5) rfl (teq c5).1 (by decide) (by decide) k) ?_
    show own_Rch p.tables e below (s₁.setTop (mkF m 10 #[.val (.ref a1), .val (.int p2), .val (.int p3), .val (.ref a4), .unset] [])) _
    refine own_via (fun t k => XS.iconst X0.here hx rfl (hb hby d2_10) k) ?_
    show own_Rch p.tables e below (s₁.setTop (mkF m 11 #[.val (.ref a1), .val (.int p2), .val (.int p3), .val (.ref a4), .unset] [(.int (0 : Int32))])) _
    refine own_via (fun t k => XS.istore X0.here hx rfl (hb hby d2_11) rfl (l' := #[.val (.ref a1), .val (.int p2), .val (.int p3), .val (.ref a4), .val (.int (0 : Int32))]) rfl k) ?_
    show own_Rch p.tables e below (s₁.setTop (mkF m 13 #[.val (.ref a1), .val (.int p2), .val (.int p3), .val (.ref a4), .val (.int (0 : Int32))] [])) _
    refine own_via (fun t k => XS.iload X0.here hx rfl (hb hby d2_13) rfl k) ?_
    show own_Rch p.tables e below (s₁.setTop (mkF m 15 #[.val (.ref a1), .val (.int p2), .val (.int p3), .val (.ref a4), .val (.int (0 : Int32))] [(.int (0 : Int32))])) _
    refine own_via (fun t k => XS.aloadN X0.here hx rfl (hb hby d2_15) rfl rfl k) ?_
    show own_Rch p.tables e below (s₁.setTop (mkF m 16 #[.val (.ref a1), .val (.int p2), .val (.int p3), .val (.ref a4), .val (.int (0 : Int32))] [(.ref a4), (.int (0 : Int32))])) _
    obtain ⟨cl2, Ar2, -, S2, M2, -, -⟩ := id Vt
    refine own_via (X0.arraylength hx (by rw [e0]; exact Ar2.1) (State.isArrayOf_alike hZ.alike Ar2.2.1) (g := (mkF m 16 #[.val (.ref a1), .val (.int p2), .val (.int p3), .val (.ref a4), .val (.int (0 : Int32))] [(.ref a4), (.int (0 : Int32))])) rfl rfl (hb hby d2_16)) ?_
    rw [len_of S2 M2]
    show own_Rch p.tables e below (s₁.setTop (mkF m 17 #[.val (.ref a1), .val (.int p2), .val (.int p3), .val (.ref a4), .val (.int (0 : Int32))] [(.int (0 : Int32)), (.int (0 : Int32))])) _
    refine own_via (fun t k => XS.icmpYes X0.here hx rfl (pc0 := 17) (pc' := 41) rfl (hb hby d2_17) rfl (flt (by decide : ¬ ((0 : Int32) < (0 : Int32)))).2.1 (by decide) (by decide) k) ?_
    show own_Rch p.tables e below (s₁.setTop (mkF m 41 #[.val (.ref a1), .val (.int p2), .val (.int p3), .val (.ref a4), .val (.int (0 : Int32))] [])) _
    refine own_via (fun t k => XS.iconst X0.here hx rfl (hb hby d2_41) k) ?_
    show own_Rch p.tables e below (s₁.setTop (mkF m 42 #[.val (.ref a1), .val (.int p2), .val (.int p3), .val (.ref a4), .val (.int (0 : Int32))] [(.int (1 : Int32))])) _
    exact own_fin X0 hx (t := .boolean) (i := .ireturn) Bd.returns Bd.notSynchronized rfl (Or.inl ⟨rfl, by simp, _, rfl⟩) (hb hby d2_42) (by decide) (by decide) ⟨by simp only [own_n4_0, if_pos c5], N0, e0⟩
  · refine own_via (fun t k => XS.icmpNo X0.here hx rfl (hb hby d2_5) rfl (feq c5).1 k) ?_
    show own_Rch p.tables e below (s₁.setTop (mkF m 8 #[.val (.ref a1), .val (.int p2), .val (.int p3), .val (.ref a4), .unset] [])) _
    refine own_via (fun t k => XS.iconst X0.here hx rfl (hb hby d2_8) k) ?_
    show own_Rch p.tables e below (s₁.setTop (mkF m 9 #[.val (.ref a1), .val (.int p2), .val (.int p3), .val (.ref a4), .unset] [(.int (0 : Int32))])) _
    exact own_fin X0 hx (t := .boolean) (i := .ireturn) Bd.returns Bd.notSynchronized rfl (Or.inl ⟨rfl, by simp, _, rfl⟩) (hb hby d2_9) (by decide) (by decide) ⟨by simp only [own_n4_0, if_neg c5], N0, e0⟩
def own_n4_1 (l ts : List Int32) (p2 p3 : Int32) : Int32 := if (p3 - p2) = (1 : Int32) then (if own_at l (p2 + (0 : Int32)) = own_at ts (0 : Int32) then 1 else 0) else 0
theorem ef_2_1 (m : MethodId) (x0 : Addr) (x1 : Int32) (x2 : Int32) (x3 : Addr) : entryFrame m #[(.ref x0), (.int x1), (.int x2), (.ref x3)] 5 = mkF m 0 #[.val (.ref x0), .val (.int x1), .val (.int x2), .val (.ref x3), .unset] [] := by first | (simp [entryFrame, mkF, argsToLocals, Value.category]; done) | rfl
theorem d2_20 : decode prog_61_method_3_code 20 = .ok (.aload_n 0, 1) := by decide +kernel
theorem d2_21 : decode prog_61_method_3_code 21 = .ok (.iload_n 1, 1) := by decide +kernel
theorem d2_22 : decode prog_61_method_3_code 22 = .ok (.iload 4, 2) := by decide +kernel
theorem d2_24 : decode prog_61_method_3_code 24 = .ok (.iadd, 1) := by decide +kernel
theorem d2_25 : decode prog_61_method_3_code 25 = .ok (.baload, 1) := by decide +kernel
theorem d2_26 : decode prog_61_method_3_code 26 = .ok (.aload_n 3, 1) := by decide +kernel
theorem d2_27 : decode prog_61_method_3_code 27 = .ok (.iload 4, 2) := by decide +kernel
theorem d2_29 : decode prog_61_method_3_code 29 = .ok (.baload, 1) := by decide +kernel
theorem d2_30 : decode prog_61_method_3_code 30 = .ok (.if_icmp .eq 5, 3) := by decide +kernel
theorem d2_35 : decode prog_61_method_3_code 35 = .ok (.iinc 4 1, 3) := by decide +kernel
theorem d2_38 : decode prog_61_method_3_code 38 = .ok (.goto (-25), 3) := by decide +kernel
theorem d2_33 : decode prog_61_method_3_code 33 = .ok (.iconst 0, 1) := by decide +kernel
theorem d2_34 : decode prog_61_method_3_code 34 = .ok (.ireturn, 1) := by decide +kernel
set_option maxRecDepth 65536 in
set_option maxHeartbeats 40000000 in
theorem rm2_1 (l : Launch) (Z : State) (a0 : Array Value) (hw : ∀ d ∈ tables_1, d.before a0 Z = true) (ws : List Jvm.Cond) (a1 : Addr) (p2 p3 : Int32) (a4 : Addr) (l_ ts : List Int32) (kb kt : ClassId) (h0 : Heap) (n0 : Nat) (V : Arv Z h0 a1 kb .byte (5 : Int32) (l_.map Value.int) (.int 0)) (Vt : Arv Z h0 a4 kt .byte (1 : Int32) (ts.map Value.int) (.int 0)) (i0 : 0 ≤ p2.toInt) (i1 : p3.toInt ≤ (5 : Int32).toInt) (i2 : 0 ≤ p3.toInt) :
    MetFree l (⟨"com/example/lastkey/lastkey/exec/TextFormat", "isNull", "([BII[B)Z"⟩ : MethodName) (head1 (Jvm.Cond.code (⟨"com/example/lastkey/lastkey/exec/TextFormat", "isNull", "([BII[B)Z"⟩ : MethodName) prog_61_method_3_code 5 (some .boolean) :: ws) ({ frames := 0, cells := 0, slots := 0, locals := 0 } : Room)) (fun a U => a = #[(.ref a1), (.int p2), (.int p3), (.ref a4)] ∧ Z.Warmed39 U.vm ∧ U.heap = h0) (fun _ _ _ _ _ => True) (fun _ U o U' => ∃ v L, o = .returned v ∧ own_Pure (.int (own_n4_1 l_ ts p2 p3)) h0 n0 v U'.heap L ∧ FrameEnd U o U' L ({ frames := 0, cells := 0, slots := 0, locals := 0 } : Room).cells ({ frames := 0, cells := 0, slots := 0, locals := 0 } : Room).slots) := by
  refine MetFree.of_bodySF (plainFor_of_name pn_com_example_lastkey_lastkey_exec_TextFormat) hisR ?_
  intro p e s m args below meth c s₁ Bd hml0 hP hK
  obtain ⟨rfl, hZ, hh⟩ := hP
  have hx := Bd.exec
  have hby := Bd.bytes
  have hml : c.maxLocals = 5 := hml0
  have hown : s.vm.findClass "com/example/lastkey/lastkey/exec/TextFormat" = some m.cls := findClass_of_methodNamed Bd.named
  have hnm := (name_of_methodNamed Bd.named Bd.method).1
  have X0 : Stand p l e ({ frames := 0, cells := 0, slots := 0, locals := 0 } : Room) s m #[(.ref a1), (.int p2), (.int p3), (.ref a4)] below meth c s₁ [] 0 0 := Stand.of_body Bd
  have e0 : s₁.heap = h0 := by rw [← hh, Bd.state]; rfl
  have N0 := Fr.nil n0
  show own_Rch p.tables e below (s₁.setTop (entryFrame m #[(.ref a1), (.int p2), (.int p3), (.ref a4)] 5)) (own_End s (own_Pure (.int (own_n4_1 l_ ts p2 p3)) h0 n0) ({ frames := 0, cells := 0, slots := 0, locals := 0 } : Room).cells ({ frames := 0, cells := 0, slots := 0, locals := 0 } : Room).slots)
  refine own_via (fun t k => castTop (ef_2_1 m a1 p2 p3 a4) k) ?_
  show own_Rch p.tables e below (s₁.setTop (mkF m 0 #[.val (.ref a1), .val (.int p2), .val (.int p3), .val (.ref a4), .unset] [])) _
  refine own_via (fun t k => XS.iloadN X0.here hx rfl (hb hby d2_0) rfl k) ?_
  show own_Rch p.tables e below (s₁.setTop (mkF m 1 #[.val (.ref a1), .val (.int p2), .val (.int p3), .val (.ref a4), .unset] [(.int p3)])) _
  refine own_via (fun t k => XS.iloadN X0.here hx rfl (hb hby d2_1) rfl k) ?_
  show own_Rch p.tables e below (s₁.setTop (mkF m 2 #[.val (.ref a1), .val (.int p2), .val (.int p3), .val (.ref a4), .unset] [(.int p2), (.int p3)])) _
  refine own_via (fun t k => XS.isub X0.here hx rfl (hb hby d2_2) rfl k) ?_
  show own_Rch p.tables e below (s₁.setTop (mkF m 3 #[.val (.ref a1), .val (.int p2), .val (.int p3), .val (.ref a4), .unset] [(.int (p3 - p2))])) _
  refine own_via (fun t k => XS.aloadN X0.here hx rfl (hb hby d2_3) rfl rfl k) ?_
  show own_Rch p.tables e below (s₁.setTop (mkF m 4 #[.val (.ref a1), .val (.int p2), .val (.int p3), .val (.ref a4), .unset] [(.ref a4), (.int (p3 - p2))])) _
  obtain ⟨cl1, Ar1, -, S1, M1, -, -⟩ := id Vt
  refine own_via (X0.arraylength hx (by rw [e0]; exact Ar1.1) (State.isArrayOf_alike hZ.alike Ar1.2.1) (g := (mkF m 4 #[.val (.ref a1), .val (.int p2), .val (.int p3), .val (.ref a4), .unset] [(.ref a4), (.int (p3 - p2))])) rfl rfl (hb hby d2_4)) ?_
  rw [len_of S1 M1]
  show own_Rch p.tables e below (s₁.setTop (mkF m 5 #[.val (.ref a1), .val (.int p2), .val (.int p3), .val (.ref a4), .unset] [(.int (1 : Int32)), (.int (p3 - p2))])) _
  by_cases c5 : (p3 - p2) = (1 : Int32)
  · refine own_via (fun t k => XS.icmpYes X0.here hx rfl (pc0 := 5) (pc' := 10) rfl (hb hby d2_5) rfl (teq c5).1 (by decide) (by decide) k) ?_
    show own_Rch p.tables e below (s₁.setTop (mkF m 10 #[.val (.ref a1), .val (.int p2), .val (.int p3), .val (.ref a4), .unset] [])) _
    refine own_via (fun t k => XS.iconst X0.here hx rfl (hb hby d2_10) k) ?_
    show own_Rch p.tables e below (s₁.setTop (mkF m 11 #[.val (.ref a1), .val (.int p2), .val (.int p3), .val (.ref a4), .unset] [(.int (0 : Int32))])) _
    refine own_via (fun t k => XS.istore X0.here hx rfl (hb hby d2_11) rfl (l' := #[.val (.ref a1), .val (.int p2), .val (.int p3), .val (.ref a4), .val (.int (0 : Int32))]) rfl k) ?_
    show own_Rch p.tables e below (s₁.setTop (mkF m 13 #[.val (.ref a1), .val (.int p2), .val (.int p3), .val (.ref a4), .val (.int (0 : Int32))] [])) _
    refine own_via (fun t k => XS.iload X0.here hx rfl (hb hby d2_13) rfl k) ?_
    show own_Rch p.tables e below (s₁.setTop (mkF m 15 #[.val (.ref a1), .val (.int p2), .val (.int p3), .val (.ref a4), .val (.int (0 : Int32))] [(.int (0 : Int32))])) _
    refine own_via (fun t k => XS.aloadN X0.here hx rfl (hb hby d2_15) rfl rfl k) ?_
    show own_Rch p.tables e below (s₁.setTop (mkF m 16 #[.val (.ref a1), .val (.int p2), .val (.int p3), .val (.ref a4), .val (.int (0 : Int32))] [(.ref a4), (.int (0 : Int32))])) _
    obtain ⟨cl2, Ar2, -, S2, M2, -, -⟩ := id Vt
    refine own_via (X0.arraylength hx (by rw [e0]; exact Ar2.1) (State.isArrayOf_alike hZ.alike Ar2.2.1) (g := (mkF m 16 #[.val (.ref a1), .val (.int p2), .val (.int p3), .val (.ref a4), .val (.int (0 : Int32))] [(.ref a4), (.int (0 : Int32))])) rfl rfl (hb hby d2_16)) ?_
    rw [len_of S2 M2]
    show own_Rch p.tables e below (s₁.setTop (mkF m 17 #[.val (.ref a1), .val (.int p2), .val (.int p3), .val (.ref a4), .val (.int (0 : Int32))] [(.int (1 : Int32)), (.int (0 : Int32))])) _
    refine own_via (fun t k => XS.icmpNo X0.here hx rfl (hb hby d2_17) rfl (tlt (by decide : (0 : Int32) < (1 : Int32))).2.1 k) ?_
    show own_Rch p.tables e below (s₁.setTop (mkF m 20 #[.val (.ref a1), .val (.int p2), .val (.int p3), .val (.ref a4), .val (.int (0 : Int32))] [])) _
    refine own_via (fun t k => XS.aloadN X0.here hx rfl (hb hby d2_20) rfl rfl k) ?_
    show own_Rch p.tables e below (s₁.setTop (mkF m 21 #[.val (.ref a1), .val (.int p2), .val (.int p3), .val (.ref a4), .val (.int (0 : Int32))] [(.ref a1)])) _
    refine own_via (fun t k => XS.iloadN X0.here hx rfl (hb hby d2_21) rfl k) ?_
    show own_Rch p.tables e below (s₁.setTop (mkF m 22 #[.val (.ref a1), .val (.int p2), .val (.int p3), .val (.ref a4), .val (.int (0 : Int32))] [(.int p2), (.ref a1)])) _
    refine own_via (fun t k => XS.iload X0.here hx rfl (hb hby d2_22) rfl k) ?_
    show own_Rch p.tables e below (s₁.setTop (mkF m 24 #[.val (.ref a1), .val (.int p2), .val (.int p3), .val (.ref a4), .val (.int (0 : Int32))] [(.int (0 : Int32)), (.int p2), (.ref a1)])) _
    refine own_via (fun t k => XS.iadd X0.here hx rfl (hb hby d2_24) rfl k) ?_
    show own_Rch p.tables e below (s₁.setTop (mkF m 25 #[.val (.ref a1), .val (.int p2), .val (.int p3), .val (.ref a4), .val (.int (0 : Int32))] [(.int (p2 + (0 : Int32))), (.ref a1)])) _
    obtain ⟨cl3, Ar3, -, S3, M3, H3, -⟩ := id V
    have hin3 : ¬ ((p2 + (0 : Int32)) < 0 ∨ cl3.slots.size ≤ ((p2 + (0 : Int32))).toNatClampNeg) := inb_of S3 (own_in p2 p3 (1 : Int32) (0 : Int32) (5 : Int32) i0 i1 i2 c5 (by decide) (by decide))
    have hat3 : cl3.slots[((p2 + (0 : Int32))).toNatClampNeg]? = some (.int (own_at l_ (p2 + (0 : Int32)))) := Has.at H3 hin3 (own_getI l_ _)
    refine own_via (X0.baloadBytes hx (j := (p2 + (0 : Int32))) (v := (.int (own_at l_ (p2 + (0 : Int32))))) (by rw [e0]; exact Ar3.1) (State.isArrayOf_alike hZ.alike Ar3.2.1) Ar3.2.2 hin3 hat3 (g := (mkF m 25 #[.val (.ref a1), .val (.int p2), .val (.int p3), .val (.ref a4), .val (.int (0 : Int32))] [(.int (p2 + (0 : Int32))), (.ref a1)])) rfl rfl (hb hby d2_25)) ?_
    show own_Rch p.tables e below (s₁.setTop (mkF m 26 #[.val (.ref a1), .val (.int p2), .val (.int p3), .val (.ref a4), .val (.int (0 : Int32))] [(.int (own_at l_ (p2 + (0 : Int32))))])) _
    refine own_via (fun t k => XS.aloadN X0.here hx rfl (hb hby d2_26) rfl rfl k) ?_
    show own_Rch p.tables e below (s₁.setTop (mkF m 27 #[.val (.ref a1), .val (.int p2), .val (.int p3), .val (.ref a4), .val (.int (0 : Int32))] [(.ref a4), (.int (own_at l_ (p2 + (0 : Int32))))])) _
    refine own_via (fun t k => XS.iload X0.here hx rfl (hb hby d2_27) rfl k) ?_
    show own_Rch p.tables e below (s₁.setTop (mkF m 29 #[.val (.ref a1), .val (.int p2), .val (.int p3), .val (.ref a4), .val (.int (0 : Int32))] [(.int (0 : Int32)), (.ref a4), (.int (own_at l_ (p2 + (0 : Int32))))])) _
    obtain ⟨cl4, Ar4, -, S4, M4, H4, -⟩ := id Vt
    have hin4 : ¬ ((0 : Int32) < 0 ∨ cl4.slots.size ≤ ((0 : Int32)).toNatClampNeg) := inb_of S4 (⟨by decide, by decide⟩)
    have hat4 : cl4.slots[((0 : Int32)).toNatClampNeg]? = some (.int (own_at ts (0 : Int32))) := Has.at H4 hin4 (own_getI ts _)
    refine own_via (X0.baloadBytes hx (j := (0 : Int32)) (v := (.int (own_at ts (0 : Int32)))) (by rw [e0]; exact Ar4.1) (State.isArrayOf_alike hZ.alike Ar4.2.1) Ar4.2.2 hin4 hat4 (g := (mkF m 29 #[.val (.ref a1), .val (.int p2), .val (.int p3), .val (.ref a4), .val (.int (0 : Int32))] [(.int (0 : Int32)), (.ref a4), (.int (own_at l_ (p2 + (0 : Int32))))])) rfl rfl (hb hby d2_29)) ?_
    show own_Rch p.tables e below (s₁.setTop (mkF m 30 #[.val (.ref a1), .val (.int p2), .val (.int p3), .val (.ref a4), .val (.int (0 : Int32))] [(.int (own_at ts (0 : Int32))), (.int (own_at l_ (p2 + (0 : Int32))))])) _
    by_cases c30 : (own_at l_ (p2 + (0 : Int32))) = (own_at ts (0 : Int32))
    · refine own_via (fun t k => XS.icmpYes X0.here hx rfl (pc0 := 30) (pc' := 35) rfl (hb hby d2_30) rfl (teq c30).1 (by decide) (by decide) k) ?_
      show own_Rch p.tables e below (s₁.setTop (mkF m 35 #[.val (.ref a1), .val (.int p2), .val (.int p3), .val (.ref a4), .val (.int (0 : Int32))] [])) _
      refine own_via (fun t k => XS.iinc X0.here hx rfl (hb hby d2_35) rfl (l' := #[.val (.ref a1), .val (.int p2), .val (.int p3), .val (.ref a4), .val (.int (1 : Int32))]) rfl k) ?_
      show own_Rch p.tables e below (s₁.setTop (mkF m 38 #[.val (.ref a1), .val (.int p2), .val (.int p3), .val (.ref a4), .val (.int (1 : Int32))] [])) _
      refine own_via (fun t k => XS.goto X0.here hx rfl (pc0 := 38) (pc' := 13) rfl (hb hby d2_38) (by decide) (by decide) k) ?_
      show own_Rch p.tables e below (s₁.setTop (mkF m 13 #[.val (.ref a1), .val (.int p2), .val (.int p3), .val (.ref a4), .val (.int (1 : Int32))] [])) _
      refine own_via (fun t k => XS.iload X0.here hx rfl (hb hby d2_13) rfl k) ?_
      show own_Rch p.tables e below (s₁.setTop (mkF m 15 #[.val (.ref a1), .val (.int p2), .val (.int p3), .val (.ref a4), .val (.int (1 : Int32))] [(.int (1 : Int32))])) _
      refine own_via (fun t k => XS.aloadN X0.here hx rfl (hb hby d2_15) rfl rfl k) ?_
      show own_Rch p.tables e below (s₁.setTop (mkF m 16 #[.val (.ref a1), .val (.int p2), .val (.int p3), .val (.ref a4), .val (.int (1 : Int32))] [(.ref a4), (.int (1 : Int32))])) _
      obtain ⟨cl5, Ar5, -, S5, M5, -, -⟩ := id Vt
      refine own_via (X0.arraylength hx (by rw [e0]; exact Ar5.1) (State.isArrayOf_alike hZ.alike Ar5.2.1) (g := (mkF m 16 #[.val (.ref a1), .val (.int p2), .val (.int p3), .val (.ref a4), .val (.int (1 : Int32))] [(.ref a4), (.int (1 : Int32))])) rfl rfl (hb hby d2_16)) ?_
      rw [len_of S5 M5]
      show own_Rch p.tables e below (s₁.setTop (mkF m 17 #[.val (.ref a1), .val (.int p2), .val (.int p3), .val (.ref a4), .val (.int (1 : Int32))] [(.int (1 : Int32)), (.int (1 : Int32))])) _
      refine own_via (fun t k => XS.icmpYes X0.here hx rfl (pc0 := 17) (pc' := 41) rfl (hb hby d2_17) rfl (flt (by decide : ¬ ((1 : Int32) < (1 : Int32)))).2.1 (by decide) (by decide) k) ?_
      show own_Rch p.tables e below (s₁.setTop (mkF m 41 #[.val (.ref a1), .val (.int p2), .val (.int p3), .val (.ref a4), .val (.int (1 : Int32))] [])) _
      refine own_via (fun t k => XS.iconst X0.here hx rfl (hb hby d2_41) k) ?_
      show own_Rch p.tables e below (s₁.setTop (mkF m 42 #[.val (.ref a1), .val (.int p2), .val (.int p3), .val (.ref a4), .val (.int (1 : Int32))] [(.int (1 : Int32))])) _
      exact own_fin X0 hx (t := .boolean) (i := .ireturn) Bd.returns Bd.notSynchronized rfl (Or.inl ⟨rfl, by simp, _, rfl⟩) (hb hby d2_42) (by decide) (by decide) ⟨by simp only [own_n4_1, if_pos c5, if_pos c30], N0, e0⟩
    · refine own_via (fun t k => XS.icmpNo X0.here hx rfl (hb hby d2_30) rfl (feq c30).1 k) ?_
      show own_Rch p.tables e below (s₁.setTop (mkF m 33 #[.val (.ref a1), .val (.int p2), .val (.int p3), .val (.ref a4), .val (.int (0 : Int32))] [])) _
      refine own_via (fun t k => XS.iconst X0.here hx rfl (hb hby d2_33) k) ?_
      show own_Rch p.tables e below (s₁.setTop (mkF m 34 #[.val (.ref a1), .val (.int p2), .val (.int p3), .val (.ref a4), .val (.int (0 : Int32))] [(.int (0 : Int32))])) _
      exact own_fin X0 hx (t := .boolean) (i := .ireturn) Bd.returns Bd.notSynchronized rfl (Or.inl ⟨rfl, by simp, _, rfl⟩) (hb hby d2_34) (by decide) (by decide) ⟨by simp only [own_n4_1, if_pos c5, if_neg c30], N0, e0⟩
  · refine own_via (fun t k => XS.icmpNo X0.here hx rfl (hb hby d2_5) rfl (feq c5).1 k) ?_
    show own_Rch p.tables e below (s₁.setTop (mkF m 8 #[.val (.ref a1), .val (.int p2), .val (.int p3), .val (.ref a4), .unset] [])) _
    refine own_via (fun t k => XS.iconst X0.here hx rfl (hb hby d2_8) k) ?_
    show own_Rch p.tables e below (s₁.setTop (mkF m 9 #[.val (.ref a1), .val (.int p2), .val (.int p3), .val (.ref a4), .unset] [(.int (0 : Int32))])) _
    exact own_fin X0 hx (t := .boolean) (i := .ireturn) Bd.returns Bd.notSynchronized rfl (Or.inl ⟨rfl, by simp, _, rfl⟩) (hb hby d2_9) (by decide) (by decide) ⟨by simp only [own_n4_1, if_neg c5], N0, e0⟩
def own_n4_2 (l ts : List Int32) (p2 p3 : Int32) : Int32 := if (p3 - p2) = (2 : Int32) then (if own_at l (p2 + (0 : Int32)) = own_at ts (0 : Int32) then if own_at l (p2 + (1 : Int32)) = own_at ts (1 : Int32) then 1 else 0 else 0) else 0
theorem ef_2_2 (m : MethodId) (x0 : Addr) (x1 : Int32) (x2 : Int32) (x3 : Addr) : entryFrame m #[(.ref x0), (.int x1), (.int x2), (.ref x3)] 5 = mkF m 0 #[.val (.ref x0), .val (.int x1), .val (.int x2), .val (.ref x3), .unset] [] := by first | (simp [entryFrame, mkF, argsToLocals, Value.category]; done) | rfl
set_option maxRecDepth 65536 in
set_option maxHeartbeats 40000000 in
theorem rm2_2 (l : Launch) (Z : State) (a0 : Array Value) (hw : ∀ d ∈ tables_1, d.before a0 Z = true) (ws : List Jvm.Cond) (a1 : Addr) (p2 p3 : Int32) (a4 : Addr) (l_ ts : List Int32) (kb kt : ClassId) (h0 : Heap) (n0 : Nat) (V : Arv Z h0 a1 kb .byte (5 : Int32) (l_.map Value.int) (.int 0)) (Vt : Arv Z h0 a4 kt .byte (2 : Int32) (ts.map Value.int) (.int 0)) (i0 : 0 ≤ p2.toInt) (i1 : p3.toInt ≤ (5 : Int32).toInt) (i2 : 0 ≤ p3.toInt) :
    MetFree l (⟨"com/example/lastkey/lastkey/exec/TextFormat", "isNull", "([BII[B)Z"⟩ : MethodName) (head1 (Jvm.Cond.code (⟨"com/example/lastkey/lastkey/exec/TextFormat", "isNull", "([BII[B)Z"⟩ : MethodName) prog_61_method_3_code 5 (some .boolean) :: ws) ({ frames := 0, cells := 0, slots := 0, locals := 0 } : Room)) (fun a U => a = #[(.ref a1), (.int p2), (.int p3), (.ref a4)] ∧ Z.Warmed39 U.vm ∧ U.heap = h0) (fun _ _ _ _ _ => True) (fun _ U o U' => ∃ v L, o = .returned v ∧ own_Pure (.int (own_n4_2 l_ ts p2 p3)) h0 n0 v U'.heap L ∧ FrameEnd U o U' L ({ frames := 0, cells := 0, slots := 0, locals := 0 } : Room).cells ({ frames := 0, cells := 0, slots := 0, locals := 0 } : Room).slots) := by
  refine MetFree.of_bodySF (plainFor_of_name pn_com_example_lastkey_lastkey_exec_TextFormat) hisR ?_
  intro p e s m args below meth c s₁ Bd hml0 hP hK
  obtain ⟨rfl, hZ, hh⟩ := hP
  have hx := Bd.exec
  have hby := Bd.bytes
  have hml : c.maxLocals = 5 := hml0
  have hown : s.vm.findClass "com/example/lastkey/lastkey/exec/TextFormat" = some m.cls := findClass_of_methodNamed Bd.named
  have hnm := (name_of_methodNamed Bd.named Bd.method).1
  have X0 : Stand p l e ({ frames := 0, cells := 0, slots := 0, locals := 0 } : Room) s m #[(.ref a1), (.int p2), (.int p3), (.ref a4)] below meth c s₁ [] 0 0 := Stand.of_body Bd
  have e0 : s₁.heap = h0 := by rw [← hh, Bd.state]; rfl
  have N0 := Fr.nil n0
  show own_Rch p.tables e below (s₁.setTop (entryFrame m #[(.ref a1), (.int p2), (.int p3), (.ref a4)] 5)) (own_End s (own_Pure (.int (own_n4_2 l_ ts p2 p3)) h0 n0) ({ frames := 0, cells := 0, slots := 0, locals := 0 } : Room).cells ({ frames := 0, cells := 0, slots := 0, locals := 0 } : Room).slots)
  refine own_via (fun t k => castTop (ef_2_2 m a1 p2 p3 a4) k) ?_
  show own_Rch p.tables e below (s₁.setTop (mkF m 0 #[.val (.ref a1), .val (.int p2), .val (.int p3), .val (.ref a4), .unset] [])) _
  refine own_via (fun t k => XS.iloadN X0.here hx rfl (hb hby d2_0) rfl k) ?_
  show own_Rch p.tables e below (s₁.setTop (mkF m 1 #[.val (.ref a1), .val (.int p2), .val (.int p3), .val (.ref a4), .unset] [(.int p3)])) _
  refine own_via (fun t k => XS.iloadN X0.here hx rfl (hb hby d2_1) rfl k) ?_
  show own_Rch p.tables e below (s₁.setTop (mkF m 2 #[.val (.ref a1), .val (.int p2), .val (.int p3), .val (.ref a4), .unset] [(.int p2), (.int p3)])) _
  refine own_via (fun t k => XS.isub X0.here hx rfl (hb hby d2_2) rfl k) ?_
  show own_Rch p.tables e below (s₁.setTop (mkF m 3 #[.val (.ref a1), .val (.int p2), .val (.int p3), .val (.ref a4), .unset] [(.int (p3 - p2))])) _
  refine own_via (fun t k => XS.aloadN X0.here hx rfl (hb hby d2_3) rfl rfl k) ?_
  show own_Rch p.tables e below (s₁.setTop (mkF m 4 #[.val (.ref a1), .val (.int p2), .val (.int p3), .val (.ref a4), .unset] [(.ref a4), (.int (p3 - p2))])) _
  obtain ⟨cl1, Ar1, -, S1, M1, -, -⟩ := id Vt
  refine own_via (X0.arraylength hx (by rw [e0]; exact Ar1.1) (State.isArrayOf_alike hZ.alike Ar1.2.1) (g := (mkF m 4 #[.val (.ref a1), .val (.int p2), .val (.int p3), .val (.ref a4), .unset] [(.ref a4), (.int (p3 - p2))])) rfl rfl (hb hby d2_4)) ?_
  rw [len_of S1 M1]
  show own_Rch p.tables e below (s₁.setTop (mkF m 5 #[.val (.ref a1), .val (.int p2), .val (.int p3), .val (.ref a4), .unset] [(.int (2 : Int32)), (.int (p3 - p2))])) _
  by_cases c5 : (p3 - p2) = (2 : Int32)
  · refine own_via (fun t k => XS.icmpYes X0.here hx rfl (pc0 := 5) (pc' := 10) rfl (hb hby d2_5) rfl (teq c5).1 (by decide) (by decide) k) ?_
    show own_Rch p.tables e below (s₁.setTop (mkF m 10 #[.val (.ref a1), .val (.int p2), .val (.int p3), .val (.ref a4), .unset] [])) _
    refine own_via (fun t k => XS.iconst X0.here hx rfl (hb hby d2_10) k) ?_
    show own_Rch p.tables e below (s₁.setTop (mkF m 11 #[.val (.ref a1), .val (.int p2), .val (.int p3), .val (.ref a4), .unset] [(.int (0 : Int32))])) _
    refine own_via (fun t k => XS.istore X0.here hx rfl (hb hby d2_11) rfl (l' := #[.val (.ref a1), .val (.int p2), .val (.int p3), .val (.ref a4), .val (.int (0 : Int32))]) rfl k) ?_
    show own_Rch p.tables e below (s₁.setTop (mkF m 13 #[.val (.ref a1), .val (.int p2), .val (.int p3), .val (.ref a4), .val (.int (0 : Int32))] [])) _
    refine own_via (fun t k => XS.iload X0.here hx rfl (hb hby d2_13) rfl k) ?_
    show own_Rch p.tables e below (s₁.setTop (mkF m 15 #[.val (.ref a1), .val (.int p2), .val (.int p3), .val (.ref a4), .val (.int (0 : Int32))] [(.int (0 : Int32))])) _
    refine own_via (fun t k => XS.aloadN X0.here hx rfl (hb hby d2_15) rfl rfl k) ?_
    show own_Rch p.tables e below (s₁.setTop (mkF m 16 #[.val (.ref a1), .val (.int p2), .val (.int p3), .val (.ref a4), .val (.int (0 : Int32))] [(.ref a4), (.int (0 : Int32))])) _
    obtain ⟨cl2, Ar2, -, S2, M2, -, -⟩ := id Vt
    refine own_via (X0.arraylength hx (by rw [e0]; exact Ar2.1) (State.isArrayOf_alike hZ.alike Ar2.2.1) (g := (mkF m 16 #[.val (.ref a1), .val (.int p2), .val (.int p3), .val (.ref a4), .val (.int (0 : Int32))] [(.ref a4), (.int (0 : Int32))])) rfl rfl (hb hby d2_16)) ?_
    rw [len_of S2 M2]
    show own_Rch p.tables e below (s₁.setTop (mkF m 17 #[.val (.ref a1), .val (.int p2), .val (.int p3), .val (.ref a4), .val (.int (0 : Int32))] [(.int (2 : Int32)), (.int (0 : Int32))])) _
    refine own_via (fun t k => XS.icmpNo X0.here hx rfl (hb hby d2_17) rfl (tlt (by decide : (0 : Int32) < (2 : Int32))).2.1 k) ?_
    show own_Rch p.tables e below (s₁.setTop (mkF m 20 #[.val (.ref a1), .val (.int p2), .val (.int p3), .val (.ref a4), .val (.int (0 : Int32))] [])) _
    refine own_via (fun t k => XS.aloadN X0.here hx rfl (hb hby d2_20) rfl rfl k) ?_
    show own_Rch p.tables e below (s₁.setTop (mkF m 21 #[.val (.ref a1), .val (.int p2), .val (.int p3), .val (.ref a4), .val (.int (0 : Int32))] [(.ref a1)])) _
    refine own_via (fun t k => XS.iloadN X0.here hx rfl (hb hby d2_21) rfl k) ?_
    show own_Rch p.tables e below (s₁.setTop (mkF m 22 #[.val (.ref a1), .val (.int p2), .val (.int p3), .val (.ref a4), .val (.int (0 : Int32))] [(.int p2), (.ref a1)])) _
    refine own_via (fun t k => XS.iload X0.here hx rfl (hb hby d2_22) rfl k) ?_
    show own_Rch p.tables e below (s₁.setTop (mkF m 24 #[.val (.ref a1), .val (.int p2), .val (.int p3), .val (.ref a4), .val (.int (0 : Int32))] [(.int (0 : Int32)), (.int p2), (.ref a1)])) _
    refine own_via (fun t k => XS.iadd X0.here hx rfl (hb hby d2_24) rfl k) ?_
    show own_Rch p.tables e below (s₁.setTop (mkF m 25 #[.val (.ref a1), .val (.int p2), .val (.int p3), .val (.ref a4), .val (.int (0 : Int32))] [(.int (p2 + (0 : Int32))), (.ref a1)])) _
    obtain ⟨cl3, Ar3, -, S3, M3, H3, -⟩ := id V
    have hin3 : ¬ ((p2 + (0 : Int32)) < 0 ∨ cl3.slots.size ≤ ((p2 + (0 : Int32))).toNatClampNeg) := inb_of S3 (own_in p2 p3 (2 : Int32) (0 : Int32) (5 : Int32) i0 i1 i2 c5 (by decide) (by decide))
    have hat3 : cl3.slots[((p2 + (0 : Int32))).toNatClampNeg]? = some (.int (own_at l_ (p2 + (0 : Int32)))) := Has.at H3 hin3 (own_getI l_ _)
    refine own_via (X0.baloadBytes hx (j := (p2 + (0 : Int32))) (v := (.int (own_at l_ (p2 + (0 : Int32))))) (by rw [e0]; exact Ar3.1) (State.isArrayOf_alike hZ.alike Ar3.2.1) Ar3.2.2 hin3 hat3 (g := (mkF m 25 #[.val (.ref a1), .val (.int p2), .val (.int p3), .val (.ref a4), .val (.int (0 : Int32))] [(.int (p2 + (0 : Int32))), (.ref a1)])) rfl rfl (hb hby d2_25)) ?_
    show own_Rch p.tables e below (s₁.setTop (mkF m 26 #[.val (.ref a1), .val (.int p2), .val (.int p3), .val (.ref a4), .val (.int (0 : Int32))] [(.int (own_at l_ (p2 + (0 : Int32))))])) _
    refine own_via (fun t k => XS.aloadN X0.here hx rfl (hb hby d2_26) rfl rfl k) ?_
    show own_Rch p.tables e below (s₁.setTop (mkF m 27 #[.val (.ref a1), .val (.int p2), .val (.int p3), .val (.ref a4), .val (.int (0 : Int32))] [(.ref a4), (.int (own_at l_ (p2 + (0 : Int32))))])) _
    refine own_via (fun t k => XS.iload X0.here hx rfl (hb hby d2_27) rfl k) ?_
    show own_Rch p.tables e below (s₁.setTop (mkF m 29 #[.val (.ref a1), .val (.int p2), .val (.int p3), .val (.ref a4), .val (.int (0 : Int32))] [(.int (0 : Int32)), (.ref a4), (.int (own_at l_ (p2 + (0 : Int32))))])) _
    obtain ⟨cl4, Ar4, -, S4, M4, H4, -⟩ := id Vt
    have hin4 : ¬ ((0 : Int32) < 0 ∨ cl4.slots.size ≤ ((0 : Int32)).toNatClampNeg) := inb_of S4 (⟨by decide, by decide⟩)
    have hat4 : cl4.slots[((0 : Int32)).toNatClampNeg]? = some (.int (own_at ts (0 : Int32))) := Has.at H4 hin4 (own_getI ts _)
    refine own_via (X0.baloadBytes hx (j := (0 : Int32)) (v := (.int (own_at ts (0 : Int32)))) (by rw [e0]; exact Ar4.1) (State.isArrayOf_alike hZ.alike Ar4.2.1) Ar4.2.2 hin4 hat4 (g := (mkF m 29 #[.val (.ref a1), .val (.int p2), .val (.int p3), .val (.ref a4), .val (.int (0 : Int32))] [(.int (0 : Int32)), (.ref a4), (.int (own_at l_ (p2 + (0 : Int32))))])) rfl rfl (hb hby d2_29)) ?_
    show own_Rch p.tables e below (s₁.setTop (mkF m 30 #[.val (.ref a1), .val (.int p2), .val (.int p3), .val (.ref a4), .val (.int (0 : Int32))] [(.int (own_at ts (0 : Int32))), (.int (own_at l_ (p2 + (0 : Int32))))])) _
    by_cases c30 : (own_at l_ (p2 + (0 : Int32))) = (own_at ts (0 : Int32))
    · refine own_via (fun t k => XS.icmpYes X0.here hx rfl (pc0 := 30) (pc' := 35) rfl (hb hby d2_30) rfl (teq c30).1 (by decide) (by decide) k) ?_
      show own_Rch p.tables e below (s₁.setTop (mkF m 35 #[.val (.ref a1), .val (.int p2), .val (.int p3), .val (.ref a4), .val (.int (0 : Int32))] [])) _
      refine own_via (fun t k => XS.iinc X0.here hx rfl (hb hby d2_35) rfl (l' := #[.val (.ref a1), .val (.int p2), .val (.int p3), .val (.ref a4), .val (.int (1 : Int32))]) rfl k) ?_
      show own_Rch p.tables e below (s₁.setTop (mkF m 38 #[.val (.ref a1), .val (.int p2), .val (.int p3), .val (.ref a4), .val (.int (1 : Int32))] [])) _
      refine own_via (fun t k => XS.goto X0.here hx rfl (pc0 := 38) (pc' := 13) rfl (hb hby d2_38) (by decide) (by decide) k) ?_
      show own_Rch p.tables e below (s₁.setTop (mkF m 13 #[.val (.ref a1), .val (.int p2), .val (.int p3), .val (.ref a4), .val (.int (1 : Int32))] [])) _
      refine own_via (fun t k => XS.iload X0.here hx rfl (hb hby d2_13) rfl k) ?_
      show own_Rch p.tables e below (s₁.setTop (mkF m 15 #[.val (.ref a1), .val (.int p2), .val (.int p3), .val (.ref a4), .val (.int (1 : Int32))] [(.int (1 : Int32))])) _
      refine own_via (fun t k => XS.aloadN X0.here hx rfl (hb hby d2_15) rfl rfl k) ?_
      show own_Rch p.tables e below (s₁.setTop (mkF m 16 #[.val (.ref a1), .val (.int p2), .val (.int p3), .val (.ref a4), .val (.int (1 : Int32))] [(.ref a4), (.int (1 : Int32))])) _
      obtain ⟨cl5, Ar5, -, S5, M5, -, -⟩ := id Vt
      refine own_via (X0.arraylength hx (by rw [e0]; exact Ar5.1) (State.isArrayOf_alike hZ.alike Ar5.2.1) (g := (mkF m 16 #[.val (.ref a1), .val (.int p2), .val (.int p3), .val (.ref a4), .val (.int (1 : Int32))] [(.ref a4), (.int (1 : Int32))])) rfl rfl (hb hby d2_16)) ?_
      rw [len_of S5 M5]
      show own_Rch p.tables e below (s₁.setTop (mkF m 17 #[.val (.ref a1), .val (.int p2), .val (.int p3), .val (.ref a4), .val (.int (1 : Int32))] [(.int (2 : Int32)), (.int (1 : Int32))])) _
      refine own_via (fun t k => XS.icmpNo X0.here hx rfl (hb hby d2_17) rfl (tlt (by decide : (1 : Int32) < (2 : Int32))).2.1 k) ?_
      show own_Rch p.tables e below (s₁.setTop (mkF m 20 #[.val (.ref a1), .val (.int p2), .val (.int p3), .val (.ref a4), .val (.int (1 : Int32))] [])) _
      refine own_via (fun t k => XS.aloadN X0.here hx rfl (hb hby d2_20) rfl rfl k) ?_
      show own_Rch p.tables e below (s₁.setTop (mkF m 21 #[.val (.ref a1), .val (.int p2), .val (.int p3), .val (.ref a4), .val (.int (1 : Int32))] [(.ref a1)])) _
      refine own_via (fun t k => XS.iloadN X0.here hx rfl (hb hby d2_21) rfl k) ?_
      show own_Rch p.tables e below (s₁.setTop (mkF m 22 #[.val (.ref a1), .val (.int p2), .val (.int p3), .val (.ref a4), .val (.int (1 : Int32))] [(.int p2), (.ref a1)])) _
      refine own_via (fun t k => XS.iload X0.here hx rfl (hb hby d2_22) rfl k) ?_
      show own_Rch p.tables e below (s₁.setTop (mkF m 24 #[.val (.ref a1), .val (.int p2), .val (.int p3), .val (.ref a4), .val (.int (1 : Int32))] [(.int (1 : Int32)), (.int p2), (.ref a1)])) _
      refine own_via (fun t k => XS.iadd X0.here hx rfl (hb hby d2_24) rfl k) ?_
      show own_Rch p.tables e below (s₁.setTop (mkF m 25 #[.val (.ref a1), .val (.int p2), .val (.int p3), .val (.ref a4), .val (.int (1 : Int32))] [(.int (p2 + (1 : Int32))), (.ref a1)])) _
      obtain ⟨cl6, Ar6, -, S6, M6, H6, -⟩ := id V
      have hin6 : ¬ ((p2 + (1 : Int32)) < 0 ∨ cl6.slots.size ≤ ((p2 + (1 : Int32))).toNatClampNeg) := inb_of S6 (own_in p2 p3 (2 : Int32) (1 : Int32) (5 : Int32) i0 i1 i2 c5 (by decide) (by decide))
      have hat6 : cl6.slots[((p2 + (1 : Int32))).toNatClampNeg]? = some (.int (own_at l_ (p2 + (1 : Int32)))) := Has.at H6 hin6 (own_getI l_ _)
      refine own_via (X0.baloadBytes hx (j := (p2 + (1 : Int32))) (v := (.int (own_at l_ (p2 + (1 : Int32))))) (by rw [e0]; exact Ar6.1) (State.isArrayOf_alike hZ.alike Ar6.2.1) Ar6.2.2 hin6 hat6 (g := (mkF m 25 #[.val (.ref a1), .val (.int p2), .val (.int p3), .val (.ref a4), .val (.int (1 : Int32))] [(.int (p2 + (1 : Int32))), (.ref a1)])) rfl rfl (hb hby d2_25)) ?_
      show own_Rch p.tables e below (s₁.setTop (mkF m 26 #[.val (.ref a1), .val (.int p2), .val (.int p3), .val (.ref a4), .val (.int (1 : Int32))] [(.int (own_at l_ (p2 + (1 : Int32))))])) _
      refine own_via (fun t k => XS.aloadN X0.here hx rfl (hb hby d2_26) rfl rfl k) ?_
      show own_Rch p.tables e below (s₁.setTop (mkF m 27 #[.val (.ref a1), .val (.int p2), .val (.int p3), .val (.ref a4), .val (.int (1 : Int32))] [(.ref a4), (.int (own_at l_ (p2 + (1 : Int32))))])) _
      refine own_via (fun t k => XS.iload X0.here hx rfl (hb hby d2_27) rfl k) ?_
      show own_Rch p.tables e below (s₁.setTop (mkF m 29 #[.val (.ref a1), .val (.int p2), .val (.int p3), .val (.ref a4), .val (.int (1 : Int32))] [(.int (1 : Int32)), (.ref a4), (.int (own_at l_ (p2 + (1 : Int32))))])) _
      obtain ⟨cl7, Ar7, -, S7, M7, H7, -⟩ := id Vt
      have hin7 : ¬ ((1 : Int32) < 0 ∨ cl7.slots.size ≤ ((1 : Int32)).toNatClampNeg) := inb_of S7 (⟨by decide, by decide⟩)
      have hat7 : cl7.slots[((1 : Int32)).toNatClampNeg]? = some (.int (own_at ts (1 : Int32))) := Has.at H7 hin7 (own_getI ts _)
      refine own_via (X0.baloadBytes hx (j := (1 : Int32)) (v := (.int (own_at ts (1 : Int32)))) (by rw [e0]; exact Ar7.1) (State.isArrayOf_alike hZ.alike Ar7.2.1) Ar7.2.2 hin7 hat7 (g := (mkF m 29 #[.val (.ref a1), .val (.int p2), .val (.int p3), .val (.ref a4), .val (.int (1 : Int32))] [(.int (1 : Int32)), (.ref a4), (.int (own_at l_ (p2 + (1 : Int32))))])) rfl rfl (hb hby d2_29)) ?_
      show own_Rch p.tables e below (s₁.setTop (mkF m 30 #[.val (.ref a1), .val (.int p2), .val (.int p3), .val (.ref a4), .val (.int (1 : Int32))] [(.int (own_at ts (1 : Int32))), (.int (own_at l_ (p2 + (1 : Int32))))])) _
      by_cases c30' : (own_at l_ (p2 + (1 : Int32))) = (own_at ts (1 : Int32))
      · refine own_via (fun t k => XS.icmpYes X0.here hx rfl (pc0 := 30) (pc' := 35) rfl (hb hby d2_30) rfl (teq c30').1 (by decide) (by decide) k) ?_
        show own_Rch p.tables e below (s₁.setTop (mkF m 35 #[.val (.ref a1), .val (.int p2), .val (.int p3), .val (.ref a4), .val (.int (1 : Int32))] [])) _
        refine own_via (fun t k => XS.iinc X0.here hx rfl (hb hby d2_35) rfl (l' := #[.val (.ref a1), .val (.int p2), .val (.int p3), .val (.ref a4), .val (.int (2 : Int32))]) rfl k) ?_
        show own_Rch p.tables e below (s₁.setTop (mkF m 38 #[.val (.ref a1), .val (.int p2), .val (.int p3), .val (.ref a4), .val (.int (2 : Int32))] [])) _
        refine own_via (fun t k => XS.goto X0.here hx rfl (pc0 := 38) (pc' := 13) rfl (hb hby d2_38) (by decide) (by decide) k) ?_
        show own_Rch p.tables e below (s₁.setTop (mkF m 13 #[.val (.ref a1), .val (.int p2), .val (.int p3), .val (.ref a4), .val (.int (2 : Int32))] [])) _
        refine own_via (fun t k => XS.iload X0.here hx rfl (hb hby d2_13) rfl k) ?_
        show own_Rch p.tables e below (s₁.setTop (mkF m 15 #[.val (.ref a1), .val (.int p2), .val (.int p3), .val (.ref a4), .val (.int (2 : Int32))] [(.int (2 : Int32))])) _
        refine own_via (fun t k => XS.aloadN X0.here hx rfl (hb hby d2_15) rfl rfl k) ?_
        show own_Rch p.tables e below (s₁.setTop (mkF m 16 #[.val (.ref a1), .val (.int p2), .val (.int p3), .val (.ref a4), .val (.int (2 : Int32))] [(.ref a4), (.int (2 : Int32))])) _
        obtain ⟨cl8, Ar8, -, S8, M8, -, -⟩ := id Vt
        refine own_via (X0.arraylength hx (by rw [e0]; exact Ar8.1) (State.isArrayOf_alike hZ.alike Ar8.2.1) (g := (mkF m 16 #[.val (.ref a1), .val (.int p2), .val (.int p3), .val (.ref a4), .val (.int (2 : Int32))] [(.ref a4), (.int (2 : Int32))])) rfl rfl (hb hby d2_16)) ?_
        rw [len_of S8 M8]
        show own_Rch p.tables e below (s₁.setTop (mkF m 17 #[.val (.ref a1), .val (.int p2), .val (.int p3), .val (.ref a4), .val (.int (2 : Int32))] [(.int (2 : Int32)), (.int (2 : Int32))])) _
        refine own_via (fun t k => XS.icmpYes X0.here hx rfl (pc0 := 17) (pc' := 41) rfl (hb hby d2_17) rfl (flt (by decide : ¬ ((2 : Int32) < (2 : Int32)))).2.1 (by decide) (by decide) k) ?_
        show own_Rch p.tables e below (s₁.setTop (mkF m 41 #[.val (.ref a1), .val (.int p2), .val (.int p3), .val (.ref a4), .val (.int (2 : Int32))] [])) _
        refine own_via (fun t k => XS.iconst X0.here hx rfl (hb hby d2_41) k) ?_
        show own_Rch p.tables e below (s₁.setTop (mkF m 42 #[.val (.ref a1), .val (.int p2), .val (.int p3), .val (.ref a4), .val (.int (2 : Int32))] [(.int (1 : Int32))])) _
        exact own_fin X0 hx (t := .boolean) (i := .ireturn) Bd.returns Bd.notSynchronized rfl (Or.inl ⟨rfl, by simp, _, rfl⟩) (hb hby d2_42) (by decide) (by decide) ⟨by simp only [own_n4_2, if_pos c5, if_pos c30, if_pos c30'], N0, e0⟩
      · refine own_via (fun t k => XS.icmpNo X0.here hx rfl (hb hby d2_30) rfl (feq c30').1 k) ?_
        show own_Rch p.tables e below (s₁.setTop (mkF m 33 #[.val (.ref a1), .val (.int p2), .val (.int p3), .val (.ref a4), .val (.int (1 : Int32))] [])) _
        refine own_via (fun t k => XS.iconst X0.here hx rfl (hb hby d2_33) k) ?_
        show own_Rch p.tables e below (s₁.setTop (mkF m 34 #[.val (.ref a1), .val (.int p2), .val (.int p3), .val (.ref a4), .val (.int (1 : Int32))] [(.int (0 : Int32))])) _
        exact own_fin X0 hx (t := .boolean) (i := .ireturn) Bd.returns Bd.notSynchronized rfl (Or.inl ⟨rfl, by simp, _, rfl⟩) (hb hby d2_34) (by decide) (by decide) ⟨by simp only [own_n4_2, if_pos c5, if_pos c30, if_neg c30'], N0, e0⟩
    · refine own_via (fun t k => XS.icmpNo X0.here hx rfl (hb hby d2_30) rfl (feq c30).1 k) ?_
      show own_Rch p.tables e below (s₁.setTop (mkF m 33 #[.val (.ref a1), .val (.int p2), .val (.int p3), .val (.ref a4), .val (.int (0 : Int32))] [])) _
      refine own_via (fun t k => XS.iconst X0.here hx rfl (hb hby d2_33) k) ?_
      show own_Rch p.tables e below (s₁.setTop (mkF m 34 #[.val (.ref a1), .val (.int p2), .val (.int p3), .val (.ref a4), .val (.int (0 : Int32))] [(.int (0 : Int32))])) _
      exact own_fin X0 hx (t := .boolean) (i := .ireturn) Bd.returns Bd.notSynchronized rfl (Or.inl ⟨rfl, by simp, _, rfl⟩) (hb hby d2_34) (by decide) (by decide) ⟨by simp only [own_n4_2, if_pos c5, if_neg c30], N0, e0⟩
  · refine own_via (fun t k => XS.icmpNo X0.here hx rfl (hb hby d2_5) rfl (feq c5).1 k) ?_
    show own_Rch p.tables e below (s₁.setTop (mkF m 8 #[.val (.ref a1), .val (.int p2), .val (.int p3), .val (.ref a4), .unset] [])) _
    refine own_via (fun t k => XS.iconst X0.here hx rfl (hb hby d2_8) k) ?_
    show own_Rch p.tables e below (s₁.setTop (mkF m 9 #[.val (.ref a1), .val (.int p2), .val (.int p3), .val (.ref a4), .unset] [(.int (0 : Int32))])) _
    exact own_fin X0 hx (t := .boolean) (i := .ireturn) Bd.returns Bd.notSynchronized rfl (Or.inl ⟨rfl, by simp, _, rfl⟩) (hb hby d2_9) (by decide) (by decide) ⟨by simp only [own_n4_2, if_neg c5], N0, e0⟩
def own_n4_3 (l ts : List Int32) (p2 p3 : Int32) : Int32 := if (p3 - p2) = (3 : Int32) then (if own_at l (p2 + (0 : Int32)) = own_at ts (0 : Int32) then if own_at l (p2 + (1 : Int32)) = own_at ts (1 : Int32) then if own_at l (p2 + (2 : Int32)) = own_at ts (2 : Int32) then 1 else 0 else 0 else 0) else 0
theorem ef_2_3 (m : MethodId) (x0 : Addr) (x1 : Int32) (x2 : Int32) (x3 : Addr) : entryFrame m #[(.ref x0), (.int x1), (.int x2), (.ref x3)] 5 = mkF m 0 #[.val (.ref x0), .val (.int x1), .val (.int x2), .val (.ref x3), .unset] [] := by first | (simp [entryFrame, mkF, argsToLocals, Value.category]; done) | rfl
set_option maxRecDepth 65536 in
set_option maxHeartbeats 40000000 in
theorem rm2_3 (l : Launch) (Z : State) (a0 : Array Value) (hw : ∀ d ∈ tables_1, d.before a0 Z = true) (ws : List Jvm.Cond) (a1 : Addr) (p2 p3 : Int32) (a4 : Addr) (l_ ts : List Int32) (kb kt : ClassId) (h0 : Heap) (n0 : Nat) (V : Arv Z h0 a1 kb .byte (5 : Int32) (l_.map Value.int) (.int 0)) (Vt : Arv Z h0 a4 kt .byte (3 : Int32) (ts.map Value.int) (.int 0)) (i0 : 0 ≤ p2.toInt) (i1 : p3.toInt ≤ (5 : Int32).toInt) (i2 : 0 ≤ p3.toInt) :
    MetFree l (⟨"com/example/lastkey/lastkey/exec/TextFormat", "isNull", "([BII[B)Z"⟩ : MethodName) (head1 (Jvm.Cond.code (⟨"com/example/lastkey/lastkey/exec/TextFormat", "isNull", "([BII[B)Z"⟩ : MethodName) prog_61_method_3_code 5 (some .boolean) :: ws) ({ frames := 0, cells := 0, slots := 0, locals := 0 } : Room)) (fun a U => a = #[(.ref a1), (.int p2), (.int p3), (.ref a4)] ∧ Z.Warmed39 U.vm ∧ U.heap = h0) (fun _ _ _ _ _ => True) (fun _ U o U' => ∃ v L, o = .returned v ∧ own_Pure (.int (own_n4_3 l_ ts p2 p3)) h0 n0 v U'.heap L ∧ FrameEnd U o U' L ({ frames := 0, cells := 0, slots := 0, locals := 0 } : Room).cells ({ frames := 0, cells := 0, slots := 0, locals := 0 } : Room).slots) := by
  refine MetFree.of_bodySF (plainFor_of_name pn_com_example_lastkey_lastkey_exec_TextFormat) hisR ?_
  intro p e s m args below meth c s₁ Bd hml0 hP hK
  obtain ⟨rfl, hZ, hh⟩ := hP
  have hx := Bd.exec
  have hby := Bd.bytes
  have hml : c.maxLocals = 5 := hml0
  have hown : s.vm.findClass "com/example/lastkey/lastkey/exec/TextFormat" = some m.cls := findClass_of_methodNamed Bd.named
  have hnm := (name_of_methodNamed Bd.named Bd.method).1
  have X0 : Stand p l e ({ frames := 0, cells := 0, slots := 0, locals := 0 } : Room) s m #[(.ref a1), (.int p2), (.int p3), (.ref a4)] below meth c s₁ [] 0 0 := Stand.of_body Bd
  have e0 : s₁.heap = h0 := by rw [← hh, Bd.state]; rfl
  have N0 := Fr.nil n0
  show own_Rch p.tables e below (s₁.setTop (entryFrame m #[(.ref a1), (.int p2), (.int p3), (.ref a4)] 5)) (own_End s (own_Pure (.int (own_n4_3 l_ ts p2 p3)) h0 n0) ({ frames := 0, cells := 0, slots := 0, locals := 0 } : Room).cells ({ frames := 0, cells := 0, slots := 0, locals := 0 } : Room).slots)
  refine own_via (fun t k => castTop (ef_2_3 m a1 p2 p3 a4) k) ?_
  show own_Rch p.tables e below (s₁.setTop (mkF m 0 #[.val (.ref a1), .val (.int p2), .val (.int p3), .val (.ref a4), .unset] [])) _
  refine own_via (fun t k => XS.iloadN X0.here hx rfl (hb hby d2_0) rfl k) ?_
  show own_Rch p.tables e below (s₁.setTop (mkF m 1 #[.val (.ref a1), .val (.int p2), .val (.int p3), .val (.ref a4), .unset] [(.int p3)])) _
  refine own_via (fun t k => XS.iloadN X0.here hx rfl (hb hby d2_1) rfl k) ?_
  show own_Rch p.tables e below (s₁.setTop (mkF m 2 #[.val (.ref a1), .val (.int p2), .val (.int p3), .val (.ref a4), .unset] [(.int p2), (.int p3)])) _
  refine own_via (fun t k => XS.isub X0.here hx rfl (hb hby d2_2) rfl k) ?_
  show own_Rch p.tables e below (s₁.setTop (mkF m 3 #[.val (.ref a1), .val (.int p2), .val (.int p3), .val (.ref a4), .unset] [(.int (p3 - p2))])) _
  refine own_via (fun t k => XS.aloadN X0.here hx rfl (hb hby d2_3) rfl rfl k) ?_
  show own_Rch p.tables e below (s₁.setTop (mkF m 4 #[.val (.ref a1), .val (.int p2), .val (.int p3), .val (.ref a4), .unset] [(.ref a4), (.int (p3 - p2))])) _
  obtain ⟨cl1, Ar1, -, S1, M1, -, -⟩ := id Vt
  refine own_via (X0.arraylength hx (by rw [e0]; exact Ar1.1) (State.isArrayOf_alike hZ.alike Ar1.2.1) (g := (mkF m 4 #[.val (.ref a1), .val (.int p2), .val (.int p3), .val (.ref a4), .unset] [(.ref a4), (.int (p3 - p2))])) rfl rfl (hb hby d2_4)) ?_
  rw [len_of S1 M1]
  show own_Rch p.tables e below (s₁.setTop (mkF m 5 #[.val (.ref a1), .val (.int p2), .val (.int p3), .val (.ref a4), .unset] [(.int (3 : Int32)), (.int (p3 - p2))])) _
  by_cases c5 : (p3 - p2) = (3 : Int32)
  · refine own_via (fun t k => XS.icmpYes X0.here hx rfl (pc0 := 5) (pc' := 10) rfl (hb hby d2_5) rfl (teq c5).1 (by decide) (by decide) k) ?_
    show own_Rch p.tables e below (s₁.setTop (mkF m 10 #[.val (.ref a1), .val (.int p2), .val (.int p3), .val (.ref a4), .unset] [])) _
    refine own_via (fun t k => XS.iconst X0.here hx rfl (hb hby d2_10) k) ?_
    show own_Rch p.tables e below (s₁.setTop (mkF m 11 #[.val (.ref a1), .val (.int p2), .val (.int p3), .val (.ref a4), .unset] [(.int (0 : Int32))])) _
    refine own_via (fun t k => XS.istore X0.here hx rfl (hb hby d2_11) rfl (l' := #[.val (.ref a1), .val (.int p2), .val (.int p3), .val (.ref a4), .val (.int (0 : Int32))]) rfl k) ?_
    show own_Rch p.tables e below (s₁.setTop (mkF m 13 #[.val (.ref a1), .val (.int p2), .val (.int p3), .val (.ref a4), .val (.int (0 : Int32))] [])) _
    refine own_via (fun t k => XS.iload X0.here hx rfl (hb hby d2_13) rfl k) ?_
    show own_Rch p.tables e below (s₁.setTop (mkF m 15 #[.val (.ref a1), .val (.int p2), .val (.int p3), .val (.ref a4), .val (.int (0 : Int32))] [(.int (0 : Int32))])) _
    refine own_via (fun t k => XS.aloadN X0.here hx rfl (hb hby d2_15) rfl rfl k) ?_
    show own_Rch p.tables e below (s₁.setTop (mkF m 16 #[.val (.ref a1), .val (.int p2), .val (.int p3), .val (.ref a4), .val (.int (0 : Int32))] [(.ref a4), (.int (0 : Int32))])) _
    obtain ⟨cl2, Ar2, -, S2, M2, -, -⟩ := id Vt
    refine own_via (X0.arraylength hx (by rw [e0]; exact Ar2.1) (State.isArrayOf_alike hZ.alike Ar2.2.1) (g := (mkF m 16 #[.val (.ref a1), .val (.int p2), .val (.int p3), .val (.ref a4), .val (.int (0 : Int32))] [(.ref a4), (.int (0 : Int32))])) rfl rfl (hb hby d2_16)) ?_
    rw [len_of S2 M2]
    show own_Rch p.tables e below (s₁.setTop (mkF m 17 #[.val (.ref a1), .val (.int p2), .val (.int p3), .val (.ref a4), .val (.int (0 : Int32))] [(.int (3 : Int32)), (.int (0 : Int32))])) _
    refine own_via (fun t k => XS.icmpNo X0.here hx rfl (hb hby d2_17) rfl (tlt (by decide : (0 : Int32) < (3 : Int32))).2.1 k) ?_
    show own_Rch p.tables e below (s₁.setTop (mkF m 20 #[.val (.ref a1), .val (.int p2), .val (.int p3), .val (.ref a4), .val (.int (0 : Int32))] [])) _
    refine own_via (fun t k => XS.aloadN X0.here hx rfl (hb hby d2_20) rfl rfl k) ?_
    show own_Rch p.tables e below (s₁.setTop (mkF m 21 #[.val (.ref a1), .val (.int p2), .val (.int p3), .val (.ref a4), .val (.int (0 : Int32))] [(.ref a1)])) _
    refine own_via (fun t k => XS.iloadN X0.here hx rfl (hb hby d2_21) rfl k) ?_
    show own_Rch p.tables e below (s₁.setTop (mkF m 22 #[.val (.ref a1), .val (.int p2), .val (.int p3), .val (.ref a4), .val (.int (0 : Int32))] [(.int p2), (.ref a1)])) _
    refine own_via (fun t k => XS.iload X0.here hx rfl (hb hby d2_22) rfl k) ?_
    show own_Rch p.tables e below (s₁.setTop (mkF m 24 #[.val (.ref a1), .val (.int p2), .val (.int p3), .val (.ref a4), .val (.int (0 : Int32))] [(.int (0 : Int32)), (.int p2), (.ref a1)])) _
    refine own_via (fun t k => XS.iadd X0.here hx rfl (hb hby d2_24) rfl k) ?_
    show own_Rch p.tables e below (s₁.setTop (mkF m 25 #[.val (.ref a1), .val (.int p2), .val (.int p3), .val (.ref a4), .val (.int (0 : Int32))] [(.int (p2 + (0 : Int32))), (.ref a1)])) _
    obtain ⟨cl3, Ar3, -, S3, M3, H3, -⟩ := id V
    have hin3 : ¬ ((p2 + (0 : Int32)) < 0 ∨ cl3.slots.size ≤ ((p2 + (0 : Int32))).toNatClampNeg) := inb_of S3 (own_in p2 p3 (3 : Int32) (0 : Int32) (5 : Int32) i0 i1 i2 c5 (by decide) (by decide))
    have hat3 : cl3.slots[((p2 + (0 : Int32))).toNatClampNeg]? = some (.int (own_at l_ (p2 + (0 : Int32)))) := Has.at H3 hin3 (own_getI l_ _)
    refine own_via (X0.baloadBytes hx (j := (p2 + (0 : Int32))) (v := (.int (own_at l_ (p2 + (0 : Int32))))) (by rw [e0]; exact Ar3.1) (State.isArrayOf_alike hZ.alike Ar3.2.1) Ar3.2.2 hin3 hat3 (g := (mkF m 25 #[.val (.ref a1), .val (.int p2), .val (.int p3), .val (.ref a4), .val (.int (0 : Int32))] [(.int (p2 + (0 : Int32))), (.ref a1)])) rfl rfl (hb hby d2_25)) ?_
    show own_Rch p.tables e below (s₁.setTop (mkF m 26 #[.val (.ref a1), .val (.int p2), .val (.int p3), .val (.ref a4), .val (.int (0 : Int32))] [(.int (own_at l_ (p2 + (0 : Int32))))])) _
    refine own_via (fun t k => XS.aloadN X0.here hx rfl (hb hby d2_26) rfl rfl k) ?_
    show own_Rch p.tables e below (s₁.setTop (mkF m 27 #[.val (.ref a1), .val (.int p2), .val (.int p3), .val (.ref a4), .val (.int (0 : Int32))] [(.ref a4), (.int (own_at l_ (p2 + (0 : Int32))))])) _
    refine own_via (fun t k => XS.iload X0.here hx rfl (hb hby d2_27) rfl k) ?_
    show own_Rch p.tables e below (s₁.setTop (mkF m 29 #[.val (.ref a1), .val (.int p2), .val (.int p3), .val (.ref a4), .val (.int (0 : Int32))] [(.int (0 : Int32)), (.ref a4), (.int (own_at l_ (p2 + (0 : Int32))))])) _
    obtain ⟨cl4, Ar4, -, S4, M4, H4, -⟩ := id Vt
    have hin4 : ¬ ((0 : Int32) < 0 ∨ cl4.slots.size ≤ ((0 : Int32)).toNatClampNeg) := inb_of S4 (⟨by decide, by decide⟩)
    have hat4 : cl4.slots[((0 : Int32)).toNatClampNeg]? = some (.int (own_at ts (0 : Int32))) := Has.at H4 hin4 (own_getI ts _)
    refine own_via (X0.baloadBytes hx (j := (0 : Int32)) (v := (.int (own_at ts (0 : Int32)))) (by rw [e0]; exact Ar4.1) (State.isArrayOf_alike hZ.alike Ar4.2.1) Ar4.2.2 hin4 hat4 (g := (mkF m 29 #[.val (.ref a1), .val (.int p2), .val (.int p3), .val (.ref a4), .val (.int (0 : Int32))] [(.int (0 : Int32)), (.ref a4), (.int (own_at l_ (p2 + (0 : Int32))))])) rfl rfl (hb hby d2_29)) ?_
    show own_Rch p.tables e below (s₁.setTop (mkF m 30 #[.val (.ref a1), .val (.int p2), .val (.int p3), .val (.ref a4), .val (.int (0 : Int32))] [(.int (own_at ts (0 : Int32))), (.int (own_at l_ (p2 + (0 : Int32))))])) _
    by_cases c30 : (own_at l_ (p2 + (0 : Int32))) = (own_at ts (0 : Int32))
    · refine own_via (fun t k => XS.icmpYes X0.here hx rfl (pc0 := 30) (pc' := 35) rfl (hb hby d2_30) rfl (teq c30).1 (by decide) (by decide) k) ?_
      show own_Rch p.tables e below (s₁.setTop (mkF m 35 #[.val (.ref a1), .val (.int p2), .val (.int p3), .val (.ref a4), .val (.int (0 : Int32))] [])) _
      refine own_via (fun t k => XS.iinc X0.here hx rfl (hb hby d2_35) rfl (l' := #[.val (.ref a1), .val (.int p2), .val (.int p3), .val (.ref a4), .val (.int (1 : Int32))]) rfl k) ?_
      show own_Rch p.tables e below (s₁.setTop (mkF m 38 #[.val (.ref a1), .val (.int p2), .val (.int p3), .val (.ref a4), .val (.int (1 : Int32))] [])) _
      refine own_via (fun t k => XS.goto X0.here hx rfl (pc0 := 38) (pc' := 13) rfl (hb hby d2_38) (by decide) (by decide) k) ?_
      show own_Rch p.tables e below (s₁.setTop (mkF m 13 #[.val (.ref a1), .val (.int p2), .val (.int p3), .val (.ref a4), .val (.int (1 : Int32))] [])) _
      refine own_via (fun t k => XS.iload X0.here hx rfl (hb hby d2_13) rfl k) ?_
      show own_Rch p.tables e below (s₁.setTop (mkF m 15 #[.val (.ref a1), .val (.int p2), .val (.int p3), .val (.ref a4), .val (.int (1 : Int32))] [(.int (1 : Int32))])) _
      refine own_via (fun t k => XS.aloadN X0.here hx rfl (hb hby d2_15) rfl rfl k) ?_
      show own_Rch p.tables e below (s₁.setTop (mkF m 16 #[.val (.ref a1), .val (.int p2), .val (.int p3), .val (.ref a4), .val (.int (1 : Int32))] [(.ref a4), (.int (1 : Int32))])) _
      obtain ⟨cl5, Ar5, -, S5, M5, -, -⟩ := id Vt
      refine own_via (X0.arraylength hx (by rw [e0]; exact Ar5.1) (State.isArrayOf_alike hZ.alike Ar5.2.1) (g := (mkF m 16 #[.val (.ref a1), .val (.int p2), .val (.int p3), .val (.ref a4), .val (.int (1 : Int32))] [(.ref a4), (.int (1 : Int32))])) rfl rfl (hb hby d2_16)) ?_
      rw [len_of S5 M5]
      show own_Rch p.tables e below (s₁.setTop (mkF m 17 #[.val (.ref a1), .val (.int p2), .val (.int p3), .val (.ref a4), .val (.int (1 : Int32))] [(.int (3 : Int32)), (.int (1 : Int32))])) _
      refine own_via (fun t k => XS.icmpNo X0.here hx rfl (hb hby d2_17) rfl (tlt (by decide : (1 : Int32) < (3 : Int32))).2.1 k) ?_
      show own_Rch p.tables e below (s₁.setTop (mkF m 20 #[.val (.ref a1), .val (.int p2), .val (.int p3), .val (.ref a4), .val (.int (1 : Int32))] [])) _
      refine own_via (fun t k => XS.aloadN X0.here hx rfl (hb hby d2_20) rfl rfl k) ?_
      show own_Rch p.tables e below (s₁.setTop (mkF m 21 #[.val (.ref a1), .val (.int p2), .val (.int p3), .val (.ref a4), .val (.int (1 : Int32))] [(.ref a1)])) _
      refine own_via (fun t k => XS.iloadN X0.here hx rfl (hb hby d2_21) rfl k) ?_
      show own_Rch p.tables e below (s₁.setTop (mkF m 22 #[.val (.ref a1), .val (.int p2), .val (.int p3), .val (.ref a4), .val (.int (1 : Int32))] [(.int p2), (.ref a1)])) _
      refine own_via (fun t k => XS.iload X0.here hx rfl (hb hby d2_22) rfl k) ?_
      show own_Rch p.tables e below (s₁.setTop (mkF m 24 #[.val (.ref a1), .val (.int p2), .val (.int p3), .val (.ref a4), .val (.int (1 : Int32))] [(.int (1 : Int32)), (.int p2), (.ref a1)])) _
      refine own_via (fun t k => XS.iadd X0.here hx rfl (hb hby d2_24) rfl k) ?_
      show own_Rch p.tables e below (s₁.setTop (mkF m 25 #[.val (.ref a1), .val (.int p2), .val (.int p3), .val (.ref a4), .val (.int (1 : Int32))] [(.int (p2 + (1 : Int32))), (.ref a1)])) _
      obtain ⟨cl6, Ar6, -, S6, M6, H6, -⟩ := id V
      have hin6 : ¬ ((p2 + (1 : Int32)) < 0 ∨ cl6.slots.size ≤ ((p2 + (1 : Int32))).toNatClampNeg) := inb_of S6 (own_in p2 p3 (3 : Int32) (1 : Int32) (5 : Int32) i0 i1 i2 c5 (by decide) (by decide))
      have hat6 : cl6.slots[((p2 + (1 : Int32))).toNatClampNeg]? = some (.int (own_at l_ (p2 + (1 : Int32)))) := Has.at H6 hin6 (own_getI l_ _)
      refine own_via (X0.baloadBytes hx (j := (p2 + (1 : Int32))) (v := (.int (own_at l_ (p2 + (1 : Int32))))) (by rw [e0]; exact Ar6.1) (State.isArrayOf_alike hZ.alike Ar6.2.1) Ar6.2.2 hin6 hat6 (g := (mkF m 25 #[.val (.ref a1), .val (.int p2), .val (.int p3), .val (.ref a4), .val (.int (1 : Int32))] [(.int (p2 + (1 : Int32))), (.ref a1)])) rfl rfl (hb hby d2_25)) ?_
      show own_Rch p.tables e below (s₁.setTop (mkF m 26 #[.val (.ref a1), .val (.int p2), .val (.int p3), .val (.ref a4), .val (.int (1 : Int32))] [(.int (own_at l_ (p2 + (1 : Int32))))])) _
      refine own_via (fun t k => XS.aloadN X0.here hx rfl (hb hby d2_26) rfl rfl k) ?_
      show own_Rch p.tables e below (s₁.setTop (mkF m 27 #[.val (.ref a1), .val (.int p2), .val (.int p3), .val (.ref a4), .val (.int (1 : Int32))] [(.ref a4), (.int (own_at l_ (p2 + (1 : Int32))))])) _
      refine own_via (fun t k => XS.iload X0.here hx rfl (hb hby d2_27) rfl k) ?_
      show own_Rch p.tables e below (s₁.setTop (mkF m 29 #[.val (.ref a1), .val (.int p2), .val (.int p3), .val (.ref a4), .val (.int (1 : Int32))] [(.int (1 : Int32)), (.ref a4), (.int (own_at l_ (p2 + (1 : Int32))))])) _
      obtain ⟨cl7, Ar7, -, S7, M7, H7, -⟩ := id Vt
      have hin7 : ¬ ((1 : Int32) < 0 ∨ cl7.slots.size ≤ ((1 : Int32)).toNatClampNeg) := inb_of S7 (⟨by decide, by decide⟩)
      have hat7 : cl7.slots[((1 : Int32)).toNatClampNeg]? = some (.int (own_at ts (1 : Int32))) := Has.at H7 hin7 (own_getI ts _)
      refine own_via (X0.baloadBytes hx (j := (1 : Int32)) (v := (.int (own_at ts (1 : Int32)))) (by rw [e0]; exact Ar7.1) (State.isArrayOf_alike hZ.alike Ar7.2.1) Ar7.2.2 hin7 hat7 (g := (mkF m 29 #[.val (.ref a1), .val (.int p2), .val (.int p3), .val (.ref a4), .val (.int (1 : Int32))] [(.int (1 : Int32)), (.ref a4), (.int (own_at l_ (p2 + (1 : Int32))))])) rfl rfl (hb hby d2_29)) ?_
      show own_Rch p.tables e below (s₁.setTop (mkF m 30 #[.val (.ref a1), .val (.int p2), .val (.int p3), .val (.ref a4), .val (.int (1 : Int32))] [(.int (own_at ts (1 : Int32))), (.int (own_at l_ (p2 + (1 : Int32))))])) _
      by_cases c30' : (own_at l_ (p2 + (1 : Int32))) = (own_at ts (1 : Int32))
      · refine own_via (fun t k => XS.icmpYes X0.here hx rfl (pc0 := 30) (pc' := 35) rfl (hb hby d2_30) rfl (teq c30').1 (by decide) (by decide) k) ?_
        show own_Rch p.tables e below (s₁.setTop (mkF m 35 #[.val (.ref a1), .val (.int p2), .val (.int p3), .val (.ref a4), .val (.int (1 : Int32))] [])) _
        refine own_via (fun t k => XS.iinc X0.here hx rfl (hb hby d2_35) rfl (l' := #[.val (.ref a1), .val (.int p2), .val (.int p3), .val (.ref a4), .val (.int (2 : Int32))]) rfl k) ?_
        show own_Rch p.tables e below (s₁.setTop (mkF m 38 #[.val (.ref a1), .val (.int p2), .val (.int p3), .val (.ref a4), .val (.int (2 : Int32))] [])) _
        refine own_via (fun t k => XS.goto X0.here hx rfl (pc0 := 38) (pc' := 13) rfl (hb hby d2_38) (by decide) (by decide) k) ?_
        show own_Rch p.tables e below (s₁.setTop (mkF m 13 #[.val (.ref a1), .val (.int p2), .val (.int p3), .val (.ref a4), .val (.int (2 : Int32))] [])) _
        refine own_via (fun t k => XS.iload X0.here hx rfl (hb hby d2_13) rfl k) ?_
        show own_Rch p.tables e below (s₁.setTop (mkF m 15 #[.val (.ref a1), .val (.int p2), .val (.int p3), .val (.ref a4), .val (.int (2 : Int32))] [(.int (2 : Int32))])) _
        refine own_via (fun t k => XS.aloadN X0.here hx rfl (hb hby d2_15) rfl rfl k) ?_
        show own_Rch p.tables e below (s₁.setTop (mkF m 16 #[.val (.ref a1), .val (.int p2), .val (.int p3), .val (.ref a4), .val (.int (2 : Int32))] [(.ref a4), (.int (2 : Int32))])) _
        obtain ⟨cl8, Ar8, -, S8, M8, -, -⟩ := id Vt
        refine own_via (X0.arraylength hx (by rw [e0]; exact Ar8.1) (State.isArrayOf_alike hZ.alike Ar8.2.1) (g := (mkF m 16 #[.val (.ref a1), .val (.int p2), .val (.int p3), .val (.ref a4), .val (.int (2 : Int32))] [(.ref a4), (.int (2 : Int32))])) rfl rfl (hb hby d2_16)) ?_
        rw [len_of S8 M8]
        show own_Rch p.tables e below (s₁.setTop (mkF m 17 #[.val (.ref a1), .val (.int p2), .val (.int p3), .val (.ref a4), .val (.int (2 : Int32))] [(.int (3 : Int32)), (.int (2 : Int32))])) _
        refine own_via (fun t k => XS.icmpNo X0.here hx rfl (hb hby d2_17) rfl (tlt (by decide : (2 : Int32) < (3 : Int32))).2.1 k) ?_
        show own_Rch p.tables e below (s₁.setTop (mkF m 20 #[.val (.ref a1), .val (.int p2), .val (.int p3), .val (.ref a4), .val (.int (2 : Int32))] [])) _
        refine own_via (fun t k => XS.aloadN X0.here hx rfl (hb hby d2_20) rfl rfl k) ?_
        show own_Rch p.tables e below (s₁.setTop (mkF m 21 #[.val (.ref a1), .val (.int p2), .val (.int p3), .val (.ref a4), .val (.int (2 : Int32))] [(.ref a1)])) _
        refine own_via (fun t k => XS.iloadN X0.here hx rfl (hb hby d2_21) rfl k) ?_
        show own_Rch p.tables e below (s₁.setTop (mkF m 22 #[.val (.ref a1), .val (.int p2), .val (.int p3), .val (.ref a4), .val (.int (2 : Int32))] [(.int p2), (.ref a1)])) _
        refine own_via (fun t k => XS.iload X0.here hx rfl (hb hby d2_22) rfl k) ?_
        show own_Rch p.tables e below (s₁.setTop (mkF m 24 #[.val (.ref a1), .val (.int p2), .val (.int p3), .val (.ref a4), .val (.int (2 : Int32))] [(.int (2 : Int32)), (.int p2), (.ref a1)])) _
        refine own_via (fun t k => XS.iadd X0.here hx rfl (hb hby d2_24) rfl k) ?_
        show own_Rch p.tables e below (s₁.setTop (mkF m 25 #[.val (.ref a1), .val (.int p2), .val (.int p3), .val (.ref a4), .val (.int (2 : Int32))] [(.int (p2 + (2 : Int32))), (.ref a1)])) _
        obtain ⟨cl9, Ar9, -, S9, M9, H9, -⟩ := id V
        have hin9 : ¬ ((p2 + (2 : Int32)) < 0 ∨ cl9.slots.size ≤ ((p2 + (2 : Int32))).toNatClampNeg) := inb_of S9 (own_in p2 p3 (3 : Int32) (2 : Int32) (5 : Int32) i0 i1 i2 c5 (by decide) (by decide))
        have hat9 : cl9.slots[((p2 + (2 : Int32))).toNatClampNeg]? = some (.int (own_at l_ (p2 + (2 : Int32)))) := Has.at H9 hin9 (own_getI l_ _)
        refine own_via (X0.baloadBytes hx (j := (p2 + (2 : Int32))) (v := (.int (own_at l_ (p2 + (2 : Int32))))) (by rw [e0]; exact Ar9.1) (State.isArrayOf_alike hZ.alike Ar9.2.1) Ar9.2.2 hin9 hat9 (g := (mkF m 25 #[.val (.ref a1), .val (.int p2), .val (.int p3), .val (.ref a4), .val (.int (2 : Int32))] [(.int (p2 + (2 : Int32))), (.ref a1)])) rfl rfl (hb hby d2_25)) ?_
        show own_Rch p.tables e below (s₁.setTop (mkF m 26 #[.val (.ref a1), .val (.int p2), .val (.int p3), .val (.ref a4), .val (.int (2 : Int32))] [(.int (own_at l_ (p2 + (2 : Int32))))])) _
        refine own_via (fun t k => XS.aloadN X0.here hx rfl (hb hby d2_26) rfl rfl k) ?_
        show own_Rch p.tables e below (s₁.setTop (mkF m 27 #[.val (.ref a1), .val (.int p2), .val (.int p3), .val (.ref a4), .val (.int (2 : Int32))] [(.ref a4), (.int (own_at l_ (p2 + (2 : Int32))))])) _
        refine own_via (fun t k => XS.iload X0.here hx rfl (hb hby d2_27) rfl k) ?_
        show own_Rch p.tables e below (s₁.setTop (mkF m 29 #[.val (.ref a1), .val (.int p2), .val (.int p3), .val (.ref a4), .val (.int (2 : Int32))] [(.int (2 : Int32)), (.ref a4), (.int (own_at l_ (p2 + (2 : Int32))))])) _
        obtain ⟨cl10, Ar10, -, S10, M10, H10, -⟩ := id Vt
        have hin10 : ¬ ((2 : Int32) < 0 ∨ cl10.slots.size ≤ ((2 : Int32)).toNatClampNeg) := inb_of S10 (⟨by decide, by decide⟩)
        have hat10 : cl10.slots[((2 : Int32)).toNatClampNeg]? = some (.int (own_at ts (2 : Int32))) := Has.at H10 hin10 (own_getI ts _)
        refine own_via (X0.baloadBytes hx (j := (2 : Int32)) (v := (.int (own_at ts (2 : Int32)))) (by rw [e0]; exact Ar10.1) (State.isArrayOf_alike hZ.alike Ar10.2.1) Ar10.2.2 hin10 hat10 (g := (mkF m 29 #[.val (.ref a1), .val (.int p2), .val (.int p3), .val (.ref a4), .val (.int (2 : Int32))] [(.int (2 : Int32)), (.ref a4), (.int (own_at l_ (p2 + (2 : Int32))))])) rfl rfl (hb hby d2_29)) ?_
        show own_Rch p.tables e below (s₁.setTop (mkF m 30 #[.val (.ref a1), .val (.int p2), .val (.int p3), .val (.ref a4), .val (.int (2 : Int32))] [(.int (own_at ts (2 : Int32))), (.int (own_at l_ (p2 + (2 : Int32))))])) _
        by_cases c30'' : (own_at l_ (p2 + (2 : Int32))) = (own_at ts (2 : Int32))
        · refine own_via (fun t k => XS.icmpYes X0.here hx rfl (pc0 := 30) (pc' := 35) rfl (hb hby d2_30) rfl (teq c30'').1 (by decide) (by decide) k) ?_
          show own_Rch p.tables e below (s₁.setTop (mkF m 35 #[.val (.ref a1), .val (.int p2), .val (.int p3), .val (.ref a4), .val (.int (2 : Int32))] [])) _
          refine own_via (fun t k => XS.iinc X0.here hx rfl (hb hby d2_35) rfl (l' := #[.val (.ref a1), .val (.int p2), .val (.int p3), .val (.ref a4), .val (.int (3 : Int32))]) rfl k) ?_
          show own_Rch p.tables e below (s₁.setTop (mkF m 38 #[.val (.ref a1), .val (.int p2), .val (.int p3), .val (.ref a4), .val (.int (3 : Int32))] [])) _
          refine own_via (fun t k => XS.goto X0.here hx rfl (pc0 := 38) (pc' := 13) rfl (hb hby d2_38) (by decide) (by decide) k) ?_
          show own_Rch p.tables e below (s₁.setTop (mkF m 13 #[.val (.ref a1), .val (.int p2), .val (.int p3), .val (.ref a4), .val (.int (3 : Int32))] [])) _
          refine own_via (fun t k => XS.iload X0.here hx rfl (hb hby d2_13) rfl k) ?_
          show own_Rch p.tables e below (s₁.setTop (mkF m 15 #[.val (.ref a1), .val (.int p2), .val (.int p3), .val (.ref a4), .val (.int (3 : Int32))] [(.int (3 : Int32))])) _
          refine own_via (fun t k => XS.aloadN X0.here hx rfl (hb hby d2_15) rfl rfl k) ?_
          show own_Rch p.tables e below (s₁.setTop (mkF m 16 #[.val (.ref a1), .val (.int p2), .val (.int p3), .val (.ref a4), .val (.int (3 : Int32))] [(.ref a4), (.int (3 : Int32))])) _
          obtain ⟨cl11, Ar11, -, S11, M11, -, -⟩ := id Vt
          refine own_via (X0.arraylength hx (by rw [e0]; exact Ar11.1) (State.isArrayOf_alike hZ.alike Ar11.2.1) (g := (mkF m 16 #[.val (.ref a1), .val (.int p2), .val (.int p3), .val (.ref a4), .val (.int (3 : Int32))] [(.ref a4), (.int (3 : Int32))])) rfl rfl (hb hby d2_16)) ?_
          rw [len_of S11 M11]
          show own_Rch p.tables e below (s₁.setTop (mkF m 17 #[.val (.ref a1), .val (.int p2), .val (.int p3), .val (.ref a4), .val (.int (3 : Int32))] [(.int (3 : Int32)), (.int (3 : Int32))])) _
          refine own_via (fun t k => XS.icmpYes X0.here hx rfl (pc0 := 17) (pc' := 41) rfl (hb hby d2_17) rfl (flt (by decide : ¬ ((3 : Int32) < (3 : Int32)))).2.1 (by decide) (by decide) k) ?_
          show own_Rch p.tables e below (s₁.setTop (mkF m 41 #[.val (.ref a1), .val (.int p2), .val (.int p3), .val (.ref a4), .val (.int (3 : Int32))] [])) _
          refine own_via (fun t k => XS.iconst X0.here hx rfl (hb hby d2_41) k) ?_
          show own_Rch p.tables e below (s₁.setTop (mkF m 42 #[.val (.ref a1), .val (.int p2), .val (.int p3), .val (.ref a4), .val (.int (3 : Int32))] [(.int (1 : Int32))])) _
          exact own_fin X0 hx (t := .boolean) (i := .ireturn) Bd.returns Bd.notSynchronized rfl (Or.inl ⟨rfl, by simp, _, rfl⟩) (hb hby d2_42) (by decide) (by decide) ⟨by simp only [own_n4_3, if_pos c5, if_pos c30, if_pos c30', if_pos c30''], N0, e0⟩
        · refine own_via (fun t k => XS.icmpNo X0.here hx rfl (hb hby d2_30) rfl (feq c30'').1 k) ?_
          show own_Rch p.tables e below (s₁.setTop (mkF m 33 #[.val (.ref a1), .val (.int p2), .val (.int p3), .val (.ref a4), .val (.int (2 : Int32))] [])) _
          refine own_via (fun t k => XS.iconst X0.here hx rfl (hb hby d2_33) k) ?_
          show own_Rch p.tables e below (s₁.setTop (mkF m 34 #[.val (.ref a1), .val (.int p2), .val (.int p3), .val (.ref a4), .val (.int (2 : Int32))] [(.int (0 : Int32))])) _
          exact own_fin X0 hx (t := .boolean) (i := .ireturn) Bd.returns Bd.notSynchronized rfl (Or.inl ⟨rfl, by simp, _, rfl⟩) (hb hby d2_34) (by decide) (by decide) ⟨by simp only [own_n4_3, if_pos c5, if_pos c30, if_pos c30', if_neg c30''], N0, e0⟩
      · refine own_via (fun t k => XS.icmpNo X0.here hx rfl (hb hby d2_30) rfl (feq c30').1 k) ?_
        show own_Rch p.tables e below (s₁.setTop (mkF m 33 #[.val (.ref a1), .val (.int p2), .val (.int p3), .val (.ref a4), .val (.int (1 : Int32))] [])) _
        refine own_via (fun t k => XS.iconst X0.here hx rfl (hb hby d2_33) k) ?_
        show own_Rch p.tables e below (s₁.setTop (mkF m 34 #[.val (.ref a1), .val (.int p2), .val (.int p3), .val (.ref a4), .val (.int (1 : Int32))] [(.int (0 : Int32))])) _
        exact own_fin X0 hx (t := .boolean) (i := .ireturn) Bd.returns Bd.notSynchronized rfl (Or.inl ⟨rfl, by simp, _, rfl⟩) (hb hby d2_34) (by decide) (by decide) ⟨by simp only [own_n4_3, if_pos c5, if_pos c30, if_neg c30'], N0, e0⟩
    · refine own_via (fun t k => XS.icmpNo X0.here hx rfl (hb hby d2_30) rfl (feq c30).1 k) ?_
      show own_Rch p.tables e below (s₁.setTop (mkF m 33 #[.val (.ref a1), .val (.int p2), .val (.int p3), .val (.ref a4), .val (.int (0 : Int32))] [])) _
      refine own_via (fun t k => XS.iconst X0.here hx rfl (hb hby d2_33) k) ?_
      show own_Rch p.tables e below (s₁.setTop (mkF m 34 #[.val (.ref a1), .val (.int p2), .val (.int p3), .val (.ref a4), .val (.int (0 : Int32))] [(.int (0 : Int32))])) _
      exact own_fin X0 hx (t := .boolean) (i := .ireturn) Bd.returns Bd.notSynchronized rfl (Or.inl ⟨rfl, by simp, _, rfl⟩) (hb hby d2_34) (by decide) (by decide) ⟨by simp only [own_n4_3, if_pos c5, if_neg c30], N0, e0⟩
  · refine own_via (fun t k => XS.icmpNo X0.here hx rfl (hb hby d2_5) rfl (feq c5).1 k) ?_
    show own_Rch p.tables e below (s₁.setTop (mkF m 8 #[.val (.ref a1), .val (.int p2), .val (.int p3), .val (.ref a4), .unset] [])) _
    refine own_via (fun t k => XS.iconst X0.here hx rfl (hb hby d2_8) k) ?_
    show own_Rch p.tables e below (s₁.setTop (mkF m 9 #[.val (.ref a1), .val (.int p2), .val (.int p3), .val (.ref a4), .unset] [(.int (0 : Int32))])) _
    exact own_fin X0 hx (t := .boolean) (i := .ireturn) Bd.returns Bd.notSynchronized rfl (Or.inl ⟨rfl, by simp, _, rfl⟩) (hb hby d2_9) (by decide) (by decide) ⟨by simp only [own_n4_3, if_neg c5], N0, e0⟩
def own_n4_4 (l ts : List Int32) (p2 p3 : Int32) : Int32 := if (p3 - p2) = (4 : Int32) then (if own_at l (p2 + (0 : Int32)) = own_at ts (0 : Int32) then if own_at l (p2 + (1 : Int32)) = own_at ts (1 : Int32) then if own_at l (p2 + (2 : Int32)) = own_at ts (2 : Int32) then if own_at l (p2 + (3 : Int32)) = own_at ts (3 : Int32) then 1 else 0 else 0 else 0 else 0) else 0
theorem ef_2_4 (m : MethodId) (x0 : Addr) (x1 : Int32) (x2 : Int32) (x3 : Addr) : entryFrame m #[(.ref x0), (.int x1), (.int x2), (.ref x3)] 5 = mkF m 0 #[.val (.ref x0), .val (.int x1), .val (.int x2), .val (.ref x3), .unset] [] := by first | (simp [entryFrame, mkF, argsToLocals, Value.category]; done) | rfl
set_option maxRecDepth 65536 in
set_option maxHeartbeats 40000000 in
theorem rm2_4 (l : Launch) (Z : State) (a0 : Array Value) (hw : ∀ d ∈ tables_1, d.before a0 Z = true) (ws : List Jvm.Cond) (a1 : Addr) (p2 p3 : Int32) (a4 : Addr) (l_ ts : List Int32) (kb kt : ClassId) (h0 : Heap) (n0 : Nat) (V : Arv Z h0 a1 kb .byte (5 : Int32) (l_.map Value.int) (.int 0)) (Vt : Arv Z h0 a4 kt .byte (4 : Int32) (ts.map Value.int) (.int 0)) (i0 : 0 ≤ p2.toInt) (i1 : p3.toInt ≤ (5 : Int32).toInt) (i2 : 0 ≤ p3.toInt) :
    MetFree l (⟨"com/example/lastkey/lastkey/exec/TextFormat", "isNull", "([BII[B)Z"⟩ : MethodName) (head1 (Jvm.Cond.code (⟨"com/example/lastkey/lastkey/exec/TextFormat", "isNull", "([BII[B)Z"⟩ : MethodName) prog_61_method_3_code 5 (some .boolean) :: ws) ({ frames := 0, cells := 0, slots := 0, locals := 0 } : Room)) (fun a U => a = #[(.ref a1), (.int p2), (.int p3), (.ref a4)] ∧ Z.Warmed39 U.vm ∧ U.heap = h0) (fun _ _ _ _ _ => True) (fun _ U o U' => ∃ v L, o = .returned v ∧ own_Pure (.int (own_n4_4 l_ ts p2 p3)) h0 n0 v U'.heap L ∧ FrameEnd U o U' L ({ frames := 0, cells := 0, slots := 0, locals := 0 } : Room).cells ({ frames := 0, cells := 0, slots := 0, locals := 0 } : Room).slots) := by
  refine MetFree.of_bodySF (plainFor_of_name pn_com_example_lastkey_lastkey_exec_TextFormat) hisR ?_
  intro p e s m args below meth c s₁ Bd hml0 hP hK
  obtain ⟨rfl, hZ, hh⟩ := hP
  have hx := Bd.exec
  have hby := Bd.bytes
  have hml : c.maxLocals = 5 := hml0
  have hown : s.vm.findClass "com/example/lastkey/lastkey/exec/TextFormat" = some m.cls := findClass_of_methodNamed Bd.named
  have hnm := (name_of_methodNamed Bd.named Bd.method).1
  have X0 : Stand p l e ({ frames := 0, cells := 0, slots := 0, locals := 0 } : Room) s m #[(.ref a1), (.int p2), (.int p3), (.ref a4)] below meth c s₁ [] 0 0 := Stand.of_body Bd
  have e0 : s₁.heap = h0 := by rw [← hh, Bd.state]; rfl
  have N0 := Fr.nil n0
  show own_Rch p.tables e below (s₁.setTop (entryFrame m #[(.ref a1), (.int p2), (.int p3), (.ref a4)] 5)) (own_End s (own_Pure (.int (own_n4_4 l_ ts p2 p3)) h0 n0) ({ frames := 0, cells := 0, slots := 0, locals := 0 } : Room).cells ({ frames := 0, cells := 0, slots := 0, locals := 0 } : Room).slots)
  refine own_via (fun t k => castTop (ef_2_4 m a1 p2 p3 a4) k) ?_
  show own_Rch p.tables e below (s₁.setTop (mkF m 0 #[.val (.ref a1), .val (.int p2), .val (.int p3), .val (.ref a4), .unset] [])) _
  refine own_via (fun t k => XS.iloadN X0.here hx rfl (hb hby d2_0) rfl k) ?_
  show own_Rch p.tables e below (s₁.setTop (mkF m 1 #[.val (.ref a1), .val (.int p2), .val (.int p3), .val (.ref a4), .unset] [(.int p3)])) _
  refine own_via (fun t k => XS.iloadN X0.here hx rfl (hb hby d2_1) rfl k) ?_
  show own_Rch p.tables e below (s₁.setTop (mkF m 2 #[.val (.ref a1), .val (.int p2), .val (.int p3), .val (.ref a4), .unset] [(.int p2), (.int p3)])) _
  refine own_via (fun t k => XS.isub X0.here hx rfl (hb hby d2_2) rfl k) ?_
  show own_Rch p.tables e below (s₁.setTop (mkF m 3 #[.val (.ref a1), .val (.int p2), .val (.int p3), .val (.ref a4), .unset] [(.int (p3 - p2))])) _
  refine own_via (fun t k => XS.aloadN X0.here hx rfl (hb hby d2_3) rfl rfl k) ?_
  show own_Rch p.tables e below (s₁.setTop (mkF m 4 #[.val (.ref a1), .val (.int p2), .val (.int p3), .val (.ref a4), .unset] [(.ref a4), (.int (p3 - p2))])) _
  obtain ⟨cl1, Ar1, -, S1, M1, -, -⟩ := id Vt
  refine own_via (X0.arraylength hx (by rw [e0]; exact Ar1.1) (State.isArrayOf_alike hZ.alike Ar1.2.1) (g := (mkF m 4 #[.val (.ref a1), .val (.int p2), .val (.int p3), .val (.ref a4), .unset] [(.ref a4), (.int (p3 - p2))])) rfl rfl (hb hby d2_4)) ?_
  rw [len_of S1 M1]
  show own_Rch p.tables e below (s₁.setTop (mkF m 5 #[.val (.ref a1), .val (.int p2), .val (.int p3), .val (.ref a4), .unset] [(.int (4 : Int32)), (.int (p3 - p2))])) _
  by_cases c5 : (p3 - p2) = (4 : Int32)
  · refine own_via (fun t k => XS.icmpYes X0.here hx rfl (pc0 := 5) (pc' := 10) rfl (hb hby d2_5) rfl (teq c5).1 (by decide) (by decide) k) ?_
    show own_Rch p.tables e below (s₁.setTop (mkF m 10 #[.val (.ref a1), .val (.int p2), .val (.int p3), .val (.ref a4), .unset] [])) _
    refine own_via (fun t k => XS.iconst X0.here hx rfl (hb hby d2_10) k) ?_
    show own_Rch p.tables e below (s₁.setTop (mkF m 11 #[.val (.ref a1), .val (.int p2), .val (.int p3), .val (.ref a4), .unset] [(.int (0 : Int32))])) _
    refine own_via (fun t k => XS.istore X0.here hx rfl (hb hby d2_11) rfl (l' := #[.val (.ref a1), .val (.int p2), .val (.int p3), .val (.ref a4), .val (.int (0 : Int32))]) rfl k) ?_
    show own_Rch p.tables e below (s₁.setTop (mkF m 13 #[.val (.ref a1), .val (.int p2), .val (.int p3), .val (.ref a4), .val (.int (0 : Int32))] [])) _
    refine own_via (fun t k => XS.iload X0.here hx rfl (hb hby d2_13) rfl k) ?_
    show own_Rch p.tables e below (s₁.setTop (mkF m 15 #[.val (.ref a1), .val (.int p2), .val (.int p3), .val (.ref a4), .val (.int (0 : Int32))] [(.int (0 : Int32))])) _
    refine own_via (fun t k => XS.aloadN X0.here hx rfl (hb hby d2_15) rfl rfl k) ?_
    show own_Rch p.tables e below (s₁.setTop (mkF m 16 #[.val (.ref a1), .val (.int p2), .val (.int p3), .val (.ref a4), .val (.int (0 : Int32))] [(.ref a4), (.int (0 : Int32))])) _
    obtain ⟨cl2, Ar2, -, S2, M2, -, -⟩ := id Vt
    refine own_via (X0.arraylength hx (by rw [e0]; exact Ar2.1) (State.isArrayOf_alike hZ.alike Ar2.2.1) (g := (mkF m 16 #[.val (.ref a1), .val (.int p2), .val (.int p3), .val (.ref a4), .val (.int (0 : Int32))] [(.ref a4), (.int (0 : Int32))])) rfl rfl (hb hby d2_16)) ?_
    rw [len_of S2 M2]
    show own_Rch p.tables e below (s₁.setTop (mkF m 17 #[.val (.ref a1), .val (.int p2), .val (.int p3), .val (.ref a4), .val (.int (0 : Int32))] [(.int (4 : Int32)), (.int (0 : Int32))])) _
    refine own_via (fun t k => XS.icmpNo X0.here hx rfl (hb hby d2_17) rfl (tlt (by decide : (0 : Int32) < (4 : Int32))).2.1 k) ?_
    show own_Rch p.tables e below (s₁.setTop (mkF m 20 #[.val (.ref a1), .val (.int p2), .val (.int p3), .val (.ref a4), .val (.int (0 : Int32))] [])) _
    refine own_via (fun t k => XS.aloadN X0.here hx rfl (hb hby d2_20) rfl rfl k) ?_
    show own_Rch p.tables e below (s₁.setTop (mkF m 21 #[.val (.ref a1), .val (.int p2), .val (.int p3), .val (.ref a4), .val (.int (0 : Int32))] [(.ref a1)])) _
    refine own_via (fun t k => XS.iloadN X0.here hx rfl (hb hby d2_21) rfl k) ?_
    show own_Rch p.tables e below (s₁.setTop (mkF m 22 #[.val (.ref a1), .val (.int p2), .val (.int p3), .val (.ref a4), .val (.int (0 : Int32))] [(.int p2), (.ref a1)])) _
    refine own_via (fun t k => XS.iload X0.here hx rfl (hb hby d2_22) rfl k) ?_
    show own_Rch p.tables e below (s₁.setTop (mkF m 24 #[.val (.ref a1), .val (.int p2), .val (.int p3), .val (.ref a4), .val (.int (0 : Int32))] [(.int (0 : Int32)), (.int p2), (.ref a1)])) _
    refine own_via (fun t k => XS.iadd X0.here hx rfl (hb hby d2_24) rfl k) ?_
    show own_Rch p.tables e below (s₁.setTop (mkF m 25 #[.val (.ref a1), .val (.int p2), .val (.int p3), .val (.ref a4), .val (.int (0 : Int32))] [(.int (p2 + (0 : Int32))), (.ref a1)])) _
    obtain ⟨cl3, Ar3, -, S3, M3, H3, -⟩ := id V
    have hin3 : ¬ ((p2 + (0 : Int32)) < 0 ∨ cl3.slots.size ≤ ((p2 + (0 : Int32))).toNatClampNeg) := inb_of S3 (own_in p2 p3 (4 : Int32) (0 : Int32) (5 : Int32) i0 i1 i2 c5 (by decide) (by decide))
    have hat3 : cl3.slots[((p2 + (0 : Int32))).toNatClampNeg]? = some (.int (own_at l_ (p2 + (0 : Int32)))) := Has.at H3 hin3 (own_getI l_ _)
    refine own_via (X0.baloadBytes hx (j := (p2 + (0 : Int32))) (v := (.int (own_at l_ (p2 + (0 : Int32))))) (by rw [e0]; exact Ar3.1) (State.isArrayOf_alike hZ.alike Ar3.2.1) Ar3.2.2 hin3 hat3 (g := (mkF m 25 #[.val (.ref a1), .val (.int p2), .val (.int p3), .val (.ref a4), .val (.int (0 : Int32))] [(.int (p2 + (0 : Int32))), (.ref a1)])) rfl rfl (hb hby d2_25)) ?_
    show own_Rch p.tables e below (s₁.setTop (mkF m 26 #[.val (.ref a1), .val (.int p2), .val (.int p3), .val (.ref a4), .val (.int (0 : Int32))] [(.int (own_at l_ (p2 + (0 : Int32))))])) _
    refine own_via (fun t k => XS.aloadN X0.here hx rfl (hb hby d2_26) rfl rfl k) ?_
    show own_Rch p.tables e below (s₁.setTop (mkF m 27 #[.val (.ref a1), .val (.int p2), .val (.int p3), .val (.ref a4), .val (.int (0 : Int32))] [(.ref a4), (.int (own_at l_ (p2 + (0 : Int32))))])) _
    refine own_via (fun t k => XS.iload X0.here hx rfl (hb hby d2_27) rfl k) ?_
    show own_Rch p.tables e below (s₁.setTop (mkF m 29 #[.val (.ref a1), .val (.int p2), .val (.int p3), .val (.ref a4), .val (.int (0 : Int32))] [(.int (0 : Int32)), (.ref a4), (.int (own_at l_ (p2 + (0 : Int32))))])) _
    obtain ⟨cl4, Ar4, -, S4, M4, H4, -⟩ := id Vt
    have hin4 : ¬ ((0 : Int32) < 0 ∨ cl4.slots.size ≤ ((0 : Int32)).toNatClampNeg) := inb_of S4 (⟨by decide, by decide⟩)
    have hat4 : cl4.slots[((0 : Int32)).toNatClampNeg]? = some (.int (own_at ts (0 : Int32))) := Has.at H4 hin4 (own_getI ts _)
    refine own_via (X0.baloadBytes hx (j := (0 : Int32)) (v := (.int (own_at ts (0 : Int32)))) (by rw [e0]; exact Ar4.1) (State.isArrayOf_alike hZ.alike Ar4.2.1) Ar4.2.2 hin4 hat4 (g := (mkF m 29 #[.val (.ref a1), .val (.int p2), .val (.int p3), .val (.ref a4), .val (.int (0 : Int32))] [(.int (0 : Int32)), (.ref a4), (.int (own_at l_ (p2 + (0 : Int32))))])) rfl rfl (hb hby d2_29)) ?_
    show own_Rch p.tables e below (s₁.setTop (mkF m 30 #[.val (.ref a1), .val (.int p2), .val (.int p3), .val (.ref a4), .val (.int (0 : Int32))] [(.int (own_at ts (0 : Int32))), (.int (own_at l_ (p2 + (0 : Int32))))])) _
    by_cases c30 : (own_at l_ (p2 + (0 : Int32))) = (own_at ts (0 : Int32))
    · refine own_via (fun t k => XS.icmpYes X0.here hx rfl (pc0 := 30) (pc' := 35) rfl (hb hby d2_30) rfl (teq c30).1 (by decide) (by decide) k) ?_
      show own_Rch p.tables e below (s₁.setTop (mkF m 35 #[.val (.ref a1), .val (.int p2), .val (.int p3), .val (.ref a4), .val (.int (0 : Int32))] [])) _
      refine own_via (fun t k => XS.iinc X0.here hx rfl (hb hby d2_35) rfl (l' := #[.val (.ref a1), .val (.int p2), .val (.int p3), .val (.ref a4), .val (.int (1 : Int32))]) rfl k) ?_
      show own_Rch p.tables e below (s₁.setTop (mkF m 38 #[.val (.ref a1), .val (.int p2), .val (.int p3), .val (.ref a4), .val (.int (1 : Int32))] [])) _
      refine own_via (fun t k => XS.goto X0.here hx rfl (pc0 := 38) (pc' := 13) rfl (hb hby d2_38) (by decide) (by decide) k) ?_
      show own_Rch p.tables e below (s₁.setTop (mkF m 13 #[.val (.ref a1), .val (.int p2), .val (.int p3), .val (.ref a4), .val (.int (1 : Int32))] [])) _
      refine own_via (fun t k => XS.iload X0.here hx rfl (hb hby d2_13) rfl k) ?_
      show own_Rch p.tables e below (s₁.setTop (mkF m 15 #[.val (.ref a1), .val (.int p2), .val (.int p3), .val (.ref a4), .val (.int (1 : Int32))] [(.int (1 : Int32))])) _
      refine own_via (fun t k => XS.aloadN X0.here hx rfl (hb hby d2_15) rfl rfl k) ?_
      show own_Rch p.tables e below (s₁.setTop (mkF m 16 #[.val (.ref a1), .val (.int p2), .val (.int p3), .val (.ref a4), .val (.int (1 : Int32))] [(.ref a4), (.int (1 : Int32))])) _
      obtain ⟨cl5, Ar5, -, S5, M5, -, -⟩ := id Vt
      refine own_via (X0.arraylength hx (by rw [e0]; exact Ar5.1) (State.isArrayOf_alike hZ.alike Ar5.2.1) (g := (mkF m 16 #[.val (.ref a1), .val (.int p2), .val (.int p3), .val (.ref a4), .val (.int (1 : Int32))] [(.ref a4), (.int (1 : Int32))])) rfl rfl (hb hby d2_16)) ?_
      rw [len_of S5 M5]
      show own_Rch p.tables e below (s₁.setTop (mkF m 17 #[.val (.ref a1), .val (.int p2), .val (.int p3), .val (.ref a4), .val (.int (1 : Int32))] [(.int (4 : Int32)), (.int (1 : Int32))])) _
      refine own_via (fun t k => XS.icmpNo X0.here hx rfl (hb hby d2_17) rfl (tlt (by decide : (1 : Int32) < (4 : Int32))).2.1 k) ?_
      show own_Rch p.tables e below (s₁.setTop (mkF m 20 #[.val (.ref a1), .val (.int p2), .val (.int p3), .val (.ref a4), .val (.int (1 : Int32))] [])) _
      refine own_via (fun t k => XS.aloadN X0.here hx rfl (hb hby d2_20) rfl rfl k) ?_
      show own_Rch p.tables e below (s₁.setTop (mkF m 21 #[.val (.ref a1), .val (.int p2), .val (.int p3), .val (.ref a4), .val (.int (1 : Int32))] [(.ref a1)])) _
      refine own_via (fun t k => XS.iloadN X0.here hx rfl (hb hby d2_21) rfl k) ?_
      show own_Rch p.tables e below (s₁.setTop (mkF m 22 #[.val (.ref a1), .val (.int p2), .val (.int p3), .val (.ref a4), .val (.int (1 : Int32))] [(.int p2), (.ref a1)])) _
      refine own_via (fun t k => XS.iload X0.here hx rfl (hb hby d2_22) rfl k) ?_
      show own_Rch p.tables e below (s₁.setTop (mkF m 24 #[.val (.ref a1), .val (.int p2), .val (.int p3), .val (.ref a4), .val (.int (1 : Int32))] [(.int (1 : Int32)), (.int p2), (.ref a1)])) _
      refine own_via (fun t k => XS.iadd X0.here hx rfl (hb hby d2_24) rfl k) ?_
      show own_Rch p.tables e below (s₁.setTop (mkF m 25 #[.val (.ref a1), .val (.int p2), .val (.int p3), .val (.ref a4), .val (.int (1 : Int32))] [(.int (p2 + (1 : Int32))), (.ref a1)])) _
      obtain ⟨cl6, Ar6, -, S6, M6, H6, -⟩ := id V
      have hin6 : ¬ ((p2 + (1 : Int32)) < 0 ∨ cl6.slots.size ≤ ((p2 + (1 : Int32))).toNatClampNeg) := inb_of S6 (own_in p2 p3 (4 : Int32) (1 : Int32) (5 : Int32) i0 i1 i2 c5 (by decide) (by decide))
      have hat6 : cl6.slots[((p2 + (1 : Int32))).toNatClampNeg]? = some (.int (own_at l_ (p2 + (1 : Int32)))) := Has.at H6 hin6 (own_getI l_ _)
      refine own_via (X0.baloadBytes hx (j := (p2 + (1 : Int32))) (v := (.int (own_at l_ (p2 + (1 : Int32))))) (by rw [e0]; exact Ar6.1) (State.isArrayOf_alike hZ.alike Ar6.2.1) Ar6.2.2 hin6 hat6 (g := (mkF m 25 #[.val (.ref a1), .val (.int p2), .val (.int p3), .val (.ref a4), .val (.int (1 : Int32))] [(.int (p2 + (1 : Int32))), (.ref a1)])) rfl rfl (hb hby d2_25)) ?_
      show own_Rch p.tables e below (s₁.setTop (mkF m 26 #[.val (.ref a1), .val (.int p2), .val (.int p3), .val (.ref a4), .val (.int (1 : Int32))] [(.int (own_at l_ (p2 + (1 : Int32))))])) _
      refine own_via (fun t k => XS.aloadN X0.here hx rfl (hb hby d2_26) rfl rfl k) ?_
      show own_Rch p.tables e below (s₁.setTop (mkF m 27 #[.val (.ref a1), .val (.int p2), .val (.int p3), .val (.ref a4), .val (.int (1 : Int32))] [(.ref a4), (.int (own_at l_ (p2 + (1 : Int32))))])) _
      refine own_via (fun t k => XS.iload X0.here hx rfl (hb hby d2_27) rfl k) ?_
      show own_Rch p.tables e below (s₁.setTop (mkF m 29 #[.val (.ref a1), .val (.int p2), .val (.int p3), .val (.ref a4), .val (.int (1 : Int32))] [(.int (1 : Int32)), (.ref a4), (.int (own_at l_ (p2 + (1 : Int32))))])) _
      obtain ⟨cl7, Ar7, -, S7, M7, H7, -⟩ := id Vt
      have hin7 : ¬ ((1 : Int32) < 0 ∨ cl7.slots.size ≤ ((1 : Int32)).toNatClampNeg) := inb_of S7 (⟨by decide, by decide⟩)
      have hat7 : cl7.slots[((1 : Int32)).toNatClampNeg]? = some (.int (own_at ts (1 : Int32))) := Has.at H7 hin7 (own_getI ts _)
      refine own_via (X0.baloadBytes hx (j := (1 : Int32)) (v := (.int (own_at ts (1 : Int32)))) (by rw [e0]; exact Ar7.1) (State.isArrayOf_alike hZ.alike Ar7.2.1) Ar7.2.2 hin7 hat7 (g := (mkF m 29 #[.val (.ref a1), .val (.int p2), .val (.int p3), .val (.ref a4), .val (.int (1 : Int32))] [(.int (1 : Int32)), (.ref a4), (.int (own_at l_ (p2 + (1 : Int32))))])) rfl rfl (hb hby d2_29)) ?_
      show own_Rch p.tables e below (s₁.setTop (mkF m 30 #[.val (.ref a1), .val (.int p2), .val (.int p3), .val (.ref a4), .val (.int (1 : Int32))] [(.int (own_at ts (1 : Int32))), (.int (own_at l_ (p2 + (1 : Int32))))])) _
      by_cases c30' : (own_at l_ (p2 + (1 : Int32))) = (own_at ts (1 : Int32))
      · refine own_via (fun t k => XS.icmpYes X0.here hx rfl (pc0 := 30) (pc' := 35) rfl (hb hby d2_30) rfl (teq c30').1 (by decide) (by decide) k) ?_
        show own_Rch p.tables e below (s₁.setTop (mkF m 35 #[.val (.ref a1), .val (.int p2), .val (.int p3), .val (.ref a4), .val (.int (1 : Int32))] [])) _
        refine own_via (fun t k => XS.iinc X0.here hx rfl (hb hby d2_35) rfl (l' := #[.val (.ref a1), .val (.int p2), .val (.int p3), .val (.ref a4), .val (.int (2 : Int32))]) rfl k) ?_
        show own_Rch p.tables e below (s₁.setTop (mkF m 38 #[.val (.ref a1), .val (.int p2), .val (.int p3), .val (.ref a4), .val (.int (2 : Int32))] [])) _
        refine own_via (fun t k => XS.goto X0.here hx rfl (pc0 := 38) (pc' := 13) rfl (hb hby d2_38) (by decide) (by decide) k) ?_
        show own_Rch p.tables e below (s₁.setTop (mkF m 13 #[.val (.ref a1), .val (.int p2), .val (.int p3), .val (.ref a4), .val (.int (2 : Int32))] [])) _
        refine own_via (fun t k => XS.iload X0.here hx rfl (hb hby d2_13) rfl k) ?_
        show own_Rch p.tables e below (s₁.setTop (mkF m 15 #[.val (.ref a1), .val (.int p2), .val (.int p3), .val (.ref a4), .val (.int (2 : Int32))] [(.int (2 : Int32))])) _
        refine own_via (fun t k => XS.aloadN X0.here hx rfl (hb hby d2_15) rfl rfl k) ?_
        show own_Rch p.tables e below (s₁.setTop (mkF m 16 #[.val (.ref a1), .val (.int p2), .val (.int p3), .val (.ref a4), .val (.int (2 : Int32))] [(.ref a4), (.int (2 : Int32))])) _
        obtain ⟨cl8, Ar8, -, S8, M8, -, -⟩ := id Vt
        refine own_via (X0.arraylength hx (by rw [e0]; exact Ar8.1) (State.isArrayOf_alike hZ.alike Ar8.2.1) (g := (mkF m 16 #[.val (.ref a1), .val (.int p2), .val (.int p3), .val (.ref a4), .val (.int (2 : Int32))] [(.ref a4), (.int (2 : Int32))])) rfl rfl (hb hby d2_16)) ?_
        rw [len_of S8 M8]
        show own_Rch p.tables e below (s₁.setTop (mkF m 17 #[.val (.ref a1), .val (.int p2), .val (.int p3), .val (.ref a4), .val (.int (2 : Int32))] [(.int (4 : Int32)), (.int (2 : Int32))])) _
        refine own_via (fun t k => XS.icmpNo X0.here hx rfl (hb hby d2_17) rfl (tlt (by decide : (2 : Int32) < (4 : Int32))).2.1 k) ?_
        show own_Rch p.tables e below (s₁.setTop (mkF m 20 #[.val (.ref a1), .val (.int p2), .val (.int p3), .val (.ref a4), .val (.int (2 : Int32))] [])) _
        refine own_via (fun t k => XS.aloadN X0.here hx rfl (hb hby d2_20) rfl rfl k) ?_
        show own_Rch p.tables e below (s₁.setTop (mkF m 21 #[.val (.ref a1), .val (.int p2), .val (.int p3), .val (.ref a4), .val (.int (2 : Int32))] [(.ref a1)])) _
        refine own_via (fun t k => XS.iloadN X0.here hx rfl (hb hby d2_21) rfl k) ?_
        show own_Rch p.tables e below (s₁.setTop (mkF m 22 #[.val (.ref a1), .val (.int p2), .val (.int p3), .val (.ref a4), .val (.int (2 : Int32))] [(.int p2), (.ref a1)])) _
        refine own_via (fun t k => XS.iload X0.here hx rfl (hb hby d2_22) rfl k) ?_
        show own_Rch p.tables e below (s₁.setTop (mkF m 24 #[.val (.ref a1), .val (.int p2), .val (.int p3), .val (.ref a4), .val (.int (2 : Int32))] [(.int (2 : Int32)), (.int p2), (.ref a1)])) _
        refine own_via (fun t k => XS.iadd X0.here hx rfl (hb hby d2_24) rfl k) ?_
        show own_Rch p.tables e below (s₁.setTop (mkF m 25 #[.val (.ref a1), .val (.int p2), .val (.int p3), .val (.ref a4), .val (.int (2 : Int32))] [(.int (p2 + (2 : Int32))), (.ref a1)])) _
        obtain ⟨cl9, Ar9, -, S9, M9, H9, -⟩ := id V
        have hin9 : ¬ ((p2 + (2 : Int32)) < 0 ∨ cl9.slots.size ≤ ((p2 + (2 : Int32))).toNatClampNeg) := inb_of S9 (own_in p2 p3 (4 : Int32) (2 : Int32) (5 : Int32) i0 i1 i2 c5 (by decide) (by decide))
        have hat9 : cl9.slots[((p2 + (2 : Int32))).toNatClampNeg]? = some (.int (own_at l_ (p2 + (2 : Int32)))) := Has.at H9 hin9 (own_getI l_ _)
        refine own_via (X0.baloadBytes hx (j := (p2 + (2 : Int32))) (v := (.int (own_at l_ (p2 + (2 : Int32))))) (by rw [e0]; exact Ar9.1) (State.isArrayOf_alike hZ.alike Ar9.2.1) Ar9.2.2 hin9 hat9 (g := (mkF m 25 #[.val (.ref a1), .val (.int p2), .val (.int p3), .val (.ref a4), .val (.int (2 : Int32))] [(.int (p2 + (2 : Int32))), (.ref a1)])) rfl rfl (hb hby d2_25)) ?_
        show own_Rch p.tables e below (s₁.setTop (mkF m 26 #[.val (.ref a1), .val (.int p2), .val (.int p3), .val (.ref a4), .val (.int (2 : Int32))] [(.int (own_at l_ (p2 + (2 : Int32))))])) _
        refine own_via (fun t k => XS.aloadN X0.here hx rfl (hb hby d2_26) rfl rfl k) ?_
        show own_Rch p.tables e below (s₁.setTop (mkF m 27 #[.val (.ref a1), .val (.int p2), .val (.int p3), .val (.ref a4), .val (.int (2 : Int32))] [(.ref a4), (.int (own_at l_ (p2 + (2 : Int32))))])) _
        refine own_via (fun t k => XS.iload X0.here hx rfl (hb hby d2_27) rfl k) ?_
        show own_Rch p.tables e below (s₁.setTop (mkF m 29 #[.val (.ref a1), .val (.int p2), .val (.int p3), .val (.ref a4), .val (.int (2 : Int32))] [(.int (2 : Int32)), (.ref a4), (.int (own_at l_ (p2 + (2 : Int32))))])) _
        obtain ⟨cl10, Ar10, -, S10, M10, H10, -⟩ := id Vt
        have hin10 : ¬ ((2 : Int32) < 0 ∨ cl10.slots.size ≤ ((2 : Int32)).toNatClampNeg) := inb_of S10 (⟨by decide, by decide⟩)
        have hat10 : cl10.slots[((2 : Int32)).toNatClampNeg]? = some (.int (own_at ts (2 : Int32))) := Has.at H10 hin10 (own_getI ts _)
        refine own_via (X0.baloadBytes hx (j := (2 : Int32)) (v := (.int (own_at ts (2 : Int32)))) (by rw [e0]; exact Ar10.1) (State.isArrayOf_alike hZ.alike Ar10.2.1) Ar10.2.2 hin10 hat10 (g := (mkF m 29 #[.val (.ref a1), .val (.int p2), .val (.int p3), .val (.ref a4), .val (.int (2 : Int32))] [(.int (2 : Int32)), (.ref a4), (.int (own_at l_ (p2 + (2 : Int32))))])) rfl rfl (hb hby d2_29)) ?_
        show own_Rch p.tables e below (s₁.setTop (mkF m 30 #[.val (.ref a1), .val (.int p2), .val (.int p3), .val (.ref a4), .val (.int (2 : Int32))] [(.int (own_at ts (2 : Int32))), (.int (own_at l_ (p2 + (2 : Int32))))])) _
        by_cases c30'' : (own_at l_ (p2 + (2 : Int32))) = (own_at ts (2 : Int32))
        · refine own_via (fun t k => XS.icmpYes X0.here hx rfl (pc0 := 30) (pc' := 35) rfl (hb hby d2_30) rfl (teq c30'').1 (by decide) (by decide) k) ?_
          show own_Rch p.tables e below (s₁.setTop (mkF m 35 #[.val (.ref a1), .val (.int p2), .val (.int p3), .val (.ref a4), .val (.int (2 : Int32))] [])) _
          refine own_via (fun t k => XS.iinc X0.here hx rfl (hb hby d2_35) rfl (l' := #[.val (.ref a1), .val (.int p2), .val (.int p3), .val (.ref a4), .val (.int (3 : Int32))]) rfl k) ?_
          show own_Rch p.tables e below (s₁.setTop (mkF m 38 #[.val (.ref a1), .val (.int p2), .val (.int p3), .val (.ref a4), .val (.int (3 : Int32))] [])) _
          refine own_via (fun t k => XS.goto X0.here hx rfl (pc0 := 38) (pc' := 13) rfl (hb hby d2_38) (by decide) (by decide) k) ?_
          show own_Rch p.tables e below (s₁.setTop (mkF m 13 #[.val (.ref a1), .val (.int p2), .val (.int p3), .val (.ref a4), .val (.int (3 : Int32))] [])) _
          refine own_via (fun t k => XS.iload X0.here hx rfl (hb hby d2_13) rfl k) ?_
          show own_Rch p.tables e below (s₁.setTop (mkF m 15 #[.val (.ref a1), .val (.int p2), .val (.int p3), .val (.ref a4), .val (.int (3 : Int32))] [(.int (3 : Int32))])) _
          refine own_via (fun t k => XS.aloadN X0.here hx rfl (hb hby d2_15) rfl rfl k) ?_
          show own_Rch p.tables e below (s₁.setTop (mkF m 16 #[.val (.ref a1), .val (.int p2), .val (.int p3), .val (.ref a4), .val (.int (3 : Int32))] [(.ref a4), (.int (3 : Int32))])) _
          obtain ⟨cl11, Ar11, -, S11, M11, -, -⟩ := id Vt
          refine own_via (X0.arraylength hx (by rw [e0]; exact Ar11.1) (State.isArrayOf_alike hZ.alike Ar11.2.1) (g := (mkF m 16 #[.val (.ref a1), .val (.int p2), .val (.int p3), .val (.ref a4), .val (.int (3 : Int32))] [(.ref a4), (.int (3 : Int32))])) rfl rfl (hb hby d2_16)) ?_
          rw [len_of S11 M11]
          show own_Rch p.tables e below (s₁.setTop (mkF m 17 #[.val (.ref a1), .val (.int p2), .val (.int p3), .val (.ref a4), .val (.int (3 : Int32))] [(.int (4 : Int32)), (.int (3 : Int32))])) _
          refine own_via (fun t k => XS.icmpNo X0.here hx rfl (hb hby d2_17) rfl (tlt (by decide : (3 : Int32) < (4 : Int32))).2.1 k) ?_
          show own_Rch p.tables e below (s₁.setTop (mkF m 20 #[.val (.ref a1), .val (.int p2), .val (.int p3), .val (.ref a4), .val (.int (3 : Int32))] [])) _
          refine own_via (fun t k => XS.aloadN X0.here hx rfl (hb hby d2_20) rfl rfl k) ?_
          show own_Rch p.tables e below (s₁.setTop (mkF m 21 #[.val (.ref a1), .val (.int p2), .val (.int p3), .val (.ref a4), .val (.int (3 : Int32))] [(.ref a1)])) _
          refine own_via (fun t k => XS.iloadN X0.here hx rfl (hb hby d2_21) rfl k) ?_
          show own_Rch p.tables e below (s₁.setTop (mkF m 22 #[.val (.ref a1), .val (.int p2), .val (.int p3), .val (.ref a4), .val (.int (3 : Int32))] [(.int p2), (.ref a1)])) _
          refine own_via (fun t k => XS.iload X0.here hx rfl (hb hby d2_22) rfl k) ?_
          show own_Rch p.tables e below (s₁.setTop (mkF m 24 #[.val (.ref a1), .val (.int p2), .val (.int p3), .val (.ref a4), .val (.int (3 : Int32))] [(.int (3 : Int32)), (.int p2), (.ref a1)])) _
          refine own_via (fun t k => XS.iadd X0.here hx rfl (hb hby d2_24) rfl k) ?_
          show own_Rch p.tables e below (s₁.setTop (mkF m 25 #[.val (.ref a1), .val (.int p2), .val (.int p3), .val (.ref a4), .val (.int (3 : Int32))] [(.int (p2 + (3 : Int32))), (.ref a1)])) _
          obtain ⟨cl12, Ar12, -, S12, M12, H12, -⟩ := id V
          have hin12 : ¬ ((p2 + (3 : Int32)) < 0 ∨ cl12.slots.size ≤ ((p2 + (3 : Int32))).toNatClampNeg) := inb_of S12 (own_in p2 p3 (4 : Int32) (3 : Int32) (5 : Int32) i0 i1 i2 c5 (by decide) (by decide))
          have hat12 : cl12.slots[((p2 + (3 : Int32))).toNatClampNeg]? = some (.int (own_at l_ (p2 + (3 : Int32)))) := Has.at H12 hin12 (own_getI l_ _)
          refine own_via (X0.baloadBytes hx (j := (p2 + (3 : Int32))) (v := (.int (own_at l_ (p2 + (3 : Int32))))) (by rw [e0]; exact Ar12.1) (State.isArrayOf_alike hZ.alike Ar12.2.1) Ar12.2.2 hin12 hat12 (g := (mkF m 25 #[.val (.ref a1), .val (.int p2), .val (.int p3), .val (.ref a4), .val (.int (3 : Int32))] [(.int (p2 + (3 : Int32))), (.ref a1)])) rfl rfl (hb hby d2_25)) ?_
          show own_Rch p.tables e below (s₁.setTop (mkF m 26 #[.val (.ref a1), .val (.int p2), .val (.int p3), .val (.ref a4), .val (.int (3 : Int32))] [(.int (own_at l_ (p2 + (3 : Int32))))])) _
          refine own_via (fun t k => XS.aloadN X0.here hx rfl (hb hby d2_26) rfl rfl k) ?_
          show own_Rch p.tables e below (s₁.setTop (mkF m 27 #[.val (.ref a1), .val (.int p2), .val (.int p3), .val (.ref a4), .val (.int (3 : Int32))] [(.ref a4), (.int (own_at l_ (p2 + (3 : Int32))))])) _
          refine own_via (fun t k => XS.iload X0.here hx rfl (hb hby d2_27) rfl k) ?_
          show own_Rch p.tables e below (s₁.setTop (mkF m 29 #[.val (.ref a1), .val (.int p2), .val (.int p3), .val (.ref a4), .val (.int (3 : Int32))] [(.int (3 : Int32)), (.ref a4), (.int (own_at l_ (p2 + (3 : Int32))))])) _
          obtain ⟨cl13, Ar13, -, S13, M13, H13, -⟩ := id Vt
          have hin13 : ¬ ((3 : Int32) < 0 ∨ cl13.slots.size ≤ ((3 : Int32)).toNatClampNeg) := inb_of S13 (⟨by decide, by decide⟩)
          have hat13 : cl13.slots[((3 : Int32)).toNatClampNeg]? = some (.int (own_at ts (3 : Int32))) := Has.at H13 hin13 (own_getI ts _)
          refine own_via (X0.baloadBytes hx (j := (3 : Int32)) (v := (.int (own_at ts (3 : Int32)))) (by rw [e0]; exact Ar13.1) (State.isArrayOf_alike hZ.alike Ar13.2.1) Ar13.2.2 hin13 hat13 (g := (mkF m 29 #[.val (.ref a1), .val (.int p2), .val (.int p3), .val (.ref a4), .val (.int (3 : Int32))] [(.int (3 : Int32)), (.ref a4), (.int (own_at l_ (p2 + (3 : Int32))))])) rfl rfl (hb hby d2_29)) ?_
          show own_Rch p.tables e below (s₁.setTop (mkF m 30 #[.val (.ref a1), .val (.int p2), .val (.int p3), .val (.ref a4), .val (.int (3 : Int32))] [(.int (own_at ts (3 : Int32))), (.int (own_at l_ (p2 + (3 : Int32))))])) _
          by_cases c30''' : (own_at l_ (p2 + (3 : Int32))) = (own_at ts (3 : Int32))
          · refine own_via (fun t k => XS.icmpYes X0.here hx rfl (pc0 := 30) (pc' := 35) rfl (hb hby d2_30) rfl (teq c30''').1 (by decide) (by decide) k) ?_
            show own_Rch p.tables e below (s₁.setTop (mkF m 35 #[.val (.ref a1), .val (.int p2), .val (.int p3), .val (.ref a4), .val (.int (3 : Int32))] [])) _
            refine own_via (fun t k => XS.iinc X0.here hx rfl (hb hby d2_35) rfl (l' := #[.val (.ref a1), .val (.int p2), .val (.int p3), .val (.ref a4), .val (.int (4 : Int32))]) rfl k) ?_
            show own_Rch p.tables e below (s₁.setTop (mkF m 38 #[.val (.ref a1), .val (.int p2), .val (.int p3), .val (.ref a4), .val (.int (4 : Int32))] [])) _
            refine own_via (fun t k => XS.goto X0.here hx rfl (pc0 := 38) (pc' := 13) rfl (hb hby d2_38) (by decide) (by decide) k) ?_
            show own_Rch p.tables e below (s₁.setTop (mkF m 13 #[.val (.ref a1), .val (.int p2), .val (.int p3), .val (.ref a4), .val (.int (4 : Int32))] [])) _
            refine own_via (fun t k => XS.iload X0.here hx rfl (hb hby d2_13) rfl k) ?_
            show own_Rch p.tables e below (s₁.setTop (mkF m 15 #[.val (.ref a1), .val (.int p2), .val (.int p3), .val (.ref a4), .val (.int (4 : Int32))] [(.int (4 : Int32))])) _
            refine own_via (fun t k => XS.aloadN X0.here hx rfl (hb hby d2_15) rfl rfl k) ?_
            show own_Rch p.tables e below (s₁.setTop (mkF m 16 #[.val (.ref a1), .val (.int p2), .val (.int p3), .val (.ref a4), .val (.int (4 : Int32))] [(.ref a4), (.int (4 : Int32))])) _
            obtain ⟨cl14, Ar14, -, S14, M14, -, -⟩ := id Vt
            refine own_via (X0.arraylength hx (by rw [e0]; exact Ar14.1) (State.isArrayOf_alike hZ.alike Ar14.2.1) (g := (mkF m 16 #[.val (.ref a1), .val (.int p2), .val (.int p3), .val (.ref a4), .val (.int (4 : Int32))] [(.ref a4), (.int (4 : Int32))])) rfl rfl (hb hby d2_16)) ?_
            rw [len_of S14 M14]
            show own_Rch p.tables e below (s₁.setTop (mkF m 17 #[.val (.ref a1), .val (.int p2), .val (.int p3), .val (.ref a4), .val (.int (4 : Int32))] [(.int (4 : Int32)), (.int (4 : Int32))])) _
            refine own_via (fun t k => XS.icmpYes X0.here hx rfl (pc0 := 17) (pc' := 41) rfl (hb hby d2_17) rfl (flt (by decide : ¬ ((4 : Int32) < (4 : Int32)))).2.1 (by decide) (by decide) k) ?_
            show own_Rch p.tables e below (s₁.setTop (mkF m 41 #[.val (.ref a1), .val (.int p2), .val (.int p3), .val (.ref a4), .val (.int (4 : Int32))] [])) _
            refine own_via (fun t k => XS.iconst X0.here hx rfl (hb hby d2_41) k) ?_
            show own_Rch p.tables e below (s₁.setTop (mkF m 42 #[.val (.ref a1), .val (.int p2), .val (.int p3), .val (.ref a4), .val (.int (4 : Int32))] [(.int (1 : Int32))])) _
            exact own_fin X0 hx (t := .boolean) (i := .ireturn) Bd.returns Bd.notSynchronized rfl (Or.inl ⟨rfl, by simp, _, rfl⟩) (hb hby d2_42) (by decide) (by decide) ⟨by simp only [own_n4_4, if_pos c5, if_pos c30, if_pos c30', if_pos c30'', if_pos c30'''], N0, e0⟩
          · refine own_via (fun t k => XS.icmpNo X0.here hx rfl (hb hby d2_30) rfl (feq c30''').1 k) ?_
            show own_Rch p.tables e below (s₁.setTop (mkF m 33 #[.val (.ref a1), .val (.int p2), .val (.int p3), .val (.ref a4), .val (.int (3 : Int32))] [])) _
            refine own_via (fun t k => XS.iconst X0.here hx rfl (hb hby d2_33) k) ?_
            show own_Rch p.tables e below (s₁.setTop (mkF m 34 #[.val (.ref a1), .val (.int p2), .val (.int p3), .val (.ref a4), .val (.int (3 : Int32))] [(.int (0 : Int32))])) _
            exact own_fin X0 hx (t := .boolean) (i := .ireturn) Bd.returns Bd.notSynchronized rfl (Or.inl ⟨rfl, by simp, _, rfl⟩) (hb hby d2_34) (by decide) (by decide) ⟨by simp only [own_n4_4, if_pos c5, if_pos c30, if_pos c30', if_pos c30'', if_neg c30'''], N0, e0⟩
        · refine own_via (fun t k => XS.icmpNo X0.here hx rfl (hb hby d2_30) rfl (feq c30'').1 k) ?_
          show own_Rch p.tables e below (s₁.setTop (mkF m 33 #[.val (.ref a1), .val (.int p2), .val (.int p3), .val (.ref a4), .val (.int (2 : Int32))] [])) _
          refine own_via (fun t k => XS.iconst X0.here hx rfl (hb hby d2_33) k) ?_
          show own_Rch p.tables e below (s₁.setTop (mkF m 34 #[.val (.ref a1), .val (.int p2), .val (.int p3), .val (.ref a4), .val (.int (2 : Int32))] [(.int (0 : Int32))])) _
          exact own_fin X0 hx (t := .boolean) (i := .ireturn) Bd.returns Bd.notSynchronized rfl (Or.inl ⟨rfl, by simp, _, rfl⟩) (hb hby d2_34) (by decide) (by decide) ⟨by simp only [own_n4_4, if_pos c5, if_pos c30, if_pos c30', if_neg c30''], N0, e0⟩
      · refine own_via (fun t k => XS.icmpNo X0.here hx rfl (hb hby d2_30) rfl (feq c30').1 k) ?_
        show own_Rch p.tables e below (s₁.setTop (mkF m 33 #[.val (.ref a1), .val (.int p2), .val (.int p3), .val (.ref a4), .val (.int (1 : Int32))] [])) _
        refine own_via (fun t k => XS.iconst X0.here hx rfl (hb hby d2_33) k) ?_
        show own_Rch p.tables e below (s₁.setTop (mkF m 34 #[.val (.ref a1), .val (.int p2), .val (.int p3), .val (.ref a4), .val (.int (1 : Int32))] [(.int (0 : Int32))])) _
        exact own_fin X0 hx (t := .boolean) (i := .ireturn) Bd.returns Bd.notSynchronized rfl (Or.inl ⟨rfl, by simp, _, rfl⟩) (hb hby d2_34) (by decide) (by decide) ⟨by simp only [own_n4_4, if_pos c5, if_pos c30, if_neg c30'], N0, e0⟩
    · refine own_via (fun t k => XS.icmpNo X0.here hx rfl (hb hby d2_30) rfl (feq c30).1 k) ?_
      show own_Rch p.tables e below (s₁.setTop (mkF m 33 #[.val (.ref a1), .val (.int p2), .val (.int p3), .val (.ref a4), .val (.int (0 : Int32))] [])) _
      refine own_via (fun t k => XS.iconst X0.here hx rfl (hb hby d2_33) k) ?_
      show own_Rch p.tables e below (s₁.setTop (mkF m 34 #[.val (.ref a1), .val (.int p2), .val (.int p3), .val (.ref a4), .val (.int (0 : Int32))] [(.int (0 : Int32))])) _
      exact own_fin X0 hx (t := .boolean) (i := .ireturn) Bd.returns Bd.notSynchronized rfl (Or.inl ⟨rfl, by simp, _, rfl⟩) (hb hby d2_34) (by decide) (by decide) ⟨by simp only [own_n4_4, if_pos c5, if_neg c30], N0, e0⟩
  · refine own_via (fun t k => XS.icmpNo X0.here hx rfl (hb hby d2_5) rfl (feq c5).1 k) ?_
    show own_Rch p.tables e below (s₁.setTop (mkF m 8 #[.val (.ref a1), .val (.int p2), .val (.int p3), .val (.ref a4), .unset] [])) _
    refine own_via (fun t k => XS.iconst X0.here hx rfl (hb hby d2_8) k) ?_
    show own_Rch p.tables e below (s₁.setTop (mkF m 9 #[.val (.ref a1), .val (.int p2), .val (.int p3), .val (.ref a4), .unset] [(.int (0 : Int32))])) _
    exact own_fin X0 hx (t := .boolean) (i := .ireturn) Bd.returns Bd.notSynchronized rfl (Or.inl ⟨rfl, by simp, _, rfl⟩) (hb hby d2_9) (by decide) (by decide) ⟨by simp only [own_n4_4, if_neg c5], N0, e0⟩
def own_n4_5 (l ts : List Int32) (p2 p3 : Int32) : Int32 := if (p3 - p2) = (5 : Int32) then (if own_at l (p2 + (0 : Int32)) = own_at ts (0 : Int32) then if own_at l (p2 + (1 : Int32)) = own_at ts (1 : Int32) then if own_at l (p2 + (2 : Int32)) = own_at ts (2 : Int32) then if own_at l (p2 + (3 : Int32)) = own_at ts (3 : Int32) then if own_at l (p2 + (4 : Int32)) = own_at ts (4 : Int32) then 1 else 0 else 0 else 0 else 0 else 0) else 0
theorem ef_2_5 (m : MethodId) (x0 : Addr) (x1 : Int32) (x2 : Int32) (x3 : Addr) : entryFrame m #[(.ref x0), (.int x1), (.int x2), (.ref x3)] 5 = mkF m 0 #[.val (.ref x0), .val (.int x1), .val (.int x2), .val (.ref x3), .unset] [] := by first | (simp [entryFrame, mkF, argsToLocals, Value.category]; done) | rfl
set_option maxRecDepth 65536 in
set_option maxHeartbeats 40000000 in
theorem rm2_5 (l : Launch) (Z : State) (a0 : Array Value) (hw : ∀ d ∈ tables_1, d.before a0 Z = true) (ws : List Jvm.Cond) (a1 : Addr) (p2 p3 : Int32) (a4 : Addr) (l_ ts : List Int32) (kb kt : ClassId) (h0 : Heap) (n0 : Nat) (V : Arv Z h0 a1 kb .byte (5 : Int32) (l_.map Value.int) (.int 0)) (Vt : Arv Z h0 a4 kt .byte (5 : Int32) (ts.map Value.int) (.int 0)) (i0 : 0 ≤ p2.toInt) (i1 : p3.toInt ≤ (5 : Int32).toInt) (i2 : 0 ≤ p3.toInt) :
    MetFree l (⟨"com/example/lastkey/lastkey/exec/TextFormat", "isNull", "([BII[B)Z"⟩ : MethodName) (head1 (Jvm.Cond.code (⟨"com/example/lastkey/lastkey/exec/TextFormat", "isNull", "([BII[B)Z"⟩ : MethodName) prog_61_method_3_code 5 (some .boolean) :: ws) ({ frames := 0, cells := 0, slots := 0, locals := 0 } : Room)) (fun a U => a = #[(.ref a1), (.int p2), (.int p3), (.ref a4)] ∧ Z.Warmed39 U.vm ∧ U.heap = h0) (fun _ _ _ _ _ => True) (fun _ U o U' => ∃ v L, o = .returned v ∧ own_Pure (.int (own_n4_5 l_ ts p2 p3)) h0 n0 v U'.heap L ∧ FrameEnd U o U' L ({ frames := 0, cells := 0, slots := 0, locals := 0 } : Room).cells ({ frames := 0, cells := 0, slots := 0, locals := 0 } : Room).slots) := by
  refine MetFree.of_bodySF (plainFor_of_name pn_com_example_lastkey_lastkey_exec_TextFormat) hisR ?_
  intro p e s m args below meth c s₁ Bd hml0 hP hK
  obtain ⟨rfl, hZ, hh⟩ := hP
  have hx := Bd.exec
  have hby := Bd.bytes
  have hml : c.maxLocals = 5 := hml0
  have hown : s.vm.findClass "com/example/lastkey/lastkey/exec/TextFormat" = some m.cls := findClass_of_methodNamed Bd.named
  have hnm := (name_of_methodNamed Bd.named Bd.method).1
  have X0 : Stand p l e ({ frames := 0, cells := 0, slots := 0, locals := 0 } : Room) s m #[(.ref a1), (.int p2), (.int p3), (.ref a4)] below meth c s₁ [] 0 0 := Stand.of_body Bd
  have e0 : s₁.heap = h0 := by rw [← hh, Bd.state]; rfl
  have N0 := Fr.nil n0
  show own_Rch p.tables e below (s₁.setTop (entryFrame m #[(.ref a1), (.int p2), (.int p3), (.ref a4)] 5)) (own_End s (own_Pure (.int (own_n4_5 l_ ts p2 p3)) h0 n0) ({ frames := 0, cells := 0, slots := 0, locals := 0 } : Room).cells ({ frames := 0, cells := 0, slots := 0, locals := 0 } : Room).slots)
  refine own_via (fun t k => castTop (ef_2_5 m a1 p2 p3 a4) k) ?_
  show own_Rch p.tables e below (s₁.setTop (mkF m 0 #[.val (.ref a1), .val (.int p2), .val (.int p3), .val (.ref a4), .unset] [])) _
  refine own_via (fun t k => XS.iloadN X0.here hx rfl (hb hby d2_0) rfl k) ?_
  show own_Rch p.tables e below (s₁.setTop (mkF m 1 #[.val (.ref a1), .val (.int p2), .val (.int p3), .val (.ref a4), .unset] [(.int p3)])) _
  refine own_via (fun t k => XS.iloadN X0.here hx rfl (hb hby d2_1) rfl k) ?_
  show own_Rch p.tables e below (s₁.setTop (mkF m 2 #[.val (.ref a1), .val (.int p2), .val (.int p3), .val (.ref a4), .unset] [(.int p2), (.int p3)])) _
  refine own_via (fun t k => XS.isub X0.here hx rfl (hb hby d2_2) rfl k) ?_
  show own_Rch p.tables e below (s₁.setTop (mkF m 3 #[.val (.ref a1), .val (.int p2), .val (.int p3), .val (.ref a4), .unset] [(.int (p3 - p2))])) _
  refine own_via (fun t k => XS.aloadN X0.here hx rfl (hb hby d2_3) rfl rfl k) ?_
  show own_Rch p.tables e below (s₁.setTop (mkF m 4 #[.val (.ref a1), .val (.int p2), .val (.int p3), .val (.ref a4), .unset] [(.ref a4), (.int (p3 - p2))])) _
  obtain ⟨cl1, Ar1, -, S1, M1, -, -⟩ := id Vt
  refine own_via (X0.arraylength hx (by rw [e0]; exact Ar1.1) (State.isArrayOf_alike hZ.alike Ar1.2.1) (g := (mkF m 4 #[.val (.ref a1), .val (.int p2), .val (.int p3), .val (.ref a4), .unset] [(.ref a4), (.int (p3 - p2))])) rfl rfl (hb hby d2_4)) ?_
  rw [len_of S1 M1]
  show own_Rch p.tables e below (s₁.setTop (mkF m 5 #[.val (.ref a1), .val (.int p2), .val (.int p3), .val (.ref a4), .unset] [(.int (5 : Int32)), (.int (p3 - p2))])) _
  by_cases c5 : (p3 - p2) = (5 : Int32)
  · refine own_via (fun t k => XS.icmpYes X0.here hx rfl (pc0 := 5) (pc' := 10) rfl (hb hby d2_5) rfl (teq c5).1 (by decide) (by decide) k) ?_
    show own_Rch p.tables e below (s₁.setTop (mkF m 10 #[.val (.ref a1), .val (.int p2), .val (.int p3), .val (.ref a4), .unset] [])) _
    refine own_via (fun t k => XS.iconst X0.here hx rfl (hb hby d2_10) k) ?_
    show own_Rch p.tables e below (s₁.setTop (mkF m 11 #[.val (.ref a1), .val (.int p2), .val (.int p3), .val (.ref a4), .unset] [(.int (0 : Int32))])) _
    refine own_via (fun t k => XS.istore X0.here hx rfl (hb hby d2_11) rfl (l' := #[.val (.ref a1), .val (.int p2), .val (.int p3), .val (.ref a4), .val (.int (0 : Int32))]) rfl k) ?_
    show own_Rch p.tables e below (s₁.setTop (mkF m 13 #[.val (.ref a1), .val (.int p2), .val (.int p3), .val (.ref a4), .val (.int (0 : Int32))] [])) _
    refine own_via (fun t k => XS.iload X0.here hx rfl (hb hby d2_13) rfl k) ?_
    show own_Rch p.tables e below (s₁.setTop (mkF m 15 #[.val (.ref a1), .val (.int p2), .val (.int p3), .val (.ref a4), .val (.int (0 : Int32))] [(.int (0 : Int32))])) _
    refine own_via (fun t k => XS.aloadN X0.here hx rfl (hb hby d2_15) rfl rfl k) ?_
    show own_Rch p.tables e below (s₁.setTop (mkF m 16 #[.val (.ref a1), .val (.int p2), .val (.int p3), .val (.ref a4), .val (.int (0 : Int32))] [(.ref a4), (.int (0 : Int32))])) _
    obtain ⟨cl2, Ar2, -, S2, M2, -, -⟩ := id Vt
    refine own_via (X0.arraylength hx (by rw [e0]; exact Ar2.1) (State.isArrayOf_alike hZ.alike Ar2.2.1) (g := (mkF m 16 #[.val (.ref a1), .val (.int p2), .val (.int p3), .val (.ref a4), .val (.int (0 : Int32))] [(.ref a4), (.int (0 : Int32))])) rfl rfl (hb hby d2_16)) ?_
    rw [len_of S2 M2]
    show own_Rch p.tables e below (s₁.setTop (mkF m 17 #[.val (.ref a1), .val (.int p2), .val (.int p3), .val (.ref a4), .val (.int (0 : Int32))] [(.int (5 : Int32)), (.int (0 : Int32))])) _
    refine own_via (fun t k => XS.icmpNo X0.here hx rfl (hb hby d2_17) rfl (tlt (by decide : (0 : Int32) < (5 : Int32))).2.1 k) ?_
    show own_Rch p.tables e below (s₁.setTop (mkF m 20 #[.val (.ref a1), .val (.int p2), .val (.int p3), .val (.ref a4), .val (.int (0 : Int32))] [])) _
    refine own_via (fun t k => XS.aloadN X0.here hx rfl (hb hby d2_20) rfl rfl k) ?_
    show own_Rch p.tables e below (s₁.setTop (mkF m 21 #[.val (.ref a1), .val (.int p2), .val (.int p3), .val (.ref a4), .val (.int (0 : Int32))] [(.ref a1)])) _
    refine own_via (fun t k => XS.iloadN X0.here hx rfl (hb hby d2_21) rfl k) ?_
    show own_Rch p.tables e below (s₁.setTop (mkF m 22 #[.val (.ref a1), .val (.int p2), .val (.int p3), .val (.ref a4), .val (.int (0 : Int32))] [(.int p2), (.ref a1)])) _
    refine own_via (fun t k => XS.iload X0.here hx rfl (hb hby d2_22) rfl k) ?_
    show own_Rch p.tables e below (s₁.setTop (mkF m 24 #[.val (.ref a1), .val (.int p2), .val (.int p3), .val (.ref a4), .val (.int (0 : Int32))] [(.int (0 : Int32)), (.int p2), (.ref a1)])) _
    refine own_via (fun t k => XS.iadd X0.here hx rfl (hb hby d2_24) rfl k) ?_
    show own_Rch p.tables e below (s₁.setTop (mkF m 25 #[.val (.ref a1), .val (.int p2), .val (.int p3), .val (.ref a4), .val (.int (0 : Int32))] [(.int (p2 + (0 : Int32))), (.ref a1)])) _
    obtain ⟨cl3, Ar3, -, S3, M3, H3, -⟩ := id V
    have hin3 : ¬ ((p2 + (0 : Int32)) < 0 ∨ cl3.slots.size ≤ ((p2 + (0 : Int32))).toNatClampNeg) := inb_of S3 (own_in p2 p3 (5 : Int32) (0 : Int32) (5 : Int32) i0 i1 i2 c5 (by decide) (by decide))
    have hat3 : cl3.slots[((p2 + (0 : Int32))).toNatClampNeg]? = some (.int (own_at l_ (p2 + (0 : Int32)))) := Has.at H3 hin3 (own_getI l_ _)
    refine own_via (X0.baloadBytes hx (j := (p2 + (0 : Int32))) (v := (.int (own_at l_ (p2 + (0 : Int32))))) (by rw [e0]; exact Ar3.1) (State.isArrayOf_alike hZ.alike Ar3.2.1) Ar3.2.2 hin3 hat3 (g := (mkF m 25 #[.val (.ref a1), .val (.int p2), .val (.int p3), .val (.ref a4), .val (.int (0 : Int32))] [(.int (p2 + (0 : Int32))), (.ref a1)])) rfl rfl (hb hby d2_25)) ?_
    show own_Rch p.tables e below (s₁.setTop (mkF m 26 #[.val (.ref a1), .val (.int p2), .val (.int p3), .val (.ref a4), .val (.int (0 : Int32))] [(.int (own_at l_ (p2 + (0 : Int32))))])) _
    refine own_via (fun t k => XS.aloadN X0.here hx rfl (hb hby d2_26) rfl rfl k) ?_
    show own_Rch p.tables e below (s₁.setTop (mkF m 27 #[.val (.ref a1), .val (.int p2), .val (.int p3), .val (.ref a4), .val (.int (0 : Int32))] [(.ref a4), (.int (own_at l_ (p2 + (0 : Int32))))])) _
    refine own_via (fun t k => XS.iload X0.here hx rfl (hb hby d2_27) rfl k) ?_
    show own_Rch p.tables e below (s₁.setTop (mkF m 29 #[.val (.ref a1), .val (.int p2), .val (.int p3), .val (.ref a4), .val (.int (0 : Int32))] [(.int (0 : Int32)), (.ref a4), (.int (own_at l_ (p2 + (0 : Int32))))])) _
    obtain ⟨cl4, Ar4, -, S4, M4, H4, -⟩ := id Vt
    have hin4 : ¬ ((0 : Int32) < 0 ∨ cl4.slots.size ≤ ((0 : Int32)).toNatClampNeg) := inb_of S4 (⟨by decide, by decide⟩)
    have hat4 : cl4.slots[((0 : Int32)).toNatClampNeg]? = some (.int (own_at ts (0 : Int32))) := Has.at H4 hin4 (own_getI ts _)
    refine own_via (X0.baloadBytes hx (j := (0 : Int32)) (v := (.int (own_at ts (0 : Int32)))) (by rw [e0]; exact Ar4.1) (State.isArrayOf_alike hZ.alike Ar4.2.1) Ar4.2.2 hin4 hat4 (g := (mkF m 29 #[.val (.ref a1), .val (.int p2), .val (.int p3), .val (.ref a4), .val (.int (0 : Int32))] [(.int (0 : Int32)), (.ref a4), (.int (own_at l_ (p2 + (0 : Int32))))])) rfl rfl (hb hby d2_29)) ?_
    show own_Rch p.tables e below (s₁.setTop (mkF m 30 #[.val (.ref a1), .val (.int p2), .val (.int p3), .val (.ref a4), .val (.int (0 : Int32))] [(.int (own_at ts (0 : Int32))), (.int (own_at l_ (p2 + (0 : Int32))))])) _
    by_cases c30 : (own_at l_ (p2 + (0 : Int32))) = (own_at ts (0 : Int32))
    · refine own_via (fun t k => XS.icmpYes X0.here hx rfl (pc0 := 30) (pc' := 35) rfl (hb hby d2_30) rfl (teq c30).1 (by decide) (by decide) k) ?_
      show own_Rch p.tables e below (s₁.setTop (mkF m 35 #[.val (.ref a1), .val (.int p2), .val (.int p3), .val (.ref a4), .val (.int (0 : Int32))] [])) _
      refine own_via (fun t k => XS.iinc X0.here hx rfl (hb hby d2_35) rfl (l' := #[.val (.ref a1), .val (.int p2), .val (.int p3), .val (.ref a4), .val (.int (1 : Int32))]) rfl k) ?_
      show own_Rch p.tables e below (s₁.setTop (mkF m 38 #[.val (.ref a1), .val (.int p2), .val (.int p3), .val (.ref a4), .val (.int (1 : Int32))] [])) _
      refine own_via (fun t k => XS.goto X0.here hx rfl (pc0 := 38) (pc' := 13) rfl (hb hby d2_38) (by decide) (by decide) k) ?_
      show own_Rch p.tables e below (s₁.setTop (mkF m 13 #[.val (.ref a1), .val (.int p2), .val (.int p3), .val (.ref a4), .val (.int (1 : Int32))] [])) _
      refine own_via (fun t k => XS.iload X0.here hx rfl (hb hby d2_13) rfl k) ?_
      show own_Rch p.tables e below (s₁.setTop (mkF m 15 #[.val (.ref a1), .val (.int p2), .val (.int p3), .val (.ref a4), .val (.int (1 : Int32))] [(.int (1 : Int32))])) _
      refine own_via (fun t k => XS.aloadN X0.here hx rfl (hb hby d2_15) rfl rfl k) ?_
      show own_Rch p.tables e below (s₁.setTop (mkF m 16 #[.val (.ref a1), .val (.int p2), .val (.int p3), .val (.ref a4), .val (.int (1 : Int32))] [(.ref a4), (.int (1 : Int32))])) _
      obtain ⟨cl5, Ar5, -, S5, M5, -, -⟩ := id Vt
      refine own_via (X0.arraylength hx (by rw [e0]; exact Ar5.1) (State.isArrayOf_alike hZ.alike Ar5.2.1) (g := (mkF m 16 #[.val (.ref a1), .val (.int p2), .val (.int p3), .val (.ref a4), .val (.int (1 : Int32))] [(.ref a4), (.int (1 : Int32))])) rfl rfl (hb hby d2_16)) ?_
      rw [len_of S5 M5]
      show own_Rch p.tables e below (s₁.setTop (mkF m 17 #[.val (.ref a1), .val (.int p2), .val (.int p3), .val (.ref a4), .val (.int (1 : Int32))] [(.int (5 : Int32)), (.int (1 : Int32))])) _
      refine own_via (fun t k => XS.icmpNo X0.here hx rfl (hb hby d2_17) rfl (tlt (by decide : (1 : Int32) < (5 : Int32))).2.1 k) ?_
      show own_Rch p.tables e below (s₁.setTop (mkF m 20 #[.val (.ref a1), .val (.int p2), .val (.int p3), .val (.ref a4), .val (.int (1 : Int32))] [])) _
      refine own_via (fun t k => XS.aloadN X0.here hx rfl (hb hby d2_20) rfl rfl k) ?_
      show own_Rch p.tables e below (s₁.setTop (mkF m 21 #[.val (.ref a1), .val (.int p2), .val (.int p3), .val (.ref a4), .val (.int (1 : Int32))] [(.ref a1)])) _
      refine own_via (fun t k => XS.iloadN X0.here hx rfl (hb hby d2_21) rfl k) ?_
      show own_Rch p.tables e below (s₁.setTop (mkF m 22 #[.val (.ref a1), .val (.int p2), .val (.int p3), .val (.ref a4), .val (.int (1 : Int32))] [(.int p2), (.ref a1)])) _
      refine own_via (fun t k => XS.iload X0.here hx rfl (hb hby d2_22) rfl k) ?_
      show own_Rch p.tables e below (s₁.setTop (mkF m 24 #[.val (.ref a1), .val (.int p2), .val (.int p3), .val (.ref a4), .val (.int (1 : Int32))] [(.int (1 : Int32)), (.int p2), (.ref a1)])) _
      refine own_via (fun t k => XS.iadd X0.here hx rfl (hb hby d2_24) rfl k) ?_
      show own_Rch p.tables e below (s₁.setTop (mkF m 25 #[.val (.ref a1), .val (.int p2), .val (.int p3), .val (.ref a4), .val (.int (1 : Int32))] [(.int (p2 + (1 : Int32))), (.ref a1)])) _
      obtain ⟨cl6, Ar6, -, S6, M6, H6, -⟩ := id V
      have hin6 : ¬ ((p2 + (1 : Int32)) < 0 ∨ cl6.slots.size ≤ ((p2 + (1 : Int32))).toNatClampNeg) := inb_of S6 (own_in p2 p3 (5 : Int32) (1 : Int32) (5 : Int32) i0 i1 i2 c5 (by decide) (by decide))
      have hat6 : cl6.slots[((p2 + (1 : Int32))).toNatClampNeg]? = some (.int (own_at l_ (p2 + (1 : Int32)))) := Has.at H6 hin6 (own_getI l_ _)
      refine own_via (X0.baloadBytes hx (j := (p2 + (1 : Int32))) (v := (.int (own_at l_ (p2 + (1 : Int32))))) (by rw [e0]; exact Ar6.1) (State.isArrayOf_alike hZ.alike Ar6.2.1) Ar6.2.2 hin6 hat6 (g := (mkF m 25 #[.val (.ref a1), .val (.int p2), .val (.int p3), .val (.ref a4), .val (.int (1 : Int32))] [(.int (p2 + (1 : Int32))), (.ref a1)])) rfl rfl (hb hby d2_25)) ?_
      show own_Rch p.tables e below (s₁.setTop (mkF m 26 #[.val (.ref a1), .val (.int p2), .val (.int p3), .val (.ref a4), .val (.int (1 : Int32))] [(.int (own_at l_ (p2 + (1 : Int32))))])) _
      refine own_via (fun t k => XS.aloadN X0.here hx rfl (hb hby d2_26) rfl rfl k) ?_
      show own_Rch p.tables e below (s₁.setTop (mkF m 27 #[.val (.ref a1), .val (.int p2), .val (.int p3), .val (.ref a4), .val (.int (1 : Int32))] [(.ref a4), (.int (own_at l_ (p2 + (1 : Int32))))])) _
      refine own_via (fun t k => XS.iload X0.here hx rfl (hb hby d2_27) rfl k) ?_
      show own_Rch p.tables e below (s₁.setTop (mkF m 29 #[.val (.ref a1), .val (.int p2), .val (.int p3), .val (.ref a4), .val (.int (1 : Int32))] [(.int (1 : Int32)), (.ref a4), (.int (own_at l_ (p2 + (1 : Int32))))])) _
      obtain ⟨cl7, Ar7, -, S7, M7, H7, -⟩ := id Vt
      have hin7 : ¬ ((1 : Int32) < 0 ∨ cl7.slots.size ≤ ((1 : Int32)).toNatClampNeg) := inb_of S7 (⟨by decide, by decide⟩)
      have hat7 : cl7.slots[((1 : Int32)).toNatClampNeg]? = some (.int (own_at ts (1 : Int32))) := Has.at H7 hin7 (own_getI ts _)
      refine own_via (X0.baloadBytes hx (j := (1 : Int32)) (v := (.int (own_at ts (1 : Int32)))) (by rw [e0]; exact Ar7.1) (State.isArrayOf_alike hZ.alike Ar7.2.1) Ar7.2.2 hin7 hat7 (g := (mkF m 29 #[.val (.ref a1), .val (.int p2), .val (.int p3), .val (.ref a4), .val (.int (1 : Int32))] [(.int (1 : Int32)), (.ref a4), (.int (own_at l_ (p2 + (1 : Int32))))])) rfl rfl (hb hby d2_29)) ?_
      show own_Rch p.tables e below (s₁.setTop (mkF m 30 #[.val (.ref a1), .val (.int p2), .val (.int p3), .val (.ref a4), .val (.int (1 : Int32))] [(.int (own_at ts (1 : Int32))), (.int (own_at l_ (p2 + (1 : Int32))))])) _
      by_cases c30' : (own_at l_ (p2 + (1 : Int32))) = (own_at ts (1 : Int32))
      · refine own_via (fun t k => XS.icmpYes X0.here hx rfl (pc0 := 30) (pc' := 35) rfl (hb hby d2_30) rfl (teq c30').1 (by decide) (by decide) k) ?_
        show own_Rch p.tables e below (s₁.setTop (mkF m 35 #[.val (.ref a1), .val (.int p2), .val (.int p3), .val (.ref a4), .val (.int (1 : Int32))] [])) _
        refine own_via (fun t k => XS.iinc X0.here hx rfl (hb hby d2_35) rfl (l' := #[.val (.ref a1), .val (.int p2), .val (.int p3), .val (.ref a4), .val (.int (2 : Int32))]) rfl k) ?_
        show own_Rch p.tables e below (s₁.setTop (mkF m 38 #[.val (.ref a1), .val (.int p2), .val (.int p3), .val (.ref a4), .val (.int (2 : Int32))] [])) _
        refine own_via (fun t k => XS.goto X0.here hx rfl (pc0 := 38) (pc' := 13) rfl (hb hby d2_38) (by decide) (by decide) k) ?_
        show own_Rch p.tables e below (s₁.setTop (mkF m 13 #[.val (.ref a1), .val (.int p2), .val (.int p3), .val (.ref a4), .val (.int (2 : Int32))] [])) _
        refine own_via (fun t k => XS.iload X0.here hx rfl (hb hby d2_13) rfl k) ?_
        show own_Rch p.tables e below (s₁.setTop (mkF m 15 #[.val (.ref a1), .val (.int p2), .val (.int p3), .val (.ref a4), .val (.int (2 : Int32))] [(.int (2 : Int32))])) _
        refine own_via (fun t k => XS.aloadN X0.here hx rfl (hb hby d2_15) rfl rfl k) ?_
        show own_Rch p.tables e below (s₁.setTop (mkF m 16 #[.val (.ref a1), .val (.int p2), .val (.int p3), .val (.ref a4), .val (.int (2 : Int32))] [(.ref a4), (.int (2 : Int32))])) _
        obtain ⟨cl8, Ar8, -, S8, M8, -, -⟩ := id Vt
        refine own_via (X0.arraylength hx (by rw [e0]; exact Ar8.1) (State.isArrayOf_alike hZ.alike Ar8.2.1) (g := (mkF m 16 #[.val (.ref a1), .val (.int p2), .val (.int p3), .val (.ref a4), .val (.int (2 : Int32))] [(.ref a4), (.int (2 : Int32))])) rfl rfl (hb hby d2_16)) ?_
        rw [len_of S8 M8]
        show own_Rch p.tables e below (s₁.setTop (mkF m 17 #[.val (.ref a1), .val (.int p2), .val (.int p3), .val (.ref a4), .val (.int (2 : Int32))] [(.int (5 : Int32)), (.int (2 : Int32))])) _
        refine own_via (fun t k => XS.icmpNo X0.here hx rfl (hb hby d2_17) rfl (tlt (by decide : (2 : Int32) < (5 : Int32))).2.1 k) ?_
        show own_Rch p.tables e below (s₁.setTop (mkF m 20 #[.val (.ref a1), .val (.int p2), .val (.int p3), .val (.ref a4), .val (.int (2 : Int32))] [])) _
        refine own_via (fun t k => XS.aloadN X0.here hx rfl (hb hby d2_20) rfl rfl k) ?_
        show own_Rch p.tables e below (s₁.setTop (mkF m 21 #[.val (.ref a1), .val (.int p2), .val (.int p3), .val (.ref a4), .val (.int (2 : Int32))] [(.ref a1)])) _
        refine own_via (fun t k => XS.iloadN X0.here hx rfl (hb hby d2_21) rfl k) ?_
        show own_Rch p.tables e below (s₁.setTop (mkF m 22 #[.val (.ref a1), .val (.int p2), .val (.int p3), .val (.ref a4), .val (.int (2 : Int32))] [(.int p2), (.ref a1)])) _
        refine own_via (fun t k => XS.iload X0.here hx rfl (hb hby d2_22) rfl k) ?_
        show own_Rch p.tables e below (s₁.setTop (mkF m 24 #[.val (.ref a1), .val (.int p2), .val (.int p3), .val (.ref a4), .val (.int (2 : Int32))] [(.int (2 : Int32)), (.int p2), (.ref a1)])) _
        refine own_via (fun t k => XS.iadd X0.here hx rfl (hb hby d2_24) rfl k) ?_
        show own_Rch p.tables e below (s₁.setTop (mkF m 25 #[.val (.ref a1), .val (.int p2), .val (.int p3), .val (.ref a4), .val (.int (2 : Int32))] [(.int (p2 + (2 : Int32))), (.ref a1)])) _
        obtain ⟨cl9, Ar9, -, S9, M9, H9, -⟩ := id V
        have hin9 : ¬ ((p2 + (2 : Int32)) < 0 ∨ cl9.slots.size ≤ ((p2 + (2 : Int32))).toNatClampNeg) := inb_of S9 (own_in p2 p3 (5 : Int32) (2 : Int32) (5 : Int32) i0 i1 i2 c5 (by decide) (by decide))
        have hat9 : cl9.slots[((p2 + (2 : Int32))).toNatClampNeg]? = some (.int (own_at l_ (p2 + (2 : Int32)))) := Has.at H9 hin9 (own_getI l_ _)
        refine own_via (X0.baloadBytes hx (j := (p2 + (2 : Int32))) (v := (.int (own_at l_ (p2 + (2 : Int32))))) (by rw [e0]; exact Ar9.1) (State.isArrayOf_alike hZ.alike Ar9.2.1) Ar9.2.2 hin9 hat9 (g := (mkF m 25 #[.val (.ref a1), .val (.int p2), .val (.int p3), .val (.ref a4), .val (.int (2 : Int32))] [(.int (p2 + (2 : Int32))), (.ref a1)])) rfl rfl (hb hby d2_25)) ?_
        show own_Rch p.tables e below (s₁.setTop (mkF m 26 #[.val (.ref a1), .val (.int p2), .val (.int p3), .val (.ref a4), .val (.int (2 : Int32))] [(.int (own_at l_ (p2 + (2 : Int32))))])) _
        refine own_via (fun t k => XS.aloadN X0.here hx rfl (hb hby d2_26) rfl rfl k) ?_
        show own_Rch p.tables e below (s₁.setTop (mkF m 27 #[.val (.ref a1), .val (.int p2), .val (.int p3), .val (.ref a4), .val (.int (2 : Int32))] [(.ref a4), (.int (own_at l_ (p2 + (2 : Int32))))])) _
        refine own_via (fun t k => XS.iload X0.here hx rfl (hb hby d2_27) rfl k) ?_
        show own_Rch p.tables e below (s₁.setTop (mkF m 29 #[.val (.ref a1), .val (.int p2), .val (.int p3), .val (.ref a4), .val (.int (2 : Int32))] [(.int (2 : Int32)), (.ref a4), (.int (own_at l_ (p2 + (2 : Int32))))])) _
        obtain ⟨cl10, Ar10, -, S10, M10, H10, -⟩ := id Vt
        have hin10 : ¬ ((2 : Int32) < 0 ∨ cl10.slots.size ≤ ((2 : Int32)).toNatClampNeg) := inb_of S10 (⟨by decide, by decide⟩)
        have hat10 : cl10.slots[((2 : Int32)).toNatClampNeg]? = some (.int (own_at ts (2 : Int32))) := Has.at H10 hin10 (own_getI ts _)
        refine own_via (X0.baloadBytes hx (j := (2 : Int32)) (v := (.int (own_at ts (2 : Int32)))) (by rw [e0]; exact Ar10.1) (State.isArrayOf_alike hZ.alike Ar10.2.1) Ar10.2.2 hin10 hat10 (g := (mkF m 29 #[.val (.ref a1), .val (.int p2), .val (.int p3), .val (.ref a4), .val (.int (2 : Int32))] [(.int (2 : Int32)), (.ref a4), (.int (own_at l_ (p2 + (2 : Int32))))])) rfl rfl (hb hby d2_29)) ?_
        show own_Rch p.tables e below (s₁.setTop (mkF m 30 #[.val (.ref a1), .val (.int p2), .val (.int p3), .val (.ref a4), .val (.int (2 : Int32))] [(.int (own_at ts (2 : Int32))), (.int (own_at l_ (p2 + (2 : Int32))))])) _
        by_cases c30'' : (own_at l_ (p2 + (2 : Int32))) = (own_at ts (2 : Int32))
        · refine own_via (fun t k => XS.icmpYes X0.here hx rfl (pc0 := 30) (pc' := 35) rfl (hb hby d2_30) rfl (teq c30'').1 (by decide) (by decide) k) ?_
          show own_Rch p.tables e below (s₁.setTop (mkF m 35 #[.val (.ref a1), .val (.int p2), .val (.int p3), .val (.ref a4), .val (.int (2 : Int32))] [])) _
          refine own_via (fun t k => XS.iinc X0.here hx rfl (hb hby d2_35) rfl (l' := #[.val (.ref a1), .val (.int p2), .val (.int p3), .val (.ref a4), .val (.int (3 : Int32))]) rfl k) ?_
          show own_Rch p.tables e below (s₁.setTop (mkF m 38 #[.val (.ref a1), .val (.int p2), .val (.int p3), .val (.ref a4), .val (.int (3 : Int32))] [])) _
          refine own_via (fun t k => XS.goto X0.here hx rfl (pc0 := 38) (pc' := 13) rfl (hb hby d2_38) (by decide) (by decide) k) ?_
          show own_Rch p.tables e below (s₁.setTop (mkF m 13 #[.val (.ref a1), .val (.int p2), .val (.int p3), .val (.ref a4), .val (.int (3 : Int32))] [])) _
          refine own_via (fun t k => XS.iload X0.here hx rfl (hb hby d2_13) rfl k) ?_
          show own_Rch p.tables e below (s₁.setTop (mkF m 15 #[.val (.ref a1), .val (.int p2), .val (.int p3), .val (.ref a4), .val (.int (3 : Int32))] [(.int (3 : Int32))])) _
          refine own_via (fun t k => XS.aloadN X0.here hx rfl (hb hby d2_15) rfl rfl k) ?_
          show own_Rch p.tables e below (s₁.setTop (mkF m 16 #[.val (.ref a1), .val (.int p2), .val (.int p3), .val (.ref a4), .val (.int (3 : Int32))] [(.ref a4), (.int (3 : Int32))])) _
          obtain ⟨cl11, Ar11, -, S11, M11, -, -⟩ := id Vt
          refine own_via (X0.arraylength hx (by rw [e0]; exact Ar11.1) (State.isArrayOf_alike hZ.alike Ar11.2.1) (g := (mkF m 16 #[.val (.ref a1), .val (.int p2), .val (.int p3), .val (.ref a4), .val (.int (3 : Int32))] [(.ref a4), (.int (3 : Int32))])) rfl rfl (hb hby d2_16)) ?_
          rw [len_of S11 M11]
          show own_Rch p.tables e below (s₁.setTop (mkF m 17 #[.val (.ref a1), .val (.int p2), .val (.int p3), .val (.ref a4), .val (.int (3 : Int32))] [(.int (5 : Int32)), (.int (3 : Int32))])) _
          refine own_via (fun t k => XS.icmpNo X0.here hx rfl (hb hby d2_17) rfl (tlt (by decide : (3 : Int32) < (5 : Int32))).2.1 k) ?_
          show own_Rch p.tables e below (s₁.setTop (mkF m 20 #[.val (.ref a1), .val (.int p2), .val (.int p3), .val (.ref a4), .val (.int (3 : Int32))] [])) _
          refine own_via (fun t k => XS.aloadN X0.here hx rfl (hb hby d2_20) rfl rfl k) ?_
          show own_Rch p.tables e below (s₁.setTop (mkF m 21 #[.val (.ref a1), .val (.int p2), .val (.int p3), .val (.ref a4), .val (.int (3 : Int32))] [(.ref a1)])) _
          refine own_via (fun t k => XS.iloadN X0.here hx rfl (hb hby d2_21) rfl k) ?_
          show own_Rch p.tables e below (s₁.setTop (mkF m 22 #[.val (.ref a1), .val (.int p2), .val (.int p3), .val (.ref a4), .val (.int (3 : Int32))] [(.int p2), (.ref a1)])) _
          refine own_via (fun t k => XS.iload X0.here hx rfl (hb hby d2_22) rfl k) ?_
          show own_Rch p.tables e below (s₁.setTop (mkF m 24 #[.val (.ref a1), .val (.int p2), .val (.int p3), .val (.ref a4), .val (.int (3 : Int32))] [(.int (3 : Int32)), (.int p2), (.ref a1)])) _
          refine own_via (fun t k => XS.iadd X0.here hx rfl (hb hby d2_24) rfl k) ?_
          show own_Rch p.tables e below (s₁.setTop (mkF m 25 #[.val (.ref a1), .val (.int p2), .val (.int p3), .val (.ref a4), .val (.int (3 : Int32))] [(.int (p2 + (3 : Int32))), (.ref a1)])) _
          obtain ⟨cl12, Ar12, -, S12, M12, H12, -⟩ := id V
          have hin12 : ¬ ((p2 + (3 : Int32)) < 0 ∨ cl12.slots.size ≤ ((p2 + (3 : Int32))).toNatClampNeg) := inb_of S12 (own_in p2 p3 (5 : Int32) (3 : Int32) (5 : Int32) i0 i1 i2 c5 (by decide) (by decide))
          have hat12 : cl12.slots[((p2 + (3 : Int32))).toNatClampNeg]? = some (.int (own_at l_ (p2 + (3 : Int32)))) := Has.at H12 hin12 (own_getI l_ _)
          refine own_via (X0.baloadBytes hx (j := (p2 + (3 : Int32))) (v := (.int (own_at l_ (p2 + (3 : Int32))))) (by rw [e0]; exact Ar12.1) (State.isArrayOf_alike hZ.alike Ar12.2.1) Ar12.2.2 hin12 hat12 (g := (mkF m 25 #[.val (.ref a1), .val (.int p2), .val (.int p3), .val (.ref a4), .val (.int (3 : Int32))] [(.int (p2 + (3 : Int32))), (.ref a1)])) rfl rfl (hb hby d2_25)) ?_
          show own_Rch p.tables e below (s₁.setTop (mkF m 26 #[.val (.ref a1), .val (.int p2), .val (.int p3), .val (.ref a4), .val (.int (3 : Int32))] [(.int (own_at l_ (p2 + (3 : Int32))))])) _
          refine own_via (fun t k => XS.aloadN X0.here hx rfl (hb hby d2_26) rfl rfl k) ?_
          show own_Rch p.tables e below (s₁.setTop (mkF m 27 #[.val (.ref a1), .val (.int p2), .val (.int p3), .val (.ref a4), .val (.int (3 : Int32))] [(.ref a4), (.int (own_at l_ (p2 + (3 : Int32))))])) _
          refine own_via (fun t k => XS.iload X0.here hx rfl (hb hby d2_27) rfl k) ?_
          show own_Rch p.tables e below (s₁.setTop (mkF m 29 #[.val (.ref a1), .val (.int p2), .val (.int p3), .val (.ref a4), .val (.int (3 : Int32))] [(.int (3 : Int32)), (.ref a4), (.int (own_at l_ (p2 + (3 : Int32))))])) _
          obtain ⟨cl13, Ar13, -, S13, M13, H13, -⟩ := id Vt
          have hin13 : ¬ ((3 : Int32) < 0 ∨ cl13.slots.size ≤ ((3 : Int32)).toNatClampNeg) := inb_of S13 (⟨by decide, by decide⟩)
          have hat13 : cl13.slots[((3 : Int32)).toNatClampNeg]? = some (.int (own_at ts (3 : Int32))) := Has.at H13 hin13 (own_getI ts _)
          refine own_via (X0.baloadBytes hx (j := (3 : Int32)) (v := (.int (own_at ts (3 : Int32)))) (by rw [e0]; exact Ar13.1) (State.isArrayOf_alike hZ.alike Ar13.2.1) Ar13.2.2 hin13 hat13 (g := (mkF m 29 #[.val (.ref a1), .val (.int p2), .val (.int p3), .val (.ref a4), .val (.int (3 : Int32))] [(.int (3 : Int32)), (.ref a4), (.int (own_at l_ (p2 + (3 : Int32))))])) rfl rfl (hb hby d2_29)) ?_
          show own_Rch p.tables e below (s₁.setTop (mkF m 30 #[.val (.ref a1), .val (.int p2), .val (.int p3), .val (.ref a4), .val (.int (3 : Int32))] [(.int (own_at ts (3 : Int32))), (.int (own_at l_ (p2 + (3 : Int32))))])) _
          by_cases c30''' : (own_at l_ (p2 + (3 : Int32))) = (own_at ts (3 : Int32))
          · refine own_via (fun t k => XS.icmpYes X0.here hx rfl (pc0 := 30) (pc' := 35) rfl (hb hby d2_30) rfl (teq c30''').1 (by decide) (by decide) k) ?_
            show own_Rch p.tables e below (s₁.setTop (mkF m 35 #[.val (.ref a1), .val (.int p2), .val (.int p3), .val (.ref a4), .val (.int (3 : Int32))] [])) _
            refine own_via (fun t k => XS.iinc X0.here hx rfl (hb hby d2_35) rfl (l' := #[.val (.ref a1), .val (.int p2), .val (.int p3), .val (.ref a4), .val (.int (4 : Int32))]) rfl k) ?_
            show own_Rch p.tables e below (s₁.setTop (mkF m 38 #[.val (.ref a1), .val (.int p2), .val (.int p3), .val (.ref a4), .val (.int (4 : Int32))] [])) _
            refine own_via (fun t k => XS.goto X0.here hx rfl (pc0 := 38) (pc' := 13) rfl (hb hby d2_38) (by decide) (by decide) k) ?_
            show own_Rch p.tables e below (s₁.setTop (mkF m 13 #[.val (.ref a1), .val (.int p2), .val (.int p3), .val (.ref a4), .val (.int (4 : Int32))] [])) _
            refine own_via (fun t k => XS.iload X0.here hx rfl (hb hby d2_13) rfl k) ?_
            show own_Rch p.tables e below (s₁.setTop (mkF m 15 #[.val (.ref a1), .val (.int p2), .val (.int p3), .val (.ref a4), .val (.int (4 : Int32))] [(.int (4 : Int32))])) _
            refine own_via (fun t k => XS.aloadN X0.here hx rfl (hb hby d2_15) rfl rfl k) ?_
            show own_Rch p.tables e below (s₁.setTop (mkF m 16 #[.val (.ref a1), .val (.int p2), .val (.int p3), .val (.ref a4), .val (.int (4 : Int32))] [(.ref a4), (.int (4 : Int32))])) _
            obtain ⟨cl14, Ar14, -, S14, M14, -, -⟩ := id Vt
            refine own_via (X0.arraylength hx (by rw [e0]; exact Ar14.1) (State.isArrayOf_alike hZ.alike Ar14.2.1) (g := (mkF m 16 #[.val (.ref a1), .val (.int p2), .val (.int p3), .val (.ref a4), .val (.int (4 : Int32))] [(.ref a4), (.int (4 : Int32))])) rfl rfl (hb hby d2_16)) ?_
            rw [len_of S14 M14]
            show own_Rch p.tables e below (s₁.setTop (mkF m 17 #[.val (.ref a1), .val (.int p2), .val (.int p3), .val (.ref a4), .val (.int (4 : Int32))] [(.int (5 : Int32)), (.int (4 : Int32))])) _
            refine own_via (fun t k => XS.icmpNo X0.here hx rfl (hb hby d2_17) rfl (tlt (by decide : (4 : Int32) < (5 : Int32))).2.1 k) ?_
            show own_Rch p.tables e below (s₁.setTop (mkF m 20 #[.val (.ref a1), .val (.int p2), .val (.int p3), .val (.ref a4), .val (.int (4 : Int32))] [])) _
            refine own_via (fun t k => XS.aloadN X0.here hx rfl (hb hby d2_20) rfl rfl k) ?_
            show own_Rch p.tables e below (s₁.setTop (mkF m 21 #[.val (.ref a1), .val (.int p2), .val (.int p3), .val (.ref a4), .val (.int (4 : Int32))] [(.ref a1)])) _
            refine own_via (fun t k => XS.iloadN X0.here hx rfl (hb hby d2_21) rfl k) ?_
            show own_Rch p.tables e below (s₁.setTop (mkF m 22 #[.val (.ref a1), .val (.int p2), .val (.int p3), .val (.ref a4), .val (.int (4 : Int32))] [(.int p2), (.ref a1)])) _
            refine own_via (fun t k => XS.iload X0.here hx rfl (hb hby d2_22) rfl k) ?_
            show own_Rch p.tables e below (s₁.setTop (mkF m 24 #[.val (.ref a1), .val (.int p2), .val (.int p3), .val (.ref a4), .val (.int (4 : Int32))] [(.int (4 : Int32)), (.int p2), (.ref a1)])) _
            refine own_via (fun t k => XS.iadd X0.here hx rfl (hb hby d2_24) rfl k) ?_
            show own_Rch p.tables e below (s₁.setTop (mkF m 25 #[.val (.ref a1), .val (.int p2), .val (.int p3), .val (.ref a4), .val (.int (4 : Int32))] [(.int (p2 + (4 : Int32))), (.ref a1)])) _
            obtain ⟨cl15, Ar15, -, S15, M15, H15, -⟩ := id V
            have hin15 : ¬ ((p2 + (4 : Int32)) < 0 ∨ cl15.slots.size ≤ ((p2 + (4 : Int32))).toNatClampNeg) := inb_of S15 (own_in p2 p3 (5 : Int32) (4 : Int32) (5 : Int32) i0 i1 i2 c5 (by decide) (by decide))
            have hat15 : cl15.slots[((p2 + (4 : Int32))).toNatClampNeg]? = some (.int (own_at l_ (p2 + (4 : Int32)))) := Has.at H15 hin15 (own_getI l_ _)
            refine own_via (X0.baloadBytes hx (j := (p2 + (4 : Int32))) (v := (.int (own_at l_ (p2 + (4 : Int32))))) (by rw [e0]; exact Ar15.1) (State.isArrayOf_alike hZ.alike Ar15.2.1) Ar15.2.2 hin15 hat15 (g := (mkF m 25 #[.val (.ref a1), .val (.int p2), .val (.int p3), .val (.ref a4), .val (.int (4 : Int32))] [(.int (p2 + (4 : Int32))), (.ref a1)])) rfl rfl (hb hby d2_25)) ?_
            show own_Rch p.tables e below (s₁.setTop (mkF m 26 #[.val (.ref a1), .val (.int p2), .val (.int p3), .val (.ref a4), .val (.int (4 : Int32))] [(.int (own_at l_ (p2 + (4 : Int32))))])) _
            refine own_via (fun t k => XS.aloadN X0.here hx rfl (hb hby d2_26) rfl rfl k) ?_
            show own_Rch p.tables e below (s₁.setTop (mkF m 27 #[.val (.ref a1), .val (.int p2), .val (.int p3), .val (.ref a4), .val (.int (4 : Int32))] [(.ref a4), (.int (own_at l_ (p2 + (4 : Int32))))])) _
            refine own_via (fun t k => XS.iload X0.here hx rfl (hb hby d2_27) rfl k) ?_
            show own_Rch p.tables e below (s₁.setTop (mkF m 29 #[.val (.ref a1), .val (.int p2), .val (.int p3), .val (.ref a4), .val (.int (4 : Int32))] [(.int (4 : Int32)), (.ref a4), (.int (own_at l_ (p2 + (4 : Int32))))])) _
            obtain ⟨cl16, Ar16, -, S16, M16, H16, -⟩ := id Vt
            have hin16 : ¬ ((4 : Int32) < 0 ∨ cl16.slots.size ≤ ((4 : Int32)).toNatClampNeg) := inb_of S16 (⟨by decide, by decide⟩)
            have hat16 : cl16.slots[((4 : Int32)).toNatClampNeg]? = some (.int (own_at ts (4 : Int32))) := Has.at H16 hin16 (own_getI ts _)
            refine own_via (X0.baloadBytes hx (j := (4 : Int32)) (v := (.int (own_at ts (4 : Int32)))) (by rw [e0]; exact Ar16.1) (State.isArrayOf_alike hZ.alike Ar16.2.1) Ar16.2.2 hin16 hat16 (g := (mkF m 29 #[.val (.ref a1), .val (.int p2), .val (.int p3), .val (.ref a4), .val (.int (4 : Int32))] [(.int (4 : Int32)), (.ref a4), (.int (own_at l_ (p2 + (4 : Int32))))])) rfl rfl (hb hby d2_29)) ?_
            show own_Rch p.tables e below (s₁.setTop (mkF m 30 #[.val (.ref a1), .val (.int p2), .val (.int p3), .val (.ref a4), .val (.int (4 : Int32))] [(.int (own_at ts (4 : Int32))), (.int (own_at l_ (p2 + (4 : Int32))))])) _
            by_cases c30'''' : (own_at l_ (p2 + (4 : Int32))) = (own_at ts (4 : Int32))
            · refine own_via (fun t k => XS.icmpYes X0.here hx rfl (pc0 := 30) (pc' := 35) rfl (hb hby d2_30) rfl (teq c30'''').1 (by decide) (by decide) k) ?_
              show own_Rch p.tables e below (s₁.setTop (mkF m 35 #[.val (.ref a1), .val (.int p2), .val (.int p3), .val (.ref a4), .val (.int (4 : Int32))] [])) _
              refine own_via (fun t k => XS.iinc X0.here hx rfl (hb hby d2_35) rfl (l' := #[.val (.ref a1), .val (.int p2), .val (.int p3), .val (.ref a4), .val (.int (5 : Int32))]) rfl k) ?_
              show own_Rch p.tables e below (s₁.setTop (mkF m 38 #[.val (.ref a1), .val (.int p2), .val (.int p3), .val (.ref a4), .val (.int (5 : Int32))] [])) _
              refine own_via (fun t k => XS.goto X0.here hx rfl (pc0 := 38) (pc' := 13) rfl (hb hby d2_38) (by decide) (by decide) k) ?_
              show own_Rch p.tables e below (s₁.setTop (mkF m 13 #[.val (.ref a1), .val (.int p2), .val (.int p3), .val (.ref a4), .val (.int (5 : Int32))] [])) _
              refine own_via (fun t k => XS.iload X0.here hx rfl (hb hby d2_13) rfl k) ?_
              show own_Rch p.tables e below (s₁.setTop (mkF m 15 #[.val (.ref a1), .val (.int p2), .val (.int p3), .val (.ref a4), .val (.int (5 : Int32))] [(.int (5 : Int32))])) _
              refine own_via (fun t k => XS.aloadN X0.here hx rfl (hb hby d2_15) rfl rfl k) ?_
              show own_Rch p.tables e below (s₁.setTop (mkF m 16 #[.val (.ref a1), .val (.int p2), .val (.int p3), .val (.ref a4), .val (.int (5 : Int32))] [(.ref a4), (.int (5 : Int32))])) _
              obtain ⟨cl17, Ar17, -, S17, M17, -, -⟩ := id Vt
              refine own_via (X0.arraylength hx (by rw [e0]; exact Ar17.1) (State.isArrayOf_alike hZ.alike Ar17.2.1) (g := (mkF m 16 #[.val (.ref a1), .val (.int p2), .val (.int p3), .val (.ref a4), .val (.int (5 : Int32))] [(.ref a4), (.int (5 : Int32))])) rfl rfl (hb hby d2_16)) ?_
              rw [len_of S17 M17]
              show own_Rch p.tables e below (s₁.setTop (mkF m 17 #[.val (.ref a1), .val (.int p2), .val (.int p3), .val (.ref a4), .val (.int (5 : Int32))] [(.int (5 : Int32)), (.int (5 : Int32))])) _
              refine own_via (fun t k => XS.icmpYes X0.here hx rfl (pc0 := 17) (pc' := 41) rfl (hb hby d2_17) rfl (flt (by decide : ¬ ((5 : Int32) < (5 : Int32)))).2.1 (by decide) (by decide) k) ?_
              show own_Rch p.tables e below (s₁.setTop (mkF m 41 #[.val (.ref a1), .val (.int p2), .val (.int p3), .val (.ref a4), .val (.int (5 : Int32))] [])) _
              refine own_via (fun t k => XS.iconst X0.here hx rfl (hb hby d2_41) k) ?_
              show own_Rch p.tables e below (s₁.setTop (mkF m 42 #[.val (.ref a1), .val (.int p2), .val (.int p3), .val (.ref a4), .val (.int (5 : Int32))] [(.int (1 : Int32))])) _
              exact own_fin X0 hx (t := .boolean) (i := .ireturn) Bd.returns Bd.notSynchronized rfl (Or.inl ⟨rfl, by simp, _, rfl⟩) (hb hby d2_42) (by decide) (by decide) ⟨by simp only [own_n4_5, if_pos c5, if_pos c30, if_pos c30', if_pos c30'', if_pos c30''', if_pos c30''''], N0, e0⟩
            · refine own_via (fun t k => XS.icmpNo X0.here hx rfl (hb hby d2_30) rfl (feq c30'''').1 k) ?_
              show own_Rch p.tables e below (s₁.setTop (mkF m 33 #[.val (.ref a1), .val (.int p2), .val (.int p3), .val (.ref a4), .val (.int (4 : Int32))] [])) _
              refine own_via (fun t k => XS.iconst X0.here hx rfl (hb hby d2_33) k) ?_
              show own_Rch p.tables e below (s₁.setTop (mkF m 34 #[.val (.ref a1), .val (.int p2), .val (.int p3), .val (.ref a4), .val (.int (4 : Int32))] [(.int (0 : Int32))])) _
              exact own_fin X0 hx (t := .boolean) (i := .ireturn) Bd.returns Bd.notSynchronized rfl (Or.inl ⟨rfl, by simp, _, rfl⟩) (hb hby d2_34) (by decide) (by decide) ⟨by simp only [own_n4_5, if_pos c5, if_pos c30, if_pos c30', if_pos c30'', if_pos c30''', if_neg c30''''], N0, e0⟩
          · refine own_via (fun t k => XS.icmpNo X0.here hx rfl (hb hby d2_30) rfl (feq c30''').1 k) ?_
            show own_Rch p.tables e below (s₁.setTop (mkF m 33 #[.val (.ref a1), .val (.int p2), .val (.int p3), .val (.ref a4), .val (.int (3 : Int32))] [])) _
            refine own_via (fun t k => XS.iconst X0.here hx rfl (hb hby d2_33) k) ?_
            show own_Rch p.tables e below (s₁.setTop (mkF m 34 #[.val (.ref a1), .val (.int p2), .val (.int p3), .val (.ref a4), .val (.int (3 : Int32))] [(.int (0 : Int32))])) _
            exact own_fin X0 hx (t := .boolean) (i := .ireturn) Bd.returns Bd.notSynchronized rfl (Or.inl ⟨rfl, by simp, _, rfl⟩) (hb hby d2_34) (by decide) (by decide) ⟨by simp only [own_n4_5, if_pos c5, if_pos c30, if_pos c30', if_pos c30'', if_neg c30'''], N0, e0⟩
        · refine own_via (fun t k => XS.icmpNo X0.here hx rfl (hb hby d2_30) rfl (feq c30'').1 k) ?_
          show own_Rch p.tables e below (s₁.setTop (mkF m 33 #[.val (.ref a1), .val (.int p2), .val (.int p3), .val (.ref a4), .val (.int (2 : Int32))] [])) _
          refine own_via (fun t k => XS.iconst X0.here hx rfl (hb hby d2_33) k) ?_
          show own_Rch p.tables e below (s₁.setTop (mkF m 34 #[.val (.ref a1), .val (.int p2), .val (.int p3), .val (.ref a4), .val (.int (2 : Int32))] [(.int (0 : Int32))])) _
          exact own_fin X0 hx (t := .boolean) (i := .ireturn) Bd.returns Bd.notSynchronized rfl (Or.inl ⟨rfl, by simp, _, rfl⟩) (hb hby d2_34) (by decide) (by decide) ⟨by simp only [own_n4_5, if_pos c5, if_pos c30, if_pos c30', if_neg c30''], N0, e0⟩
      · refine own_via (fun t k => XS.icmpNo X0.here hx rfl (hb hby d2_30) rfl (feq c30').1 k) ?_
        show own_Rch p.tables e below (s₁.setTop (mkF m 33 #[.val (.ref a1), .val (.int p2), .val (.int p3), .val (.ref a4), .val (.int (1 : Int32))] [])) _
        refine own_via (fun t k => XS.iconst X0.here hx rfl (hb hby d2_33) k) ?_
        show own_Rch p.tables e below (s₁.setTop (mkF m 34 #[.val (.ref a1), .val (.int p2), .val (.int p3), .val (.ref a4), .val (.int (1 : Int32))] [(.int (0 : Int32))])) _
        exact own_fin X0 hx (t := .boolean) (i := .ireturn) Bd.returns Bd.notSynchronized rfl (Or.inl ⟨rfl, by simp, _, rfl⟩) (hb hby d2_34) (by decide) (by decide) ⟨by simp only [own_n4_5, if_pos c5, if_pos c30, if_neg c30'], N0, e0⟩
    · refine own_via (fun t k => XS.icmpNo X0.here hx rfl (hb hby d2_30) rfl (feq c30).1 k) ?_
      show own_Rch p.tables e below (s₁.setTop (mkF m 33 #[.val (.ref a1), .val (.int p2), .val (.int p3), .val (.ref a4), .val (.int (0 : Int32))] [])) _
      refine own_via (fun t k => XS.iconst X0.here hx rfl (hb hby d2_33) k) ?_
      show own_Rch p.tables e below (s₁.setTop (mkF m 34 #[.val (.ref a1), .val (.int p2), .val (.int p3), .val (.ref a4), .val (.int (0 : Int32))] [(.int (0 : Int32))])) _
      exact own_fin X0 hx (t := .boolean) (i := .ireturn) Bd.returns Bd.notSynchronized rfl (Or.inl ⟨rfl, by simp, _, rfl⟩) (hb hby d2_34) (by decide) (by decide) ⟨by simp only [own_n4_5, if_pos c5, if_neg c30], N0, e0⟩
  · refine own_via (fun t k => XS.icmpNo X0.here hx rfl (hb hby d2_5) rfl (feq c5).1 k) ?_
    show own_Rch p.tables e below (s₁.setTop (mkF m 8 #[.val (.ref a1), .val (.int p2), .val (.int p3), .val (.ref a4), .unset] [])) _
    refine own_via (fun t k => XS.iconst X0.here hx rfl (hb hby d2_8) k) ?_
    show own_Rch p.tables e below (s₁.setTop (mkF m 9 #[.val (.ref a1), .val (.int p2), .val (.int p3), .val (.ref a4), .unset] [(.int (0 : Int32))])) _
    exact own_fin X0 hx (t := .boolean) (i := .ireturn) Bd.returns Bd.notSynchronized rfl (Or.inl ⟨rfl, by simp, _, rfl⟩) (hb hby d2_9) (by decide) (by decide) ⟨by simp only [own_n4_5, if_neg c5], N0, e0⟩
def Q0 (n0 : Nat) (v : Option Value) (h : Heap) (L : List Loc) : Prop := v = some (.int (1 : Int32)) ∧ Fr n0 L
theorem pd_0 : parseMethodDescriptor "([BII[B)Z" = some ⟨[(.array .byte), .int, .int, (.array .byte)], some .boolean⟩ := by decide +kernel
set_option maxRecDepth 65536 in
set_option maxHeartbeats 40000000 in
theorem tl_0 {p : Program} {l : Launch} {e : Env} {s : State} {m : MethodId} {args : Array Value} {below : List Frame} {meth : Method} {c : Code} {T0 : State} {locs : List Loc} {Z : State} {a0 : Array Value} {h0 : Heap} {n0 : Nat} (q1 q3 : Int64) (p4 p5 p6 p7 : Int32) (b : Addr) (f9 t10 t12 t13 t14 t15 t16 : Int32) (l_ : List Int32) (kb : ClassId)
    (X0 : Stand p l e room_1 s m args below meth c T0 locs 1 5) (hx : p.tables.exec = Jvm.exec) (hZ : Z.Warmed39 s.vm) (hw : ∀ d ∈ tables_1, d.before a0 Z = true) (hby : c.code = code) (hml : c.maxLocals = 19) (hown : s.vm.findClass "com/example/lastkey/lastkey/exec/TextFormatIsNullPinLaw" = some m.cls) (hret : meth.sig.returnType = some .boolean) (hlk : meth.locks = false) (e0 : T0.heap = h0) (N0 : Fr n0 locs) (Z0 : n0 ≤ h0.size) (V : Arv Z h0 b kb .byte (5 : Int32) (l_.map Value.int) (.int 0)) (i0 : 0 ≤ f9.toInt) (i1 : t10.toInt ≤ (5 : Int32).toInt) (i2 : 0 ≤ t10.toInt) (hbt12 : t12.toInt8.toInt32 = t12) (hbt13 : t13.toInt8.toInt32 = t13) (hbt14 : t14.toInt8.toInt32 = t14) (hbt15 : t15.toInt8.toInt32 = t15) (hbt16 : t16.toInt8.toInt32 = t16) :
    own_Rch p.tables e below (T0.setTop (mkF m 155 #[.val (.long q1), .second, .val (.long q3), .second, .val (.int p4), .val (.int p5), .val (.int p6), .val (.int p7), .val (.ref b), .val (.int f9), .val (.int t10), .val (.int (0 : Int32)), .val (.int t12), .val (.int t13), .val (.int t14), .val (.int t15), .val (.int t16), .unset, .unset] [])) (own_End s (Q0 n0) room_1.cells room_1.slots) := by
  show own_Rch p.tables e below (T0.setTop (mkF m 155 #[.val (.long q1), .second, .val (.long q3), .second, .val (.int p4), .val (.int p5), .val (.int p6), .val (.int p7), .val (.ref b), .val (.int f9), .val (.int t10), .val (.int (0 : Int32)), .val (.int t12), .val (.int t13), .val (.int t14), .val (.int t15), .val (.int t16), .unset, .unset] [])) _
  refine own_via (fun t k => XS.iload X0.here hx rfl (hb hby at_155) rfl k) ?_
  show own_Rch p.tables e below (T0.setTop (mkF m 157 #[.val (.long q1), .second, .val (.long q3), .second, .val (.int p4), .val (.int p5), .val (.int p6), .val (.int p7), .val (.ref b), .val (.int f9), .val (.int t10), .val (.int (0 : Int32)), .val (.int t12), .val (.int t13), .val (.int t14), .val (.int t15), .val (.int t16), .unset, .unset] [(.int (0 : Int32))])) _
  obtain ⟨T1, h1, k1, X1, e1, E1, A1, st1⟩ := newP X0 hx hZ (hw _ (List.mem_of_getElem? (i := 0) rfl)) e0 (g := (mkF m 157 #[.val (.long q1), .second, .val (.long q3), .second, .val (.int p4), .val (.int p5), .val (.int p6), .val (.int p7), .val (.ref b), .val (.int f9), .val (.int t10), .val (.int (0 : Int32)), .val (.int t12), .val (.int t13), .val (.int t14), .val (.int t15), .val (.int t16), .unset, .unset] [(.int (0 : Int32))])) rfl (hb hby at_157) rfl (by decide) (cap := 0) (by decide) (by decide) (by decide) (by decide)
  obtain ⟨b1, g1⟩ : ∃ z, z = h0.size := ⟨_, rfl⟩
  rw [← g1] at A1 st1
  have g_b1 : n0 ≤ b1 := Nat.le_trans Z0 (Nat.le_of_eq g1.symm)
  have V1 : Arv Z h1 b1 k1 .byte (0 : Int32) [] (.int (0 : Int32)) := (Arv.new A1 (by decide)).pad (pad_rep [] (.int (0 : Int32)) 0)
  refine own_via st1 ?_
  show own_Rch p.tables e below (T1.setTop (mkF m 159 #[.val (.long q1), .second, .val (.long q3), .second, .val (.int p4), .val (.int p5), .val (.int p6), .val (.int p7), .val (.ref b), .val (.int f9), .val (.int t10), .val (.int (0 : Int32)), .val (.int t12), .val (.int t13), .val (.int t14), .val (.int t15), .val (.int t16), .unset, .unset] [(.ref b1)])) _
  refine own_via (fun t k => XS.astore X1.here hx rfl (hb hby at_159) rfl rfl (l' := #[.val (.long q1), .second, .val (.long q3), .second, .val (.int p4), .val (.int p5), .val (.int p6), .val (.int p7), .val (.ref b), .val (.int f9), .val (.int t10), .val (.int (0 : Int32)), .val (.int t12), .val (.int t13), .val (.int t14), .val (.int t15), .val (.int t16), .val (.ref b1), .unset]) rfl k) ?_
  show own_Rch p.tables e below (T1.setTop (mkF m 161 #[.val (.long q1), .second, .val (.long q3), .second, .val (.int p4), .val (.int p5), .val (.int p6), .val (.int p7), .val (.ref b), .val (.int f9), .val (.int t10), .val (.int (0 : Int32)), .val (.int t12), .val (.int t13), .val (.int t14), .val (.int t15), .val (.int t16), .val (.ref b1), .unset] [])) _
  refine own_via (fun t k => XS.iload X1.here hx rfl (hb hby at_161) rfl k) ?_
  show own_Rch p.tables e below (T1.setTop (mkF m 163 #[.val (.long q1), .second, .val (.long q3), .second, .val (.int p4), .val (.int p5), .val (.int p6), .val (.int p7), .val (.ref b), .val (.int f9), .val (.int t10), .val (.int (0 : Int32)), .val (.int t12), .val (.int t13), .val (.int t14), .val (.int t15), .val (.int t16), .val (.ref b1), .unset] [(.int (0 : Int32))])) _
  refine own_via (fun t k => XS.ifYes X1.here hx rfl (pc0 := 163) (pc' := 172) rfl (hb hby at_163) rfl ((if0 _ _).trans (flt (by decide : ¬ ((0 : Int32) < (0 : Int32)))).2.2.2) (by decide) (by decide) k) ?_
  show own_Rch p.tables e below (T1.setTop (mkF m 172 #[.val (.long q1), .second, .val (.long q3), .second, .val (.int p4), .val (.int p5), .val (.int p6), .val (.int p7), .val (.ref b), .val (.int f9), .val (.int t10), .val (.int (0 : Int32)), .val (.int t12), .val (.int t13), .val (.int t14), .val (.int t15), .val (.int t16), .val (.ref b1), .unset] [])) _
  refine own_via (fun t k => XS.iload X1.here hx rfl (hb hby at_172) rfl k) ?_
  show own_Rch p.tables e below (T1.setTop (mkF m 174 #[.val (.long q1), .second, .val (.long q3), .second, .val (.int p4), .val (.int p5), .val (.int p6), .val (.int p7), .val (.ref b), .val (.int f9), .val (.int t10), .val (.int (0 : Int32)), .val (.int t12), .val (.int t13), .val (.int t14), .val (.int t15), .val (.int t16), .val (.ref b1), .unset] [(.int (0 : Int32))])) _
  refine own_via (fun t k => XS.iconst X1.here hx rfl (hb hby at_174) k) ?_
  show own_Rch p.tables e below (T1.setTop (mkF m 175 #[.val (.long q1), .second, .val (.long q3), .second, .val (.int p4), .val (.int p5), .val (.int p6), .val (.int p7), .val (.ref b), .val (.int f9), .val (.int t10), .val (.int (0 : Int32)), .val (.int t12), .val (.int t13), .val (.int t14), .val (.int t15), .val (.int t16), .val (.ref b1), .unset] [(.int (1 : Int32)), (.int (0 : Int32))])) _
  refine own_via (fun t k => XS.icmpYes X1.here hx rfl (pc0 := 175) (pc' := 184) rfl (hb hby at_175) rfl (flt (by decide : ¬ ((1 : Int32) < (0 : Int32)))).2.2.2 (by decide) (by decide) k) ?_
  show own_Rch p.tables e below (T1.setTop (mkF m 184 #[.val (.long q1), .second, .val (.long q3), .second, .val (.int p4), .val (.int p5), .val (.int p6), .val (.int p7), .val (.ref b), .val (.int f9), .val (.int t10), .val (.int (0 : Int32)), .val (.int t12), .val (.int t13), .val (.int t14), .val (.int t15), .val (.int t16), .val (.ref b1), .unset] [])) _
  refine own_via (fun t k => XS.iload X1.here hx rfl (hb hby at_184) rfl k) ?_
  show own_Rch p.tables e below (T1.setTop (mkF m 186 #[.val (.long q1), .second, .val (.long q3), .second, .val (.int p4), .val (.int p5), .val (.int p6), .val (.int p7), .val (.ref b), .val (.int f9), .val (.int t10), .val (.int (0 : Int32)), .val (.int t12), .val (.int t13), .val (.int t14), .val (.int t15), .val (.int t16), .val (.ref b1), .unset] [(.int (0 : Int32))])) _
  refine own_via (fun t k => XS.iconst X1.here hx rfl (hb hby at_186) k) ?_
  show own_Rch p.tables e below (T1.setTop (mkF m 187 #[.val (.long q1), .second, .val (.long q3), .second, .val (.int p4), .val (.int p5), .val (.int p6), .val (.int p7), .val (.ref b), .val (.int f9), .val (.int t10), .val (.int (0 : Int32)), .val (.int t12), .val (.int t13), .val (.int t14), .val (.int t15), .val (.int t16), .val (.ref b1), .unset] [(.int (2 : Int32)), (.int (0 : Int32))])) _
  refine own_via (fun t k => XS.icmpYes X1.here hx rfl (pc0 := 187) (pc' := 196) rfl (hb hby at_187) rfl (flt (by decide : ¬ ((2 : Int32) < (0 : Int32)))).2.2.2 (by decide) (by decide) k) ?_
  show own_Rch p.tables e below (T1.setTop (mkF m 196 #[.val (.long q1), .second, .val (.long q3), .second, .val (.int p4), .val (.int p5), .val (.int p6), .val (.int p7), .val (.ref b), .val (.int f9), .val (.int t10), .val (.int (0 : Int32)), .val (.int t12), .val (.int t13), .val (.int t14), .val (.int t15), .val (.int t16), .val (.ref b1), .unset] [])) _
  refine own_via (fun t k => XS.iload X1.here hx rfl (hb hby at_196) rfl k) ?_
  show own_Rch p.tables e below (T1.setTop (mkF m 198 #[.val (.long q1), .second, .val (.long q3), .second, .val (.int p4), .val (.int p5), .val (.int p6), .val (.int p7), .val (.ref b), .val (.int f9), .val (.int t10), .val (.int (0 : Int32)), .val (.int t12), .val (.int t13), .val (.int t14), .val (.int t15), .val (.int t16), .val (.ref b1), .unset] [(.int (0 : Int32))])) _
  refine own_via (fun t k => XS.iconst X1.here hx rfl (hb hby at_198) k) ?_
  show own_Rch p.tables e below (T1.setTop (mkF m 199 #[.val (.long q1), .second, .val (.long q3), .second, .val (.int p4), .val (.int p5), .val (.int p6), .val (.int p7), .val (.ref b), .val (.int f9), .val (.int t10), .val (.int (0 : Int32)), .val (.int t12), .val (.int t13), .val (.int t14), .val (.int t15), .val (.int t16), .val (.ref b1), .unset] [(.int (3 : Int32)), (.int (0 : Int32))])) _
  refine own_via (fun t k => XS.icmpYes X1.here hx rfl (pc0 := 199) (pc' := 208) rfl (hb hby at_199) rfl (flt (by decide : ¬ ((3 : Int32) < (0 : Int32)))).2.2.2 (by decide) (by decide) k) ?_
  show own_Rch p.tables e below (T1.setTop (mkF m 208 #[.val (.long q1), .second, .val (.long q3), .second, .val (.int p4), .val (.int p5), .val (.int p6), .val (.int p7), .val (.ref b), .val (.int f9), .val (.int t10), .val (.int (0 : Int32)), .val (.int t12), .val (.int t13), .val (.int t14), .val (.int t15), .val (.int t16), .val (.ref b1), .unset] [])) _
  refine own_via (fun t k => XS.iload X1.here hx rfl (hb hby at_208) rfl k) ?_
  show own_Rch p.tables e below (T1.setTop (mkF m 210 #[.val (.long q1), .second, .val (.long q3), .second, .val (.int p4), .val (.int p5), .val (.int p6), .val (.int p7), .val (.ref b), .val (.int f9), .val (.int t10), .val (.int (0 : Int32)), .val (.int t12), .val (.int t13), .val (.int t14), .val (.int t15), .val (.int t16), .val (.ref b1), .unset] [(.int (0 : Int32))])) _
  refine own_via (fun t k => XS.iconst X1.here hx rfl (hb hby at_210) k) ?_
  show own_Rch p.tables e below (T1.setTop (mkF m 211 #[.val (.long q1), .second, .val (.long q3), .second, .val (.int p4), .val (.int p5), .val (.int p6), .val (.int p7), .val (.ref b), .val (.int f9), .val (.int t10), .val (.int (0 : Int32)), .val (.int t12), .val (.int t13), .val (.int t14), .val (.int t15), .val (.int t16), .val (.ref b1), .unset] [(.int (4 : Int32)), (.int (0 : Int32))])) _
  refine own_via (fun t k => XS.icmpYes X1.here hx rfl (pc0 := 211) (pc' := 220) rfl (hb hby at_211) rfl (flt (by decide : ¬ ((4 : Int32) < (0 : Int32)))).2.2.2 (by decide) (by decide) k) ?_
  show own_Rch p.tables e below (T1.setTop (mkF m 220 #[.val (.long q1), .second, .val (.long q3), .second, .val (.int p4), .val (.int p5), .val (.int p6), .val (.int p7), .val (.ref b), .val (.int f9), .val (.int t10), .val (.int (0 : Int32)), .val (.int t12), .val (.int t13), .val (.int t14), .val (.int t15), .val (.int t16), .val (.ref b1), .unset] [])) _
  refine own_via (fun t k => XS.iload X1.here hx rfl (hb hby at_220) rfl k) ?_
  show own_Rch p.tables e below (T1.setTop (mkF m 222 #[.val (.long q1), .second, .val (.long q3), .second, .val (.int p4), .val (.int p5), .val (.int p6), .val (.int p7), .val (.ref b), .val (.int f9), .val (.int t10), .val (.int (0 : Int32)), .val (.int t12), .val (.int t13), .val (.int t14), .val (.int t15), .val (.int t16), .val (.ref b1), .unset] [(.int t10)])) _
  refine own_via (fun t k => XS.iload X1.here hx rfl (hb hby at_222) rfl k) ?_
  show own_Rch p.tables e below (T1.setTop (mkF m 224 #[.val (.long q1), .second, .val (.long q3), .second, .val (.int p4), .val (.int p5), .val (.int p6), .val (.int p7), .val (.ref b), .val (.int f9), .val (.int t10), .val (.int (0 : Int32)), .val (.int t12), .val (.int t13), .val (.int t14), .val (.int t15), .val (.int t16), .val (.ref b1), .unset] [(.int f9), (.int t10)])) _
  refine own_via (fun t k => XS.isub X1.here hx rfl (hb hby at_224) rfl k) ?_
  show own_Rch p.tables e below (T1.setTop (mkF m 225 #[.val (.long q1), .second, .val (.long q3), .second, .val (.int p4), .val (.int p5), .val (.int p6), .val (.int p7), .val (.ref b), .val (.int f9), .val (.int t10), .val (.int (0 : Int32)), .val (.int t12), .val (.int t13), .val (.int t14), .val (.int t15), .val (.int t16), .val (.ref b1), .unset] [(.int (t10 - f9))])) _
  refine own_via (fun t k => XS.iload X1.here hx rfl (hb hby at_225) rfl k) ?_
  show own_Rch p.tables e below (T1.setTop (mkF m 227 #[.val (.long q1), .second, .val (.long q3), .second, .val (.int p4), .val (.int p5), .val (.int p6), .val (.int p7), .val (.ref b), .val (.int f9), .val (.int t10), .val (.int (0 : Int32)), .val (.int t12), .val (.int t13), .val (.int t14), .val (.int t15), .val (.int t16), .val (.ref b1), .unset] [(.int (0 : Int32)), (.int (t10 - f9))])) _
  by_cases c227 : (t10 - f9) = (0 : Int32)
  · refine own_via (fun t k => XS.icmpNo X1.here hx rfl (hb hby at_227) rfl (teq c227).2 k) ?_
    show own_Rch p.tables e below (T1.setTop (mkF m 230 #[.val (.long q1), .second, .val (.long q3), .second, .val (.int p4), .val (.int p5), .val (.int p6), .val (.int p7), .val (.ref b), .val (.int f9), .val (.int t10), .val (.int (0 : Int32)), .val (.int t12), .val (.int t13), .val (.int t14), .val (.int t15), .val (.int t16), .val (.ref b1), .unset] [])) _
    refine own_via (fun t k => XS.iload X1.here hx rfl (hb hby at_230) rfl k) ?_
    show own_Rch p.tables e below (T1.setTop (mkF m 232 #[.val (.long q1), .second, .val (.long q3), .second, .val (.int p4), .val (.int p5), .val (.int p6), .val (.int p7), .val (.ref b), .val (.int f9), .val (.int t10), .val (.int (0 : Int32)), .val (.int t12), .val (.int t13), .val (.int t14), .val (.int t15), .val (.int t16), .val (.ref b1), .unset] [(.int (0 : Int32))])) _
    refine own_via (fun t k => XS.iconst X1.here hx rfl (hb hby at_232) k) ?_
    show own_Rch p.tables e below (T1.setTop (mkF m 233 #[.val (.long q1), .second, .val (.long q3), .second, .val (.int p4), .val (.int p5), .val (.int p6), .val (.int p7), .val (.ref b), .val (.int f9), .val (.int t10), .val (.int (0 : Int32)), .val (.int t12), .val (.int t13), .val (.int t14), .val (.int t15), .val (.int t16), .val (.ref b1), .unset] [(.int (1 : Int32)), (.int (0 : Int32))])) _
    refine own_via (fun t k => XS.icmpYes X1.here hx rfl (pc0 := 233) (pc' := 246) rfl (hb hby at_233) rfl (tlt (by decide : (0 : Int32) < (1 : Int32))).1 (by decide) (by decide) k) ?_
    show own_Rch p.tables e below (T1.setTop (mkF m 246 #[.val (.long q1), .second, .val (.long q3), .second, .val (.int p4), .val (.int p5), .val (.int p6), .val (.int p7), .val (.ref b), .val (.int f9), .val (.int t10), .val (.int (0 : Int32)), .val (.int t12), .val (.int t13), .val (.int t14), .val (.int t15), .val (.int t16), .val (.ref b1), .unset] [])) _
    refine own_via (fun t k => XS.iload X1.here hx rfl (hb hby at_246) rfl k) ?_
    show own_Rch p.tables e below (T1.setTop (mkF m 248 #[.val (.long q1), .second, .val (.long q3), .second, .val (.int p4), .val (.int p5), .val (.int p6), .val (.int p7), .val (.ref b), .val (.int f9), .val (.int t10), .val (.int (0 : Int32)), .val (.int t12), .val (.int t13), .val (.int t14), .val (.int t15), .val (.int t16), .val (.ref b1), .unset] [(.int (0 : Int32))])) _
    refine own_via (fun t k => XS.iconst X1.here hx rfl (hb hby at_248) k) ?_
    show own_Rch p.tables e below (T1.setTop (mkF m 249 #[.val (.long q1), .second, .val (.long q3), .second, .val (.int p4), .val (.int p5), .val (.int p6), .val (.int p7), .val (.ref b), .val (.int f9), .val (.int t10), .val (.int (0 : Int32)), .val (.int t12), .val (.int t13), .val (.int t14), .val (.int t15), .val (.int t16), .val (.ref b1), .unset] [(.int (2 : Int32)), (.int (0 : Int32))])) _
    refine own_via (fun t k => XS.icmpYes X1.here hx rfl (pc0 := 249) (pc' := 264) rfl (hb hby at_249) rfl (tlt (by decide : (0 : Int32) < (2 : Int32))).1 (by decide) (by decide) k) ?_
    show own_Rch p.tables e below (T1.setTop (mkF m 264 #[.val (.long q1), .second, .val (.long q3), .second, .val (.int p4), .val (.int p5), .val (.int p6), .val (.int p7), .val (.ref b), .val (.int f9), .val (.int t10), .val (.int (0 : Int32)), .val (.int t12), .val (.int t13), .val (.int t14), .val (.int t15), .val (.int t16), .val (.ref b1), .unset] [])) _
    refine own_via (fun t k => XS.iload X1.here hx rfl (hb hby at_264) rfl k) ?_
    show own_Rch p.tables e below (T1.setTop (mkF m 266 #[.val (.long q1), .second, .val (.long q3), .second, .val (.int p4), .val (.int p5), .val (.int p6), .val (.int p7), .val (.ref b), .val (.int f9), .val (.int t10), .val (.int (0 : Int32)), .val (.int t12), .val (.int t13), .val (.int t14), .val (.int t15), .val (.int t16), .val (.ref b1), .unset] [(.int (0 : Int32))])) _
    refine own_via (fun t k => XS.iconst X1.here hx rfl (hb hby at_266) k) ?_
    show own_Rch p.tables e below (T1.setTop (mkF m 267 #[.val (.long q1), .second, .val (.long q3), .second, .val (.int p4), .val (.int p5), .val (.int p6), .val (.int p7), .val (.ref b), .val (.int f9), .val (.int t10), .val (.int (0 : Int32)), .val (.int t12), .val (.int t13), .val (.int t14), .val (.int t15), .val (.int t16), .val (.ref b1), .unset] [(.int (3 : Int32)), (.int (0 : Int32))])) _
    refine own_via (fun t k => XS.icmpYes X1.here hx rfl (pc0 := 267) (pc' := 282) rfl (hb hby at_267) rfl (tlt (by decide : (0 : Int32) < (3 : Int32))).1 (by decide) (by decide) k) ?_
    show own_Rch p.tables e below (T1.setTop (mkF m 282 #[.val (.long q1), .second, .val (.long q3), .second, .val (.int p4), .val (.int p5), .val (.int p6), .val (.int p7), .val (.ref b), .val (.int f9), .val (.int t10), .val (.int (0 : Int32)), .val (.int t12), .val (.int t13), .val (.int t14), .val (.int t15), .val (.int t16), .val (.ref b1), .unset] [])) _
    refine own_via (fun t k => XS.iload X1.here hx rfl (hb hby at_282) rfl k) ?_
    show own_Rch p.tables e below (T1.setTop (mkF m 284 #[.val (.long q1), .second, .val (.long q3), .second, .val (.int p4), .val (.int p5), .val (.int p6), .val (.int p7), .val (.ref b), .val (.int f9), .val (.int t10), .val (.int (0 : Int32)), .val (.int t12), .val (.int t13), .val (.int t14), .val (.int t15), .val (.int t16), .val (.ref b1), .unset] [(.int (0 : Int32))])) _
    refine own_via (fun t k => XS.iconst X1.here hx rfl (hb hby at_284) k) ?_
    show own_Rch p.tables e below (T1.setTop (mkF m 285 #[.val (.long q1), .second, .val (.long q3), .second, .val (.int p4), .val (.int p5), .val (.int p6), .val (.int p7), .val (.ref b), .val (.int f9), .val (.int t10), .val (.int (0 : Int32)), .val (.int t12), .val (.int t13), .val (.int t14), .val (.int t15), .val (.int t16), .val (.ref b1), .unset] [(.int (4 : Int32)), (.int (0 : Int32))])) _
    refine own_via (fun t k => XS.icmpYes X1.here hx rfl (pc0 := 285) (pc' := 300) rfl (hb hby at_285) rfl (tlt (by decide : (0 : Int32) < (4 : Int32))).1 (by decide) (by decide) k) ?_
    show own_Rch p.tables e below (T1.setTop (mkF m 300 #[.val (.long q1), .second, .val (.long q3), .second, .val (.int p4), .val (.int p5), .val (.int p6), .val (.int p7), .val (.ref b), .val (.int f9), .val (.int t10), .val (.int (0 : Int32)), .val (.int t12), .val (.int t13), .val (.int t14), .val (.int t15), .val (.int t16), .val (.ref b1), .unset] [])) _
    refine own_via (fun t k => XS.iload X1.here hx rfl (hb hby at_300) rfl k) ?_
    show own_Rch p.tables e below (T1.setTop (mkF m 302 #[.val (.long q1), .second, .val (.long q3), .second, .val (.int p4), .val (.int p5), .val (.int p6), .val (.int p7), .val (.ref b), .val (.int f9), .val (.int t10), .val (.int (0 : Int32)), .val (.int t12), .val (.int t13), .val (.int t14), .val (.int t15), .val (.int t16), .val (.ref b1), .unset] [(.int (0 : Int32))])) _
    refine own_via (fun t k => XS.iconst X1.here hx rfl (hb hby at_302) k) ?_
    show own_Rch p.tables e below (T1.setTop (mkF m 303 #[.val (.long q1), .second, .val (.long q3), .second, .val (.int p4), .val (.int p5), .val (.int p6), .val (.int p7), .val (.ref b), .val (.int f9), .val (.int t10), .val (.int (0 : Int32)), .val (.int t12), .val (.int t13), .val (.int t14), .val (.int t15), .val (.int t16), .val (.ref b1), .unset] [(.int (5 : Int32)), (.int (0 : Int32))])) _
    refine own_via (fun t k => XS.icmpYes X1.here hx rfl (pc0 := 303) (pc' := 318) rfl (hb hby at_303) rfl (tlt (by decide : (0 : Int32) < (5 : Int32))).1 (by decide) (by decide) k) ?_
    show own_Rch p.tables e below (T1.setTop (mkF m 318 #[.val (.long q1), .second, .val (.long q3), .second, .val (.int p4), .val (.int p5), .val (.int p6), .val (.int p7), .val (.ref b), .val (.int f9), .val (.int t10), .val (.int (0 : Int32)), .val (.int t12), .val (.int t13), .val (.int t14), .val (.int t15), .val (.int t16), .val (.ref b1), .unset] [])) _
    refine own_via (fun t k => XS.iconst X1.here hx rfl (hb hby at_318) k) ?_
    show own_Rch p.tables e below (T1.setTop (mkF m 319 #[.val (.long q1), .second, .val (.long q3), .second, .val (.int p4), .val (.int p5), .val (.int p6), .val (.int p7), .val (.ref b), .val (.int f9), .val (.int t10), .val (.int (0 : Int32)), .val (.int t12), .val (.int t13), .val (.int t14), .val (.int t15), .val (.int t16), .val (.ref b1), .unset] [(.int (1 : Int32))])) _
    refine own_via (fun t k => XS.goto X1.here hx rfl (pc0 := 319) (pc' := 323) rfl (hb hby at_319) (by decide) (by decide) k) ?_
    show own_Rch p.tables e below (T1.setTop (mkF m 323 #[.val (.long q1), .second, .val (.long q3), .second, .val (.int p4), .val (.int p5), .val (.int p6), .val (.int p7), .val (.ref b), .val (.int f9), .val (.int t10), .val (.int (0 : Int32)), .val (.int t12), .val (.int t13), .val (.int t14), .val (.int t15), .val (.int t16), .val (.ref b1), .unset] [(.int (1 : Int32))])) _
    refine own_via (fun t k => XS.istore X1.here hx rfl (hb hby at_323) rfl (l' := #[.val (.long q1), .second, .val (.long q3), .second, .val (.int p4), .val (.int p5), .val (.int p6), .val (.int p7), .val (.ref b), .val (.int f9), .val (.int t10), .val (.int (0 : Int32)), .val (.int t12), .val (.int t13), .val (.int t14), .val (.int t15), .val (.int t16), .val (.ref b1), .val (.int (1 : Int32))]) rfl k) ?_
    show own_Rch p.tables e below (T1.setTop (mkF m 325 #[.val (.long q1), .second, .val (.long q3), .second, .val (.int p4), .val (.int p5), .val (.int p6), .val (.int p7), .val (.ref b), .val (.int f9), .val (.int t10), .val (.int (0 : Int32)), .val (.int t12), .val (.int t13), .val (.int t14), .val (.int t15), .val (.int t16), .val (.ref b1), .val (.int (1 : Int32))] [])) _
    refine own_via (fun t k => XS.aload X1.here hx rfl (hb hby at_325) rfl rfl k) ?_
    show own_Rch p.tables e below (T1.setTop (mkF m 327 #[.val (.long q1), .second, .val (.long q3), .second, .val (.int p4), .val (.int p5), .val (.int p6), .val (.int p7), .val (.ref b), .val (.int f9), .val (.int t10), .val (.int (0 : Int32)), .val (.int t12), .val (.int t13), .val (.int t14), .val (.int t15), .val (.int t16), .val (.ref b1), .val (.int (1 : Int32))] [(.ref b)])) _
    refine own_via (fun t k => XS.iload X1.here hx rfl (hb hby at_327) rfl k) ?_
    show own_Rch p.tables e below (T1.setTop (mkF m 329 #[.val (.long q1), .second, .val (.long q3), .second, .val (.int p4), .val (.int p5), .val (.int p6), .val (.int p7), .val (.ref b), .val (.int f9), .val (.int t10), .val (.int (0 : Int32)), .val (.int t12), .val (.int t13), .val (.int t14), .val (.int t15), .val (.int t16), .val (.ref b1), .val (.int (1 : Int32))] [(.int f9), (.ref b)])) _
    refine own_via (fun t k => XS.iload X1.here hx rfl (hb hby at_329) rfl k) ?_
    show own_Rch p.tables e below (T1.setTop (mkF m 331 #[.val (.long q1), .second, .val (.long q3), .second, .val (.int p4), .val (.int p5), .val (.int p6), .val (.int p7), .val (.ref b), .val (.int f9), .val (.int t10), .val (.int (0 : Int32)), .val (.int t12), .val (.int t13), .val (.int t14), .val (.int t15), .val (.int t16), .val (.ref b1), .val (.int (1 : Int32))] [(.int t10), (.int f9), (.ref b)])) _
    refine own_via (fun t k => XS.aload X1.here hx rfl (hb hby at_331) rfl rfl k) ?_
    show own_Rch p.tables e below (T1.setTop (mkF m 333 #[.val (.long q1), .second, .val (.long q3), .second, .val (.int p4), .val (.int p5), .val (.int p6), .val (.int p7), .val (.ref b), .val (.int f9), .val (.int t10), .val (.int (0 : Int32)), .val (.int t12), .val (.int t13), .val (.int t14), .val (.int t15), .val (.int t16), .val (.ref b1), .val (.int (1 : Int32))] [(.ref b1), (.int t10), (.int f9), (.ref b)])) _
    have Vt2 := V1
    obtain ⟨_, _, ⟨T2, L2, k2, n2⟩, -, X2, ⟨Lc2, hQ2, l2, y2, z2⟩, st2⟩ := Jvm.LawKit.callS X1 hx (y := (⟨"com/example/lastkey/lastkey/exec/TextFormat", "isNull", "([BII[B)Z"⟩ : MethodName)) hown (mvT hZ (hw _ (List.mem_of_getElem? (i := 6) rfl))) (mvT hZ (hw _ (List.mem_of_getElem? (i := 7) rfl))) (mvT hZ (hw _ (List.mem_of_getElem? (i := 8) rfl))) (mvT hZ (hw _ (List.mem_of_getElem? (i := 9) rfl))) (by decide) (backOf (W := 0) (rm2_0 l Z a0 hw [] b f9 t10 b1 l_ [] kb k1 h1 n0 (V.ext E1) Vt2 i0 i1 i2) hZ (hw _ (List.mem_of_getElem? (i := 9) rfl)) (hw _ (List.mem_of_getElem? (i := 8) rfl)) (by decide) (by decide)) (g := (mkF m 333 #[.val (.long q1), .second, .val (.long q3), .second, .val (.int p4), .val (.int p5), .val (.int p6), .val (.int p7), .val (.ref b), .val (.int f9), .val (.int t10), .val (.int (0 : Int32)), .val (.int t12), .val (.int t13), .val (.int t14), .val (.int t15), .val (.int t16), .val (.ref b1), .val (.int (1 : Int32))] [(.ref b1), (.int t10), (.int f9), (.ref b)])) rfl (by rw [hml]; rfl) (argsL := [(.ref b), (.int f9), (.int t10), (.ref b1)]) (rest := []) (lenOf pd_0 rfl) rfl (by show 2 * 0 + _ ≤ _; exact Nat.le_of_eq rfl) (hb hby at_333) (fun _ _ => ⟨rfl, e1, (by decide : 2 + 0 ≤ _), (by decide : 5 + 0 ≤ _)⟩)
    dsimp only [Pt.U, Pt.locs, Pt.cells, Pt.slots] at X2 l2 y2 z2 st2 hQ2
    subst l2 y2 z2
    obtain ⟨rfl, N2q, eh2⟩ := hQ2
    have N2 := Fr.app N0 N2q
    refine own_via st2 ?_
    show own_Rch p.tables e below (T2.setTop (mkF m 336 #[.val (.long q1), .second, .val (.long q3), .second, .val (.int p4), .val (.int p5), .val (.int p6), .val (.int p7), .val (.ref b), .val (.int f9), .val (.int t10), .val (.int (0 : Int32)), .val (.int t12), .val (.int t13), .val (.int t14), .val (.int t15), .val (.int t16), .val (.ref b1), .val (.int (1 : Int32))] [(.int (own_n4_0 l_ [] f9 t10))])) _
    refine own_via (fun t k => XS.iload X2.here hx rfl (hb hby at_336) rfl k) ?_
    show own_Rch p.tables e below (T2.setTop (mkF m 338 #[.val (.long q1), .second, .val (.long q3), .second, .val (.int p4), .val (.int p5), .val (.int p6), .val (.int p7), .val (.ref b), .val (.int f9), .val (.int t10), .val (.int (0 : Int32)), .val (.int t12), .val (.int t13), .val (.int t14), .val (.int t15), .val (.int t16), .val (.ref b1), .val (.int (1 : Int32))] [(.int (1 : Int32)), (.int (own_n4_0 l_ [] f9 t10))])) _
    have hq : (own_n4_0 l_ [] f9 t10) = (1 : Int32) := by simp only [own_n4_0, Int32.add_zero, if_pos c227]
    refine own_via (fun t k => XS.icmpNo X2.here hx rfl (hb hby at_338) rfl (teq hq).2 k) ?_
    show own_Rch p.tables e below (T2.setTop (mkF m 341 #[.val (.long q1), .second, .val (.long q3), .second, .val (.int p4), .val (.int p5), .val (.int p6), .val (.int p7), .val (.ref b), .val (.int f9), .val (.int t10), .val (.int (0 : Int32)), .val (.int t12), .val (.int t13), .val (.int t14), .val (.int t15), .val (.int t16), .val (.ref b1), .val (.int (1 : Int32))] [])) _
    refine own_via (fun t k => XS.iconst X2.here hx rfl (hb hby at_341) k) ?_
    show own_Rch p.tables e below (T2.setTop (mkF m 342 #[.val (.long q1), .second, .val (.long q3), .second, .val (.int p4), .val (.int p5), .val (.int p6), .val (.int p7), .val (.ref b), .val (.int f9), .val (.int t10), .val (.int (0 : Int32)), .val (.int t12), .val (.int t13), .val (.int t14), .val (.int t15), .val (.int t16), .val (.ref b1), .val (.int (1 : Int32))] [(.int (1 : Int32))])) _
    refine own_via (fun t k => XS.goto X2.here hx rfl (pc0 := 342) (pc' := 346) rfl (hb hby at_342) (by decide) (by decide) k) ?_
    show own_Rch p.tables e below (T2.setTop (mkF m 346 #[.val (.long q1), .second, .val (.long q3), .second, .val (.int p4), .val (.int p5), .val (.int p6), .val (.int p7), .val (.ref b), .val (.int f9), .val (.int t10), .val (.int (0 : Int32)), .val (.int t12), .val (.int t13), .val (.int t14), .val (.int t15), .val (.int t16), .val (.ref b1), .val (.int (1 : Int32))] [(.int (1 : Int32))])) _
    exact own_fin X2 hx (t := .boolean) (i := .ireturn) hret hlk rfl (Or.inl ⟨rfl, by simp, _, rfl⟩) (hb hby at_346) (by decide) (by decide) ⟨rfl, N2⟩
  · refine own_via (fun t k => XS.icmpYes X1.here hx rfl (pc0 := 227) (pc' := 322) rfl (hb hby at_227) rfl (feq c227).2 (by decide) (by decide) k) ?_
    show own_Rch p.tables e below (T1.setTop (mkF m 322 #[.val (.long q1), .second, .val (.long q3), .second, .val (.int p4), .val (.int p5), .val (.int p6), .val (.int p7), .val (.ref b), .val (.int f9), .val (.int t10), .val (.int (0 : Int32)), .val (.int t12), .val (.int t13), .val (.int t14), .val (.int t15), .val (.int t16), .val (.ref b1), .unset] [])) _
    refine own_via (fun t k => XS.iconst X1.here hx rfl (hb hby at_322) k) ?_
    show own_Rch p.tables e below (T1.setTop (mkF m 323 #[.val (.long q1), .second, .val (.long q3), .second, .val (.int p4), .val (.int p5), .val (.int p6), .val (.int p7), .val (.ref b), .val (.int f9), .val (.int t10), .val (.int (0 : Int32)), .val (.int t12), .val (.int t13), .val (.int t14), .val (.int t15), .val (.int t16), .val (.ref b1), .unset] [(.int (0 : Int32))])) _
    refine own_via (fun t k => XS.istore X1.here hx rfl (hb hby at_323) rfl (l' := #[.val (.long q1), .second, .val (.long q3), .second, .val (.int p4), .val (.int p5), .val (.int p6), .val (.int p7), .val (.ref b), .val (.int f9), .val (.int t10), .val (.int (0 : Int32)), .val (.int t12), .val (.int t13), .val (.int t14), .val (.int t15), .val (.int t16), .val (.ref b1), .val (.int (0 : Int32))]) rfl k) ?_
    show own_Rch p.tables e below (T1.setTop (mkF m 325 #[.val (.long q1), .second, .val (.long q3), .second, .val (.int p4), .val (.int p5), .val (.int p6), .val (.int p7), .val (.ref b), .val (.int f9), .val (.int t10), .val (.int (0 : Int32)), .val (.int t12), .val (.int t13), .val (.int t14), .val (.int t15), .val (.int t16), .val (.ref b1), .val (.int (0 : Int32))] [])) _
    refine own_via (fun t k => XS.aload X1.here hx rfl (hb hby at_325) rfl rfl k) ?_
    show own_Rch p.tables e below (T1.setTop (mkF m 327 #[.val (.long q1), .second, .val (.long q3), .second, .val (.int p4), .val (.int p5), .val (.int p6), .val (.int p7), .val (.ref b), .val (.int f9), .val (.int t10), .val (.int (0 : Int32)), .val (.int t12), .val (.int t13), .val (.int t14), .val (.int t15), .val (.int t16), .val (.ref b1), .val (.int (0 : Int32))] [(.ref b)])) _
    refine own_via (fun t k => XS.iload X1.here hx rfl (hb hby at_327) rfl k) ?_
    show own_Rch p.tables e below (T1.setTop (mkF m 329 #[.val (.long q1), .second, .val (.long q3), .second, .val (.int p4), .val (.int p5), .val (.int p6), .val (.int p7), .val (.ref b), .val (.int f9), .val (.int t10), .val (.int (0 : Int32)), .val (.int t12), .val (.int t13), .val (.int t14), .val (.int t15), .val (.int t16), .val (.ref b1), .val (.int (0 : Int32))] [(.int f9), (.ref b)])) _
    refine own_via (fun t k => XS.iload X1.here hx rfl (hb hby at_329) rfl k) ?_
    show own_Rch p.tables e below (T1.setTop (mkF m 331 #[.val (.long q1), .second, .val (.long q3), .second, .val (.int p4), .val (.int p5), .val (.int p6), .val (.int p7), .val (.ref b), .val (.int f9), .val (.int t10), .val (.int (0 : Int32)), .val (.int t12), .val (.int t13), .val (.int t14), .val (.int t15), .val (.int t16), .val (.ref b1), .val (.int (0 : Int32))] [(.int t10), (.int f9), (.ref b)])) _
    refine own_via (fun t k => XS.aload X1.here hx rfl (hb hby at_331) rfl rfl k) ?_
    show own_Rch p.tables e below (T1.setTop (mkF m 333 #[.val (.long q1), .second, .val (.long q3), .second, .val (.int p4), .val (.int p5), .val (.int p6), .val (.int p7), .val (.ref b), .val (.int f9), .val (.int t10), .val (.int (0 : Int32)), .val (.int t12), .val (.int t13), .val (.int t14), .val (.int t15), .val (.int t16), .val (.ref b1), .val (.int (0 : Int32))] [(.ref b1), (.int t10), (.int f9), (.ref b)])) _
    have Vt3 := V1
    obtain ⟨_, _, ⟨T3, L3, k3, n3⟩, -, X3, ⟨Lc3, hQ3, l3, y3, z3⟩, st3⟩ := Jvm.LawKit.callS X1 hx (y := (⟨"com/example/lastkey/lastkey/exec/TextFormat", "isNull", "([BII[B)Z"⟩ : MethodName)) hown (mvT hZ (hw _ (List.mem_of_getElem? (i := 6) rfl))) (mvT hZ (hw _ (List.mem_of_getElem? (i := 7) rfl))) (mvT hZ (hw _ (List.mem_of_getElem? (i := 8) rfl))) (mvT hZ (hw _ (List.mem_of_getElem? (i := 9) rfl))) (by decide) (backOf (W := 0) (rm2_0 l Z a0 hw [] b f9 t10 b1 l_ [] kb k1 h1 n0 (V.ext E1) Vt3 i0 i1 i2) hZ (hw _ (List.mem_of_getElem? (i := 9) rfl)) (hw _ (List.mem_of_getElem? (i := 8) rfl)) (by decide) (by decide)) (g := (mkF m 333 #[.val (.long q1), .second, .val (.long q3), .second, .val (.int p4), .val (.int p5), .val (.int p6), .val (.int p7), .val (.ref b), .val (.int f9), .val (.int t10), .val (.int (0 : Int32)), .val (.int t12), .val (.int t13), .val (.int t14), .val (.int t15), .val (.int t16), .val (.ref b1), .val (.int (0 : Int32))] [(.ref b1), (.int t10), (.int f9), (.ref b)])) rfl (by rw [hml]; rfl) (argsL := [(.ref b), (.int f9), (.int t10), (.ref b1)]) (rest := []) (lenOf pd_0 rfl) rfl (by show 2 * 0 + _ ≤ _; exact Nat.le_of_eq rfl) (hb hby at_333) (fun _ _ => ⟨rfl, e1, (by decide : 2 + 0 ≤ _), (by decide : 5 + 0 ≤ _)⟩)
    dsimp only [Pt.U, Pt.locs, Pt.cells, Pt.slots] at X3 l3 y3 z3 st3 hQ3
    subst l3 y3 z3
    obtain ⟨rfl, N3q, eh3⟩ := hQ3
    have N3 := Fr.app N0 N3q
    refine own_via st3 ?_
    show own_Rch p.tables e below (T3.setTop (mkF m 336 #[.val (.long q1), .second, .val (.long q3), .second, .val (.int p4), .val (.int p5), .val (.int p6), .val (.int p7), .val (.ref b), .val (.int f9), .val (.int t10), .val (.int (0 : Int32)), .val (.int t12), .val (.int t13), .val (.int t14), .val (.int t15), .val (.int t16), .val (.ref b1), .val (.int (0 : Int32))] [(.int (own_n4_0 l_ [] f9 t10))])) _
    refine own_via (fun t k => XS.iload X3.here hx rfl (hb hby at_336) rfl k) ?_
    show own_Rch p.tables e below (T3.setTop (mkF m 338 #[.val (.long q1), .second, .val (.long q3), .second, .val (.int p4), .val (.int p5), .val (.int p6), .val (.int p7), .val (.ref b), .val (.int f9), .val (.int t10), .val (.int (0 : Int32)), .val (.int t12), .val (.int t13), .val (.int t14), .val (.int t15), .val (.int t16), .val (.ref b1), .val (.int (0 : Int32))] [(.int (0 : Int32)), (.int (own_n4_0 l_ [] f9 t10))])) _
    have hq : (own_n4_0 l_ [] f9 t10) = (0 : Int32) := by simp only [own_n4_0, Int32.add_zero, if_neg c227]
    refine own_via (fun t k => XS.icmpNo X3.here hx rfl (hb hby at_338) rfl (teq hq).2 k) ?_
    show own_Rch p.tables e below (T3.setTop (mkF m 341 #[.val (.long q1), .second, .val (.long q3), .second, .val (.int p4), .val (.int p5), .val (.int p6), .val (.int p7), .val (.ref b), .val (.int f9), .val (.int t10), .val (.int (0 : Int32)), .val (.int t12), .val (.int t13), .val (.int t14), .val (.int t15), .val (.int t16), .val (.ref b1), .val (.int (0 : Int32))] [])) _
    refine own_via (fun t k => XS.iconst X3.here hx rfl (hb hby at_341) k) ?_
    show own_Rch p.tables e below (T3.setTop (mkF m 342 #[.val (.long q1), .second, .val (.long q3), .second, .val (.int p4), .val (.int p5), .val (.int p6), .val (.int p7), .val (.ref b), .val (.int f9), .val (.int t10), .val (.int (0 : Int32)), .val (.int t12), .val (.int t13), .val (.int t14), .val (.int t15), .val (.int t16), .val (.ref b1), .val (.int (0 : Int32))] [(.int (1 : Int32))])) _
    refine own_via (fun t k => XS.goto X3.here hx rfl (pc0 := 342) (pc' := 346) rfl (hb hby at_342) (by decide) (by decide) k) ?_
    show own_Rch p.tables e below (T3.setTop (mkF m 346 #[.val (.long q1), .second, .val (.long q3), .second, .val (.int p4), .val (.int p5), .val (.int p6), .val (.int p7), .val (.ref b), .val (.int f9), .val (.int t10), .val (.int (0 : Int32)), .val (.int t12), .val (.int t13), .val (.int t14), .val (.int t15), .val (.int t16), .val (.ref b1), .val (.int (0 : Int32))] [(.int (1 : Int32))])) _
    exact own_fin X3 hx (t := .boolean) (i := .ireturn) hret hlk rfl (Or.inl ⟨rfl, by simp, _, rfl⟩) (hb hby at_346) (by decide) (by decide) ⟨rfl, N3⟩
set_option maxRecDepth 65536 in
set_option maxHeartbeats 40000000 in
theorem tl_1 {p : Program} {l : Launch} {e : Env} {s : State} {m : MethodId} {args : Array Value} {below : List Frame} {meth : Method} {c : Code} {T0 : State} {locs : List Loc} {Z : State} {a0 : Array Value} {h0 : Heap} {n0 : Nat} (q1 q3 : Int64) (p4 p5 p6 p7 : Int32) (b : Addr) (f9 t10 t12 t13 t14 t15 t16 : Int32) (l_ : List Int32) (kb : ClassId)
    (X0 : Stand p l e room_1 s m args below meth c T0 locs 1 5) (hx : p.tables.exec = Jvm.exec) (hZ : Z.Warmed39 s.vm) (hw : ∀ d ∈ tables_1, d.before a0 Z = true) (hby : c.code = code) (hml : c.maxLocals = 19) (hown : s.vm.findClass "com/example/lastkey/lastkey/exec/TextFormatIsNullPinLaw" = some m.cls) (hret : meth.sig.returnType = some .boolean) (hlk : meth.locks = false) (e0 : T0.heap = h0) (N0 : Fr n0 locs) (Z0 : n0 ≤ h0.size) (V : Arv Z h0 b kb .byte (5 : Int32) (l_.map Value.int) (.int 0)) (i0 : 0 ≤ f9.toInt) (i1 : t10.toInt ≤ (5 : Int32).toInt) (i2 : 0 ≤ t10.toInt) (hbt12 : t12.toInt8.toInt32 = t12) (hbt13 : t13.toInt8.toInt32 = t13) (hbt14 : t14.toInt8.toInt32 = t14) (hbt15 : t15.toInt8.toInt32 = t15) (hbt16 : t16.toInt8.toInt32 = t16) :
    own_Rch p.tables e below (T0.setTop (mkF m 155 #[.val (.long q1), .second, .val (.long q3), .second, .val (.int p4), .val (.int p5), .val (.int p6), .val (.int p7), .val (.ref b), .val (.int f9), .val (.int t10), .val (.int (1 : Int32)), .val (.int t12), .val (.int t13), .val (.int t14), .val (.int t15), .val (.int t16), .unset, .unset] [])) (own_End s (Q0 n0) room_1.cells room_1.slots) := by
  show own_Rch p.tables e below (T0.setTop (mkF m 155 #[.val (.long q1), .second, .val (.long q3), .second, .val (.int p4), .val (.int p5), .val (.int p6), .val (.int p7), .val (.ref b), .val (.int f9), .val (.int t10), .val (.int (1 : Int32)), .val (.int t12), .val (.int t13), .val (.int t14), .val (.int t15), .val (.int t16), .unset, .unset] [])) _
  refine own_via (fun t k => XS.iload X0.here hx rfl (hb hby at_155) rfl k) ?_
  show own_Rch p.tables e below (T0.setTop (mkF m 157 #[.val (.long q1), .second, .val (.long q3), .second, .val (.int p4), .val (.int p5), .val (.int p6), .val (.int p7), .val (.ref b), .val (.int f9), .val (.int t10), .val (.int (1 : Int32)), .val (.int t12), .val (.int t13), .val (.int t14), .val (.int t15), .val (.int t16), .unset, .unset] [(.int (1 : Int32))])) _
  obtain ⟨T1, h1, k1, X1, e1, E1, A1, st1⟩ := newP X0 hx hZ (hw _ (List.mem_of_getElem? (i := 0) rfl)) e0 (g := (mkF m 157 #[.val (.long q1), .second, .val (.long q3), .second, .val (.int p4), .val (.int p5), .val (.int p6), .val (.int p7), .val (.ref b), .val (.int f9), .val (.int t10), .val (.int (1 : Int32)), .val (.int t12), .val (.int t13), .val (.int t14), .val (.int t15), .val (.int t16), .unset, .unset] [(.int (1 : Int32))])) rfl (hb hby at_157) rfl (by decide) (cap := 1) (by decide) (by decide) (by decide) (by decide)
  obtain ⟨b1, g1⟩ : ∃ z, z = h0.size := ⟨_, rfl⟩
  rw [← g1] at A1 st1
  have g_b1 : n0 ≤ b1 := Nat.le_trans Z0 (Nat.le_of_eq g1.symm)
  have V1 : Arv Z h1 b1 k1 .byte (1 : Int32) [(.int (0 : Int32))] (.int (0 : Int32)) := (Arv.new A1 (by decide)).pad (pad_rep [] (.int (0 : Int32)) 1)
  refine own_via st1 ?_
  show own_Rch p.tables e below (T1.setTop (mkF m 159 #[.val (.long q1), .second, .val (.long q3), .second, .val (.int p4), .val (.int p5), .val (.int p6), .val (.int p7), .val (.ref b), .val (.int f9), .val (.int t10), .val (.int (1 : Int32)), .val (.int t12), .val (.int t13), .val (.int t14), .val (.int t15), .val (.int t16), .unset, .unset] [(.ref b1)])) _
  refine own_via (fun t k => XS.astore X1.here hx rfl (hb hby at_159) rfl rfl (l' := #[.val (.long q1), .second, .val (.long q3), .second, .val (.int p4), .val (.int p5), .val (.int p6), .val (.int p7), .val (.ref b), .val (.int f9), .val (.int t10), .val (.int (1 : Int32)), .val (.int t12), .val (.int t13), .val (.int t14), .val (.int t15), .val (.int t16), .val (.ref b1), .unset]) rfl k) ?_
  show own_Rch p.tables e below (T1.setTop (mkF m 161 #[.val (.long q1), .second, .val (.long q3), .second, .val (.int p4), .val (.int p5), .val (.int p6), .val (.int p7), .val (.ref b), .val (.int f9), .val (.int t10), .val (.int (1 : Int32)), .val (.int t12), .val (.int t13), .val (.int t14), .val (.int t15), .val (.int t16), .val (.ref b1), .unset] [])) _
  refine own_via (fun t k => XS.iload X1.here hx rfl (hb hby at_161) rfl k) ?_
  show own_Rch p.tables e below (T1.setTop (mkF m 163 #[.val (.long q1), .second, .val (.long q3), .second, .val (.int p4), .val (.int p5), .val (.int p6), .val (.int p7), .val (.ref b), .val (.int f9), .val (.int t10), .val (.int (1 : Int32)), .val (.int t12), .val (.int t13), .val (.int t14), .val (.int t15), .val (.int t16), .val (.ref b1), .unset] [(.int (1 : Int32))])) _
  refine own_via (fun t k => XS.ifNo X1.here hx rfl (hb hby at_163) rfl ((if0 _ _).trans (tlt (by decide : (0 : Int32) < (1 : Int32))).2.2.2) k) ?_
  show own_Rch p.tables e below (T1.setTop (mkF m 166 #[.val (.long q1), .second, .val (.long q3), .second, .val (.int p4), .val (.int p5), .val (.int p6), .val (.int p7), .val (.ref b), .val (.int f9), .val (.int t10), .val (.int (1 : Int32)), .val (.int t12), .val (.int t13), .val (.int t14), .val (.int t15), .val (.int t16), .val (.ref b1), .unset] [])) _
  refine own_via (fun t k => XS.aload X1.here hx rfl (hb hby at_166) rfl rfl k) ?_
  show own_Rch p.tables e below (T1.setTop (mkF m 168 #[.val (.long q1), .second, .val (.long q3), .second, .val (.int p4), .val (.int p5), .val (.int p6), .val (.int p7), .val (.ref b), .val (.int f9), .val (.int t10), .val (.int (1 : Int32)), .val (.int t12), .val (.int t13), .val (.int t14), .val (.int t15), .val (.int t16), .val (.ref b1), .unset] [(.ref b1)])) _
  refine own_via (fun t k => XS.iconst X1.here hx rfl (hb hby at_168) k) ?_
  show own_Rch p.tables e below (T1.setTop (mkF m 169 #[.val (.long q1), .second, .val (.long q3), .second, .val (.int p4), .val (.int p5), .val (.int p6), .val (.int p7), .val (.ref b), .val (.int f9), .val (.int t10), .val (.int (1 : Int32)), .val (.int t12), .val (.int t13), .val (.int t14), .val (.int t15), .val (.int t16), .val (.ref b1), .unset] [(.int (0 : Int32)), (.ref b1)])) _
  refine own_via (fun t k => XS.iload X1.here hx rfl (hb hby at_169) rfl k) ?_
  show own_Rch p.tables e below (T1.setTop (mkF m 171 #[.val (.long q1), .second, .val (.long q3), .second, .val (.int p4), .val (.int p5), .val (.int p6), .val (.int p7), .val (.ref b), .val (.int f9), .val (.int t10), .val (.int (1 : Int32)), .val (.int t12), .val (.int t13), .val (.int t14), .val (.int t15), .val (.int t16), .val (.ref b1), .unset] [(.int t12), (.int (0 : Int32)), (.ref b1)])) _
  obtain ⟨cl2, Ar2, cq_2, S2, M2, H2, G2⟩ := V1
  have hin2 : ¬ ((0 : Int32) < 0 ∨ cl2.slots.size ≤ ((0 : Int32)).toNatClampNeg) := inb_of S2 ⟨by decide, by decide⟩
  obtain ⟨T2, h2, X2, e2, W2, st2⟩ := stB X1 hx hZ e1 Ar2 (j := (0 : Int32)) hin2 (g := (mkF m 171 #[.val (.long q1), .second, .val (.long q3), .second, .val (.int p4), .val (.int p5), .val (.int p6), .val (.int p7), .val (.ref b), .val (.int f9), .val (.int t10), .val (.int (1 : Int32)), .val (.int t12), .val (.int t13), .val (.int t14), .val (.int t15), .val (.int t16), .val (.ref b1), .unset] [(.int t12), (.int (0 : Int32)), (.ref b1)])) rfl rfl (hb hby at_171)
  have V2 := Arv.set Ar2 cq_2 S2 M2 H2 G2 (fits_nar_byte _) W2 0 rfl (Nat.le_of_ble_eq_true rfl)
  have V2' : Arv Z h2 b1 k1 .byte (1 : Int32) [(.int (t12.toInt8.toInt32))] (.int (0 : Int32)) := V2
  have N2 := Fr.snoc X2 N0 g_b1
  refine own_via st2 ?_
  show own_Rch p.tables e below (T2.setTop (mkF m 172 #[.val (.long q1), .second, .val (.long q3), .second, .val (.int p4), .val (.int p5), .val (.int p6), .val (.int p7), .val (.ref b), .val (.int f9), .val (.int t10), .val (.int (1 : Int32)), .val (.int t12), .val (.int t13), .val (.int t14), .val (.int t15), .val (.int t16), .val (.ref b1), .unset] [])) _
  refine own_via (fun t k => XS.iload X2.here hx rfl (hb hby at_172) rfl k) ?_
  show own_Rch p.tables e below (T2.setTop (mkF m 174 #[.val (.long q1), .second, .val (.long q3), .second, .val (.int p4), .val (.int p5), .val (.int p6), .val (.int p7), .val (.ref b), .val (.int f9), .val (.int t10), .val (.int (1 : Int32)), .val (.int t12), .val (.int t13), .val (.int t14), .val (.int t15), .val (.int t16), .val (.ref b1), .unset] [(.int (1 : Int32))])) _
  refine own_via (fun t k => XS.iconst X2.here hx rfl (hb hby at_174) k) ?_
  show own_Rch p.tables e below (T2.setTop (mkF m 175 #[.val (.long q1), .second, .val (.long q3), .second, .val (.int p4), .val (.int p5), .val (.int p6), .val (.int p7), .val (.ref b), .val (.int f9), .val (.int t10), .val (.int (1 : Int32)), .val (.int t12), .val (.int t13), .val (.int t14), .val (.int t15), .val (.int t16), .val (.ref b1), .unset] [(.int (1 : Int32)), (.int (1 : Int32))])) _
  refine own_via (fun t k => XS.icmpYes X2.here hx rfl (pc0 := 175) (pc' := 184) rfl (hb hby at_175) rfl (flt (by decide : ¬ ((1 : Int32) < (1 : Int32)))).2.2.2 (by decide) (by decide) k) ?_
  show own_Rch p.tables e below (T2.setTop (mkF m 184 #[.val (.long q1), .second, .val (.long q3), .second, .val (.int p4), .val (.int p5), .val (.int p6), .val (.int p7), .val (.ref b), .val (.int f9), .val (.int t10), .val (.int (1 : Int32)), .val (.int t12), .val (.int t13), .val (.int t14), .val (.int t15), .val (.int t16), .val (.ref b1), .unset] [])) _
  refine own_via (fun t k => XS.iload X2.here hx rfl (hb hby at_184) rfl k) ?_
  show own_Rch p.tables e below (T2.setTop (mkF m 186 #[.val (.long q1), .second, .val (.long q3), .second, .val (.int p4), .val (.int p5), .val (.int p6), .val (.int p7), .val (.ref b), .val (.int f9), .val (.int t10), .val (.int (1 : Int32)), .val (.int t12), .val (.int t13), .val (.int t14), .val (.int t15), .val (.int t16), .val (.ref b1), .unset] [(.int (1 : Int32))])) _
  refine own_via (fun t k => XS.iconst X2.here hx rfl (hb hby at_186) k) ?_
  show own_Rch p.tables e below (T2.setTop (mkF m 187 #[.val (.long q1), .second, .val (.long q3), .second, .val (.int p4), .val (.int p5), .val (.int p6), .val (.int p7), .val (.ref b), .val (.int f9), .val (.int t10), .val (.int (1 : Int32)), .val (.int t12), .val (.int t13), .val (.int t14), .val (.int t15), .val (.int t16), .val (.ref b1), .unset] [(.int (2 : Int32)), (.int (1 : Int32))])) _
  refine own_via (fun t k => XS.icmpYes X2.here hx rfl (pc0 := 187) (pc' := 196) rfl (hb hby at_187) rfl (flt (by decide : ¬ ((2 : Int32) < (1 : Int32)))).2.2.2 (by decide) (by decide) k) ?_
  show own_Rch p.tables e below (T2.setTop (mkF m 196 #[.val (.long q1), .second, .val (.long q3), .second, .val (.int p4), .val (.int p5), .val (.int p6), .val (.int p7), .val (.ref b), .val (.int f9), .val (.int t10), .val (.int (1 : Int32)), .val (.int t12), .val (.int t13), .val (.int t14), .val (.int t15), .val (.int t16), .val (.ref b1), .unset] [])) _
  refine own_via (fun t k => XS.iload X2.here hx rfl (hb hby at_196) rfl k) ?_
  show own_Rch p.tables e below (T2.setTop (mkF m 198 #[.val (.long q1), .second, .val (.long q3), .second, .val (.int p4), .val (.int p5), .val (.int p6), .val (.int p7), .val (.ref b), .val (.int f9), .val (.int t10), .val (.int (1 : Int32)), .val (.int t12), .val (.int t13), .val (.int t14), .val (.int t15), .val (.int t16), .val (.ref b1), .unset] [(.int (1 : Int32))])) _
  refine own_via (fun t k => XS.iconst X2.here hx rfl (hb hby at_198) k) ?_
  show own_Rch p.tables e below (T2.setTop (mkF m 199 #[.val (.long q1), .second, .val (.long q3), .second, .val (.int p4), .val (.int p5), .val (.int p6), .val (.int p7), .val (.ref b), .val (.int f9), .val (.int t10), .val (.int (1 : Int32)), .val (.int t12), .val (.int t13), .val (.int t14), .val (.int t15), .val (.int t16), .val (.ref b1), .unset] [(.int (3 : Int32)), (.int (1 : Int32))])) _
  refine own_via (fun t k => XS.icmpYes X2.here hx rfl (pc0 := 199) (pc' := 208) rfl (hb hby at_199) rfl (flt (by decide : ¬ ((3 : Int32) < (1 : Int32)))).2.2.2 (by decide) (by decide) k) ?_
  show own_Rch p.tables e below (T2.setTop (mkF m 208 #[.val (.long q1), .second, .val (.long q3), .second, .val (.int p4), .val (.int p5), .val (.int p6), .val (.int p7), .val (.ref b), .val (.int f9), .val (.int t10), .val (.int (1 : Int32)), .val (.int t12), .val (.int t13), .val (.int t14), .val (.int t15), .val (.int t16), .val (.ref b1), .unset] [])) _
  refine own_via (fun t k => XS.iload X2.here hx rfl (hb hby at_208) rfl k) ?_
  show own_Rch p.tables e below (T2.setTop (mkF m 210 #[.val (.long q1), .second, .val (.long q3), .second, .val (.int p4), .val (.int p5), .val (.int p6), .val (.int p7), .val (.ref b), .val (.int f9), .val (.int t10), .val (.int (1 : Int32)), .val (.int t12), .val (.int t13), .val (.int t14), .val (.int t15), .val (.int t16), .val (.ref b1), .unset] [(.int (1 : Int32))])) _
  refine own_via (fun t k => XS.iconst X2.here hx rfl (hb hby at_210) k) ?_
  show own_Rch p.tables e below (T2.setTop (mkF m 211 #[.val (.long q1), .second, .val (.long q3), .second, .val (.int p4), .val (.int p5), .val (.int p6), .val (.int p7), .val (.ref b), .val (.int f9), .val (.int t10), .val (.int (1 : Int32)), .val (.int t12), .val (.int t13), .val (.int t14), .val (.int t15), .val (.int t16), .val (.ref b1), .unset] [(.int (4 : Int32)), (.int (1 : Int32))])) _
  refine own_via (fun t k => XS.icmpYes X2.here hx rfl (pc0 := 211) (pc' := 220) rfl (hb hby at_211) rfl (flt (by decide : ¬ ((4 : Int32) < (1 : Int32)))).2.2.2 (by decide) (by decide) k) ?_
  show own_Rch p.tables e below (T2.setTop (mkF m 220 #[.val (.long q1), .second, .val (.long q3), .second, .val (.int p4), .val (.int p5), .val (.int p6), .val (.int p7), .val (.ref b), .val (.int f9), .val (.int t10), .val (.int (1 : Int32)), .val (.int t12), .val (.int t13), .val (.int t14), .val (.int t15), .val (.int t16), .val (.ref b1), .unset] [])) _
  refine own_via (fun t k => XS.iload X2.here hx rfl (hb hby at_220) rfl k) ?_
  show own_Rch p.tables e below (T2.setTop (mkF m 222 #[.val (.long q1), .second, .val (.long q3), .second, .val (.int p4), .val (.int p5), .val (.int p6), .val (.int p7), .val (.ref b), .val (.int f9), .val (.int t10), .val (.int (1 : Int32)), .val (.int t12), .val (.int t13), .val (.int t14), .val (.int t15), .val (.int t16), .val (.ref b1), .unset] [(.int t10)])) _
  refine own_via (fun t k => XS.iload X2.here hx rfl (hb hby at_222) rfl k) ?_
  show own_Rch p.tables e below (T2.setTop (mkF m 224 #[.val (.long q1), .second, .val (.long q3), .second, .val (.int p4), .val (.int p5), .val (.int p6), .val (.int p7), .val (.ref b), .val (.int f9), .val (.int t10), .val (.int (1 : Int32)), .val (.int t12), .val (.int t13), .val (.int t14), .val (.int t15), .val (.int t16), .val (.ref b1), .unset] [(.int f9), (.int t10)])) _
  refine own_via (fun t k => XS.isub X2.here hx rfl (hb hby at_224) rfl k) ?_
  show own_Rch p.tables e below (T2.setTop (mkF m 225 #[.val (.long q1), .second, .val (.long q3), .second, .val (.int p4), .val (.int p5), .val (.int p6), .val (.int p7), .val (.ref b), .val (.int f9), .val (.int t10), .val (.int (1 : Int32)), .val (.int t12), .val (.int t13), .val (.int t14), .val (.int t15), .val (.int t16), .val (.ref b1), .unset] [(.int (t10 - f9))])) _
  refine own_via (fun t k => XS.iload X2.here hx rfl (hb hby at_225) rfl k) ?_
  show own_Rch p.tables e below (T2.setTop (mkF m 227 #[.val (.long q1), .second, .val (.long q3), .second, .val (.int p4), .val (.int p5), .val (.int p6), .val (.int p7), .val (.ref b), .val (.int f9), .val (.int t10), .val (.int (1 : Int32)), .val (.int t12), .val (.int t13), .val (.int t14), .val (.int t15), .val (.int t16), .val (.ref b1), .unset] [(.int (1 : Int32)), (.int (t10 - f9))])) _
  by_cases c227 : (t10 - f9) = (1 : Int32)
  · refine own_via (fun t k => XS.icmpNo X2.here hx rfl (hb hby at_227) rfl (teq c227).2 k) ?_
    show own_Rch p.tables e below (T2.setTop (mkF m 230 #[.val (.long q1), .second, .val (.long q3), .second, .val (.int p4), .val (.int p5), .val (.int p6), .val (.int p7), .val (.ref b), .val (.int f9), .val (.int t10), .val (.int (1 : Int32)), .val (.int t12), .val (.int t13), .val (.int t14), .val (.int t15), .val (.int t16), .val (.ref b1), .unset] [])) _
    refine own_via (fun t k => XS.iload X2.here hx rfl (hb hby at_230) rfl k) ?_
    show own_Rch p.tables e below (T2.setTop (mkF m 232 #[.val (.long q1), .second, .val (.long q3), .second, .val (.int p4), .val (.int p5), .val (.int p6), .val (.int p7), .val (.ref b), .val (.int f9), .val (.int t10), .val (.int (1 : Int32)), .val (.int t12), .val (.int t13), .val (.int t14), .val (.int t15), .val (.int t16), .val (.ref b1), .unset] [(.int (1 : Int32))])) _
    refine own_via (fun t k => XS.iconst X2.here hx rfl (hb hby at_232) k) ?_
    show own_Rch p.tables e below (T2.setTop (mkF m 233 #[.val (.long q1), .second, .val (.long q3), .second, .val (.int p4), .val (.int p5), .val (.int p6), .val (.int p7), .val (.ref b), .val (.int f9), .val (.int t10), .val (.int (1 : Int32)), .val (.int t12), .val (.int t13), .val (.int t14), .val (.int t15), .val (.int t16), .val (.ref b1), .unset] [(.int (1 : Int32)), (.int (1 : Int32))])) _
    refine own_via (fun t k => XS.icmpNo X2.here hx rfl (hb hby at_233) rfl (flt (by decide : ¬ ((1 : Int32) < (1 : Int32)))).1 k) ?_
    show own_Rch p.tables e below (T2.setTop (mkF m 236 #[.val (.long q1), .second, .val (.long q3), .second, .val (.int p4), .val (.int p5), .val (.int p6), .val (.int p7), .val (.ref b), .val (.int f9), .val (.int t10), .val (.int (1 : Int32)), .val (.int t12), .val (.int t13), .val (.int t14), .val (.int t15), .val (.int t16), .val (.ref b1), .unset] [])) _
    refine own_via (fun t k => XS.aload X2.here hx rfl (hb hby at_236) rfl rfl k) ?_
    show own_Rch p.tables e below (T2.setTop (mkF m 238 #[.val (.long q1), .second, .val (.long q3), .second, .val (.int p4), .val (.int p5), .val (.int p6), .val (.int p7), .val (.ref b), .val (.int f9), .val (.int t10), .val (.int (1 : Int32)), .val (.int t12), .val (.int t13), .val (.int t14), .val (.int t15), .val (.int t16), .val (.ref b1), .unset] [(.ref b)])) _
    refine own_via (fun t k => XS.iload X2.here hx rfl (hb hby at_238) rfl k) ?_
    show own_Rch p.tables e below (T2.setTop (mkF m 240 #[.val (.long q1), .second, .val (.long q3), .second, .val (.int p4), .val (.int p5), .val (.int p6), .val (.int p7), .val (.ref b), .val (.int f9), .val (.int t10), .val (.int (1 : Int32)), .val (.int t12), .val (.int t13), .val (.int t14), .val (.int t15), .val (.int t16), .val (.ref b1), .unset] [(.int f9), (.ref b)])) _
    obtain ⟨cl3, Ar3, -, S3, M3, H3, -⟩ := id ((V.ext E1).other W2 (Nat.ne_of_lt (Nat.lt_of_lt_of_le V.lt (Nat.le_of_eq g1.symm))))
    have hin3 : ¬ (f9 < 0 ∨ cl3.slots.size ≤ (f9).toNatClampNeg) := inb_of S3 (own_inz f9 t10 (1 : Int32) (5 : Int32) i0 i1 i2 c227 (by decide))
    have hat3 : cl3.slots[(f9).toNatClampNeg]? = some (.int (own_at l_ f9)) := Has.at H3 hin3 (own_getI l_ _)
    refine own_via (X2.baloadBytes hx (j := f9) (v := (.int (own_at l_ f9))) (by rw [e2]; exact Ar3.1) (State.isArrayOf_alike hZ.alike Ar3.2.1) Ar3.2.2 hin3 hat3 (g := (mkF m 240 #[.val (.long q1), .second, .val (.long q3), .second, .val (.int p4), .val (.int p5), .val (.int p6), .val (.int p7), .val (.ref b), .val (.int f9), .val (.int t10), .val (.int (1 : Int32)), .val (.int t12), .val (.int t13), .val (.int t14), .val (.int t15), .val (.int t16), .val (.ref b1), .unset] [(.int f9), (.ref b)])) rfl rfl (hb hby at_240)) ?_
    show own_Rch p.tables e below (T2.setTop (mkF m 241 #[.val (.long q1), .second, .val (.long q3), .second, .val (.int p4), .val (.int p5), .val (.int p6), .val (.int p7), .val (.ref b), .val (.int f9), .val (.int t10), .val (.int (1 : Int32)), .val (.int t12), .val (.int t13), .val (.int t14), .val (.int t15), .val (.int t16), .val (.ref b1), .unset] [(.int (own_at l_ f9))])) _
    refine own_via (fun t k => XS.iload X2.here hx rfl (hb hby at_241) rfl k) ?_
    show own_Rch p.tables e below (T2.setTop (mkF m 243 #[.val (.long q1), .second, .val (.long q3), .second, .val (.int p4), .val (.int p5), .val (.int p6), .val (.int p7), .val (.ref b), .val (.int f9), .val (.int t10), .val (.int (1 : Int32)), .val (.int t12), .val (.int t13), .val (.int t14), .val (.int t15), .val (.int t16), .val (.ref b1), .unset] [(.int t12), (.int (own_at l_ f9))])) _
    by_cases c243 : (own_at l_ f9) = t12
    · refine own_via (fun t k => XS.icmpNo X2.here hx rfl (hb hby at_243) rfl (teq c243).2 k) ?_
      show own_Rch p.tables e below (T2.setTop (mkF m 246 #[.val (.long q1), .second, .val (.long q3), .second, .val (.int p4), .val (.int p5), .val (.int p6), .val (.int p7), .val (.ref b), .val (.int f9), .val (.int t10), .val (.int (1 : Int32)), .val (.int t12), .val (.int t13), .val (.int t14), .val (.int t15), .val (.int t16), .val (.ref b1), .unset] [])) _
      refine own_via (fun t k => XS.iload X2.here hx rfl (hb hby at_246) rfl k) ?_
      show own_Rch p.tables e below (T2.setTop (mkF m 248 #[.val (.long q1), .second, .val (.long q3), .second, .val (.int p4), .val (.int p5), .val (.int p6), .val (.int p7), .val (.ref b), .val (.int f9), .val (.int t10), .val (.int (1 : Int32)), .val (.int t12), .val (.int t13), .val (.int t14), .val (.int t15), .val (.int t16), .val (.ref b1), .unset] [(.int (1 : Int32))])) _
      refine own_via (fun t k => XS.iconst X2.here hx rfl (hb hby at_248) k) ?_
      show own_Rch p.tables e below (T2.setTop (mkF m 249 #[.val (.long q1), .second, .val (.long q3), .second, .val (.int p4), .val (.int p5), .val (.int p6), .val (.int p7), .val (.ref b), .val (.int f9), .val (.int t10), .val (.int (1 : Int32)), .val (.int t12), .val (.int t13), .val (.int t14), .val (.int t15), .val (.int t16), .val (.ref b1), .unset] [(.int (2 : Int32)), (.int (1 : Int32))])) _
      refine own_via (fun t k => XS.icmpYes X2.here hx rfl (pc0 := 249) (pc' := 264) rfl (hb hby at_249) rfl (tlt (by decide : (1 : Int32) < (2 : Int32))).1 (by decide) (by decide) k) ?_
      show own_Rch p.tables e below (T2.setTop (mkF m 264 #[.val (.long q1), .second, .val (.long q3), .second, .val (.int p4), .val (.int p5), .val (.int p6), .val (.int p7), .val (.ref b), .val (.int f9), .val (.int t10), .val (.int (1 : Int32)), .val (.int t12), .val (.int t13), .val (.int t14), .val (.int t15), .val (.int t16), .val (.ref b1), .unset] [])) _
      refine own_via (fun t k => XS.iload X2.here hx rfl (hb hby at_264) rfl k) ?_
      show own_Rch p.tables e below (T2.setTop (mkF m 266 #[.val (.long q1), .second, .val (.long q3), .second, .val (.int p4), .val (.int p5), .val (.int p6), .val (.int p7), .val (.ref b), .val (.int f9), .val (.int t10), .val (.int (1 : Int32)), .val (.int t12), .val (.int t13), .val (.int t14), .val (.int t15), .val (.int t16), .val (.ref b1), .unset] [(.int (1 : Int32))])) _
      refine own_via (fun t k => XS.iconst X2.here hx rfl (hb hby at_266) k) ?_
      show own_Rch p.tables e below (T2.setTop (mkF m 267 #[.val (.long q1), .second, .val (.long q3), .second, .val (.int p4), .val (.int p5), .val (.int p6), .val (.int p7), .val (.ref b), .val (.int f9), .val (.int t10), .val (.int (1 : Int32)), .val (.int t12), .val (.int t13), .val (.int t14), .val (.int t15), .val (.int t16), .val (.ref b1), .unset] [(.int (3 : Int32)), (.int (1 : Int32))])) _
      refine own_via (fun t k => XS.icmpYes X2.here hx rfl (pc0 := 267) (pc' := 282) rfl (hb hby at_267) rfl (tlt (by decide : (1 : Int32) < (3 : Int32))).1 (by decide) (by decide) k) ?_
      show own_Rch p.tables e below (T2.setTop (mkF m 282 #[.val (.long q1), .second, .val (.long q3), .second, .val (.int p4), .val (.int p5), .val (.int p6), .val (.int p7), .val (.ref b), .val (.int f9), .val (.int t10), .val (.int (1 : Int32)), .val (.int t12), .val (.int t13), .val (.int t14), .val (.int t15), .val (.int t16), .val (.ref b1), .unset] [])) _
      refine own_via (fun t k => XS.iload X2.here hx rfl (hb hby at_282) rfl k) ?_
      show own_Rch p.tables e below (T2.setTop (mkF m 284 #[.val (.long q1), .second, .val (.long q3), .second, .val (.int p4), .val (.int p5), .val (.int p6), .val (.int p7), .val (.ref b), .val (.int f9), .val (.int t10), .val (.int (1 : Int32)), .val (.int t12), .val (.int t13), .val (.int t14), .val (.int t15), .val (.int t16), .val (.ref b1), .unset] [(.int (1 : Int32))])) _
      refine own_via (fun t k => XS.iconst X2.here hx rfl (hb hby at_284) k) ?_
      show own_Rch p.tables e below (T2.setTop (mkF m 285 #[.val (.long q1), .second, .val (.long q3), .second, .val (.int p4), .val (.int p5), .val (.int p6), .val (.int p7), .val (.ref b), .val (.int f9), .val (.int t10), .val (.int (1 : Int32)), .val (.int t12), .val (.int t13), .val (.int t14), .val (.int t15), .val (.int t16), .val (.ref b1), .unset] [(.int (4 : Int32)), (.int (1 : Int32))])) _
      refine own_via (fun t k => XS.icmpYes X2.here hx rfl (pc0 := 285) (pc' := 300) rfl (hb hby at_285) rfl (tlt (by decide : (1 : Int32) < (4 : Int32))).1 (by decide) (by decide) k) ?_
      show own_Rch p.tables e below (T2.setTop (mkF m 300 #[.val (.long q1), .second, .val (.long q3), .second, .val (.int p4), .val (.int p5), .val (.int p6), .val (.int p7), .val (.ref b), .val (.int f9), .val (.int t10), .val (.int (1 : Int32)), .val (.int t12), .val (.int t13), .val (.int t14), .val (.int t15), .val (.int t16), .val (.ref b1), .unset] [])) _
      refine own_via (fun t k => XS.iload X2.here hx rfl (hb hby at_300) rfl k) ?_
      show own_Rch p.tables e below (T2.setTop (mkF m 302 #[.val (.long q1), .second, .val (.long q3), .second, .val (.int p4), .val (.int p5), .val (.int p6), .val (.int p7), .val (.ref b), .val (.int f9), .val (.int t10), .val (.int (1 : Int32)), .val (.int t12), .val (.int t13), .val (.int t14), .val (.int t15), .val (.int t16), .val (.ref b1), .unset] [(.int (1 : Int32))])) _
      refine own_via (fun t k => XS.iconst X2.here hx rfl (hb hby at_302) k) ?_
      show own_Rch p.tables e below (T2.setTop (mkF m 303 #[.val (.long q1), .second, .val (.long q3), .second, .val (.int p4), .val (.int p5), .val (.int p6), .val (.int p7), .val (.ref b), .val (.int f9), .val (.int t10), .val (.int (1 : Int32)), .val (.int t12), .val (.int t13), .val (.int t14), .val (.int t15), .val (.int t16), .val (.ref b1), .unset] [(.int (5 : Int32)), (.int (1 : Int32))])) _
      refine own_via (fun t k => XS.icmpYes X2.here hx rfl (pc0 := 303) (pc' := 318) rfl (hb hby at_303) rfl (tlt (by decide : (1 : Int32) < (5 : Int32))).1 (by decide) (by decide) k) ?_
      show own_Rch p.tables e below (T2.setTop (mkF m 318 #[.val (.long q1), .second, .val (.long q3), .second, .val (.int p4), .val (.int p5), .val (.int p6), .val (.int p7), .val (.ref b), .val (.int f9), .val (.int t10), .val (.int (1 : Int32)), .val (.int t12), .val (.int t13), .val (.int t14), .val (.int t15), .val (.int t16), .val (.ref b1), .unset] [])) _
      refine own_via (fun t k => XS.iconst X2.here hx rfl (hb hby at_318) k) ?_
      show own_Rch p.tables e below (T2.setTop (mkF m 319 #[.val (.long q1), .second, .val (.long q3), .second, .val (.int p4), .val (.int p5), .val (.int p6), .val (.int p7), .val (.ref b), .val (.int f9), .val (.int t10), .val (.int (1 : Int32)), .val (.int t12), .val (.int t13), .val (.int t14), .val (.int t15), .val (.int t16), .val (.ref b1), .unset] [(.int (1 : Int32))])) _
      refine own_via (fun t k => XS.goto X2.here hx rfl (pc0 := 319) (pc' := 323) rfl (hb hby at_319) (by decide) (by decide) k) ?_
      show own_Rch p.tables e below (T2.setTop (mkF m 323 #[.val (.long q1), .second, .val (.long q3), .second, .val (.int p4), .val (.int p5), .val (.int p6), .val (.int p7), .val (.ref b), .val (.int f9), .val (.int t10), .val (.int (1 : Int32)), .val (.int t12), .val (.int t13), .val (.int t14), .val (.int t15), .val (.int t16), .val (.ref b1), .unset] [(.int (1 : Int32))])) _
      refine own_via (fun t k => XS.istore X2.here hx rfl (hb hby at_323) rfl (l' := #[.val (.long q1), .second, .val (.long q3), .second, .val (.int p4), .val (.int p5), .val (.int p6), .val (.int p7), .val (.ref b), .val (.int f9), .val (.int t10), .val (.int (1 : Int32)), .val (.int t12), .val (.int t13), .val (.int t14), .val (.int t15), .val (.int t16), .val (.ref b1), .val (.int (1 : Int32))]) rfl k) ?_
      show own_Rch p.tables e below (T2.setTop (mkF m 325 #[.val (.long q1), .second, .val (.long q3), .second, .val (.int p4), .val (.int p5), .val (.int p6), .val (.int p7), .val (.ref b), .val (.int f9), .val (.int t10), .val (.int (1 : Int32)), .val (.int t12), .val (.int t13), .val (.int t14), .val (.int t15), .val (.int t16), .val (.ref b1), .val (.int (1 : Int32))] [])) _
      refine own_via (fun t k => XS.aload X2.here hx rfl (hb hby at_325) rfl rfl k) ?_
      show own_Rch p.tables e below (T2.setTop (mkF m 327 #[.val (.long q1), .second, .val (.long q3), .second, .val (.int p4), .val (.int p5), .val (.int p6), .val (.int p7), .val (.ref b), .val (.int f9), .val (.int t10), .val (.int (1 : Int32)), .val (.int t12), .val (.int t13), .val (.int t14), .val (.int t15), .val (.int t16), .val (.ref b1), .val (.int (1 : Int32))] [(.ref b)])) _
      refine own_via (fun t k => XS.iload X2.here hx rfl (hb hby at_327) rfl k) ?_
      show own_Rch p.tables e below (T2.setTop (mkF m 329 #[.val (.long q1), .second, .val (.long q3), .second, .val (.int p4), .val (.int p5), .val (.int p6), .val (.int p7), .val (.ref b), .val (.int f9), .val (.int t10), .val (.int (1 : Int32)), .val (.int t12), .val (.int t13), .val (.int t14), .val (.int t15), .val (.int t16), .val (.ref b1), .val (.int (1 : Int32))] [(.int f9), (.ref b)])) _
      refine own_via (fun t k => XS.iload X2.here hx rfl (hb hby at_329) rfl k) ?_
      show own_Rch p.tables e below (T2.setTop (mkF m 331 #[.val (.long q1), .second, .val (.long q3), .second, .val (.int p4), .val (.int p5), .val (.int p6), .val (.int p7), .val (.ref b), .val (.int f9), .val (.int t10), .val (.int (1 : Int32)), .val (.int t12), .val (.int t13), .val (.int t14), .val (.int t15), .val (.int t16), .val (.ref b1), .val (.int (1 : Int32))] [(.int t10), (.int f9), (.ref b)])) _
      refine own_via (fun t k => XS.aload X2.here hx rfl (hb hby at_331) rfl rfl k) ?_
      show own_Rch p.tables e below (T2.setTop (mkF m 333 #[.val (.long q1), .second, .val (.long q3), .second, .val (.int p4), .val (.int p5), .val (.int p6), .val (.int p7), .val (.ref b), .val (.int f9), .val (.int t10), .val (.int (1 : Int32)), .val (.int t12), .val (.int t13), .val (.int t14), .val (.int t15), .val (.int t16), .val (.ref b1), .val (.int (1 : Int32))] [(.ref b1), (.int t10), (.int f9), (.ref b)])) _
      have Vt4 := V2'
      rw [hbt12] at Vt4
      obtain ⟨_, _, ⟨T4, L4, k4, n4⟩, -, X4, ⟨Lc4, hQ4, l4, y4, z4⟩, st4⟩ := Jvm.LawKit.callS X2 hx (y := (⟨"com/example/lastkey/lastkey/exec/TextFormat", "isNull", "([BII[B)Z"⟩ : MethodName)) hown (mvT hZ (hw _ (List.mem_of_getElem? (i := 6) rfl))) (mvT hZ (hw _ (List.mem_of_getElem? (i := 7) rfl))) (mvT hZ (hw _ (List.mem_of_getElem? (i := 8) rfl))) (mvT hZ (hw _ (List.mem_of_getElem? (i := 9) rfl))) (by decide) (backOf (W := 0) (rm2_1 l Z a0 hw [] b f9 t10 b1 l_ [t12] kb k1 h2 n0 ((V.ext E1).other W2 (Nat.ne_of_lt (Nat.lt_of_lt_of_le V.lt (Nat.le_of_eq g1.symm)))) Vt4 i0 i1 i2) hZ (hw _ (List.mem_of_getElem? (i := 9) rfl)) (hw _ (List.mem_of_getElem? (i := 8) rfl)) (by decide) (by decide)) (g := (mkF m 333 #[.val (.long q1), .second, .val (.long q3), .second, .val (.int p4), .val (.int p5), .val (.int p6), .val (.int p7), .val (.ref b), .val (.int f9), .val (.int t10), .val (.int (1 : Int32)), .val (.int t12), .val (.int t13), .val (.int t14), .val (.int t15), .val (.int t16), .val (.ref b1), .val (.int (1 : Int32))] [(.ref b1), (.int t10), (.int f9), (.ref b)])) rfl (by rw [hml]; rfl) (argsL := [(.ref b), (.int f9), (.int t10), (.ref b1)]) (rest := []) (lenOf pd_0 rfl) rfl (by show 2 * 0 + _ ≤ _; exact Nat.le_of_eq rfl) (hb hby at_333) (fun _ _ => ⟨rfl, e2, (by decide : 2 + 0 ≤ _), (by decide : 6 + 0 ≤ _)⟩)
      dsimp only [Pt.U, Pt.locs, Pt.cells, Pt.slots] at X4 l4 y4 z4 st4 hQ4
      subst l4 y4 z4
      obtain ⟨rfl, N4q, eh4⟩ := hQ4
      have N4 := Fr.app N2 N4q
      refine own_via st4 ?_
      show own_Rch p.tables e below (T4.setTop (mkF m 336 #[.val (.long q1), .second, .val (.long q3), .second, .val (.int p4), .val (.int p5), .val (.int p6), .val (.int p7), .val (.ref b), .val (.int f9), .val (.int t10), .val (.int (1 : Int32)), .val (.int t12), .val (.int t13), .val (.int t14), .val (.int t15), .val (.int t16), .val (.ref b1), .val (.int (1 : Int32))] [(.int (own_n4_1 l_ [t12] f9 t10))])) _
      refine own_via (fun t k => XS.iload X4.here hx rfl (hb hby at_336) rfl k) ?_
      show own_Rch p.tables e below (T4.setTop (mkF m 338 #[.val (.long q1), .second, .val (.long q3), .second, .val (.int p4), .val (.int p5), .val (.int p6), .val (.int p7), .val (.ref b), .val (.int f9), .val (.int t10), .val (.int (1 : Int32)), .val (.int t12), .val (.int t13), .val (.int t14), .val (.int t15), .val (.int t16), .val (.ref b1), .val (.int (1 : Int32))] [(.int (1 : Int32)), (.int (own_n4_1 l_ [t12] f9 t10))])) _
      have a0_ : own_at [t12] (0 : Int32) = t12 := rfl
      have hq : (own_n4_1 l_ [t12] f9 t10) = (1 : Int32) := by simp only [own_n4_1, Int32.add_zero, a0_, if_pos c227, if_pos c243]
      refine own_via (fun t k => XS.icmpNo X4.here hx rfl (hb hby at_338) rfl (teq hq).2 k) ?_
      show own_Rch p.tables e below (T4.setTop (mkF m 341 #[.val (.long q1), .second, .val (.long q3), .second, .val (.int p4), .val (.int p5), .val (.int p6), .val (.int p7), .val (.ref b), .val (.int f9), .val (.int t10), .val (.int (1 : Int32)), .val (.int t12), .val (.int t13), .val (.int t14), .val (.int t15), .val (.int t16), .val (.ref b1), .val (.int (1 : Int32))] [])) _
      refine own_via (fun t k => XS.iconst X4.here hx rfl (hb hby at_341) k) ?_
      show own_Rch p.tables e below (T4.setTop (mkF m 342 #[.val (.long q1), .second, .val (.long q3), .second, .val (.int p4), .val (.int p5), .val (.int p6), .val (.int p7), .val (.ref b), .val (.int f9), .val (.int t10), .val (.int (1 : Int32)), .val (.int t12), .val (.int t13), .val (.int t14), .val (.int t15), .val (.int t16), .val (.ref b1), .val (.int (1 : Int32))] [(.int (1 : Int32))])) _
      refine own_via (fun t k => XS.goto X4.here hx rfl (pc0 := 342) (pc' := 346) rfl (hb hby at_342) (by decide) (by decide) k) ?_
      show own_Rch p.tables e below (T4.setTop (mkF m 346 #[.val (.long q1), .second, .val (.long q3), .second, .val (.int p4), .val (.int p5), .val (.int p6), .val (.int p7), .val (.ref b), .val (.int f9), .val (.int t10), .val (.int (1 : Int32)), .val (.int t12), .val (.int t13), .val (.int t14), .val (.int t15), .val (.int t16), .val (.ref b1), .val (.int (1 : Int32))] [(.int (1 : Int32))])) _
      exact own_fin X4 hx (t := .boolean) (i := .ireturn) hret hlk rfl (Or.inl ⟨rfl, by simp, _, rfl⟩) (hb hby at_346) (by decide) (by decide) ⟨rfl, N4⟩
    · refine own_via (fun t k => XS.icmpYes X2.here hx rfl (pc0 := 243) (pc' := 322) rfl (hb hby at_243) rfl (feq c243).2 (by decide) (by decide) k) ?_
      show own_Rch p.tables e below (T2.setTop (mkF m 322 #[.val (.long q1), .second, .val (.long q3), .second, .val (.int p4), .val (.int p5), .val (.int p6), .val (.int p7), .val (.ref b), .val (.int f9), .val (.int t10), .val (.int (1 : Int32)), .val (.int t12), .val (.int t13), .val (.int t14), .val (.int t15), .val (.int t16), .val (.ref b1), .unset] [])) _
      refine own_via (fun t k => XS.iconst X2.here hx rfl (hb hby at_322) k) ?_
      show own_Rch p.tables e below (T2.setTop (mkF m 323 #[.val (.long q1), .second, .val (.long q3), .second, .val (.int p4), .val (.int p5), .val (.int p6), .val (.int p7), .val (.ref b), .val (.int f9), .val (.int t10), .val (.int (1 : Int32)), .val (.int t12), .val (.int t13), .val (.int t14), .val (.int t15), .val (.int t16), .val (.ref b1), .unset] [(.int (0 : Int32))])) _
      refine own_via (fun t k => XS.istore X2.here hx rfl (hb hby at_323) rfl (l' := #[.val (.long q1), .second, .val (.long q3), .second, .val (.int p4), .val (.int p5), .val (.int p6), .val (.int p7), .val (.ref b), .val (.int f9), .val (.int t10), .val (.int (1 : Int32)), .val (.int t12), .val (.int t13), .val (.int t14), .val (.int t15), .val (.int t16), .val (.ref b1), .val (.int (0 : Int32))]) rfl k) ?_
      show own_Rch p.tables e below (T2.setTop (mkF m 325 #[.val (.long q1), .second, .val (.long q3), .second, .val (.int p4), .val (.int p5), .val (.int p6), .val (.int p7), .val (.ref b), .val (.int f9), .val (.int t10), .val (.int (1 : Int32)), .val (.int t12), .val (.int t13), .val (.int t14), .val (.int t15), .val (.int t16), .val (.ref b1), .val (.int (0 : Int32))] [])) _
      refine own_via (fun t k => XS.aload X2.here hx rfl (hb hby at_325) rfl rfl k) ?_
      show own_Rch p.tables e below (T2.setTop (mkF m 327 #[.val (.long q1), .second, .val (.long q3), .second, .val (.int p4), .val (.int p5), .val (.int p6), .val (.int p7), .val (.ref b), .val (.int f9), .val (.int t10), .val (.int (1 : Int32)), .val (.int t12), .val (.int t13), .val (.int t14), .val (.int t15), .val (.int t16), .val (.ref b1), .val (.int (0 : Int32))] [(.ref b)])) _
      refine own_via (fun t k => XS.iload X2.here hx rfl (hb hby at_327) rfl k) ?_
      show own_Rch p.tables e below (T2.setTop (mkF m 329 #[.val (.long q1), .second, .val (.long q3), .second, .val (.int p4), .val (.int p5), .val (.int p6), .val (.int p7), .val (.ref b), .val (.int f9), .val (.int t10), .val (.int (1 : Int32)), .val (.int t12), .val (.int t13), .val (.int t14), .val (.int t15), .val (.int t16), .val (.ref b1), .val (.int (0 : Int32))] [(.int f9), (.ref b)])) _
      refine own_via (fun t k => XS.iload X2.here hx rfl (hb hby at_329) rfl k) ?_
      show own_Rch p.tables e below (T2.setTop (mkF m 331 #[.val (.long q1), .second, .val (.long q3), .second, .val (.int p4), .val (.int p5), .val (.int p6), .val (.int p7), .val (.ref b), .val (.int f9), .val (.int t10), .val (.int (1 : Int32)), .val (.int t12), .val (.int t13), .val (.int t14), .val (.int t15), .val (.int t16), .val (.ref b1), .val (.int (0 : Int32))] [(.int t10), (.int f9), (.ref b)])) _
      refine own_via (fun t k => XS.aload X2.here hx rfl (hb hby at_331) rfl rfl k) ?_
      show own_Rch p.tables e below (T2.setTop (mkF m 333 #[.val (.long q1), .second, .val (.long q3), .second, .val (.int p4), .val (.int p5), .val (.int p6), .val (.int p7), .val (.ref b), .val (.int f9), .val (.int t10), .val (.int (1 : Int32)), .val (.int t12), .val (.int t13), .val (.int t14), .val (.int t15), .val (.int t16), .val (.ref b1), .val (.int (0 : Int32))] [(.ref b1), (.int t10), (.int f9), (.ref b)])) _
      have Vt5 := V2'
      rw [hbt12] at Vt5
      obtain ⟨_, _, ⟨T5, L5, k5, n5⟩, -, X5, ⟨Lc5, hQ5, l5, y5, z5⟩, st5⟩ := Jvm.LawKit.callS X2 hx (y := (⟨"com/example/lastkey/lastkey/exec/TextFormat", "isNull", "([BII[B)Z"⟩ : MethodName)) hown (mvT hZ (hw _ (List.mem_of_getElem? (i := 6) rfl))) (mvT hZ (hw _ (List.mem_of_getElem? (i := 7) rfl))) (mvT hZ (hw _ (List.mem_of_getElem? (i := 8) rfl))) (mvT hZ (hw _ (List.mem_of_getElem? (i := 9) rfl))) (by decide) (backOf (W := 0) (rm2_1 l Z a0 hw [] b f9 t10 b1 l_ [t12] kb k1 h2 n0 ((V.ext E1).other W2 (Nat.ne_of_lt (Nat.lt_of_lt_of_le V.lt (Nat.le_of_eq g1.symm)))) Vt5 i0 i1 i2) hZ (hw _ (List.mem_of_getElem? (i := 9) rfl)) (hw _ (List.mem_of_getElem? (i := 8) rfl)) (by decide) (by decide)) (g := (mkF m 333 #[.val (.long q1), .second, .val (.long q3), .second, .val (.int p4), .val (.int p5), .val (.int p6), .val (.int p7), .val (.ref b), .val (.int f9), .val (.int t10), .val (.int (1 : Int32)), .val (.int t12), .val (.int t13), .val (.int t14), .val (.int t15), .val (.int t16), .val (.ref b1), .val (.int (0 : Int32))] [(.ref b1), (.int t10), (.int f9), (.ref b)])) rfl (by rw [hml]; rfl) (argsL := [(.ref b), (.int f9), (.int t10), (.ref b1)]) (rest := []) (lenOf pd_0 rfl) rfl (by show 2 * 0 + _ ≤ _; exact Nat.le_of_eq rfl) (hb hby at_333) (fun _ _ => ⟨rfl, e2, (by decide : 2 + 0 ≤ _), (by decide : 6 + 0 ≤ _)⟩)
      dsimp only [Pt.U, Pt.locs, Pt.cells, Pt.slots] at X5 l5 y5 z5 st5 hQ5
      subst l5 y5 z5
      obtain ⟨rfl, N5q, eh5⟩ := hQ5
      have N5 := Fr.app N2 N5q
      refine own_via st5 ?_
      show own_Rch p.tables e below (T5.setTop (mkF m 336 #[.val (.long q1), .second, .val (.long q3), .second, .val (.int p4), .val (.int p5), .val (.int p6), .val (.int p7), .val (.ref b), .val (.int f9), .val (.int t10), .val (.int (1 : Int32)), .val (.int t12), .val (.int t13), .val (.int t14), .val (.int t15), .val (.int t16), .val (.ref b1), .val (.int (0 : Int32))] [(.int (own_n4_1 l_ [t12] f9 t10))])) _
      refine own_via (fun t k => XS.iload X5.here hx rfl (hb hby at_336) rfl k) ?_
      show own_Rch p.tables e below (T5.setTop (mkF m 338 #[.val (.long q1), .second, .val (.long q3), .second, .val (.int p4), .val (.int p5), .val (.int p6), .val (.int p7), .val (.ref b), .val (.int f9), .val (.int t10), .val (.int (1 : Int32)), .val (.int t12), .val (.int t13), .val (.int t14), .val (.int t15), .val (.int t16), .val (.ref b1), .val (.int (0 : Int32))] [(.int (0 : Int32)), (.int (own_n4_1 l_ [t12] f9 t10))])) _
      have a0_ : own_at [t12] (0 : Int32) = t12 := rfl
      have hq : (own_n4_1 l_ [t12] f9 t10) = (0 : Int32) := by simp only [own_n4_1, Int32.add_zero, a0_, if_pos c227, if_neg c243]
      refine own_via (fun t k => XS.icmpNo X5.here hx rfl (hb hby at_338) rfl (teq hq).2 k) ?_
      show own_Rch p.tables e below (T5.setTop (mkF m 341 #[.val (.long q1), .second, .val (.long q3), .second, .val (.int p4), .val (.int p5), .val (.int p6), .val (.int p7), .val (.ref b), .val (.int f9), .val (.int t10), .val (.int (1 : Int32)), .val (.int t12), .val (.int t13), .val (.int t14), .val (.int t15), .val (.int t16), .val (.ref b1), .val (.int (0 : Int32))] [])) _
      refine own_via (fun t k => XS.iconst X5.here hx rfl (hb hby at_341) k) ?_
      show own_Rch p.tables e below (T5.setTop (mkF m 342 #[.val (.long q1), .second, .val (.long q3), .second, .val (.int p4), .val (.int p5), .val (.int p6), .val (.int p7), .val (.ref b), .val (.int f9), .val (.int t10), .val (.int (1 : Int32)), .val (.int t12), .val (.int t13), .val (.int t14), .val (.int t15), .val (.int t16), .val (.ref b1), .val (.int (0 : Int32))] [(.int (1 : Int32))])) _
      refine own_via (fun t k => XS.goto X5.here hx rfl (pc0 := 342) (pc' := 346) rfl (hb hby at_342) (by decide) (by decide) k) ?_
      show own_Rch p.tables e below (T5.setTop (mkF m 346 #[.val (.long q1), .second, .val (.long q3), .second, .val (.int p4), .val (.int p5), .val (.int p6), .val (.int p7), .val (.ref b), .val (.int f9), .val (.int t10), .val (.int (1 : Int32)), .val (.int t12), .val (.int t13), .val (.int t14), .val (.int t15), .val (.int t16), .val (.ref b1), .val (.int (0 : Int32))] [(.int (1 : Int32))])) _
      exact own_fin X5 hx (t := .boolean) (i := .ireturn) hret hlk rfl (Or.inl ⟨rfl, by simp, _, rfl⟩) (hb hby at_346) (by decide) (by decide) ⟨rfl, N5⟩
  · refine own_via (fun t k => XS.icmpYes X2.here hx rfl (pc0 := 227) (pc' := 322) rfl (hb hby at_227) rfl (feq c227).2 (by decide) (by decide) k) ?_
    show own_Rch p.tables e below (T2.setTop (mkF m 322 #[.val (.long q1), .second, .val (.long q3), .second, .val (.int p4), .val (.int p5), .val (.int p6), .val (.int p7), .val (.ref b), .val (.int f9), .val (.int t10), .val (.int (1 : Int32)), .val (.int t12), .val (.int t13), .val (.int t14), .val (.int t15), .val (.int t16), .val (.ref b1), .unset] [])) _
    refine own_via (fun t k => XS.iconst X2.here hx rfl (hb hby at_322) k) ?_
    show own_Rch p.tables e below (T2.setTop (mkF m 323 #[.val (.long q1), .second, .val (.long q3), .second, .val (.int p4), .val (.int p5), .val (.int p6), .val (.int p7), .val (.ref b), .val (.int f9), .val (.int t10), .val (.int (1 : Int32)), .val (.int t12), .val (.int t13), .val (.int t14), .val (.int t15), .val (.int t16), .val (.ref b1), .unset] [(.int (0 : Int32))])) _
    refine own_via (fun t k => XS.istore X2.here hx rfl (hb hby at_323) rfl (l' := #[.val (.long q1), .second, .val (.long q3), .second, .val (.int p4), .val (.int p5), .val (.int p6), .val (.int p7), .val (.ref b), .val (.int f9), .val (.int t10), .val (.int (1 : Int32)), .val (.int t12), .val (.int t13), .val (.int t14), .val (.int t15), .val (.int t16), .val (.ref b1), .val (.int (0 : Int32))]) rfl k) ?_
    show own_Rch p.tables e below (T2.setTop (mkF m 325 #[.val (.long q1), .second, .val (.long q3), .second, .val (.int p4), .val (.int p5), .val (.int p6), .val (.int p7), .val (.ref b), .val (.int f9), .val (.int t10), .val (.int (1 : Int32)), .val (.int t12), .val (.int t13), .val (.int t14), .val (.int t15), .val (.int t16), .val (.ref b1), .val (.int (0 : Int32))] [])) _
    refine own_via (fun t k => XS.aload X2.here hx rfl (hb hby at_325) rfl rfl k) ?_
    show own_Rch p.tables e below (T2.setTop (mkF m 327 #[.val (.long q1), .second, .val (.long q3), .second, .val (.int p4), .val (.int p5), .val (.int p6), .val (.int p7), .val (.ref b), .val (.int f9), .val (.int t10), .val (.int (1 : Int32)), .val (.int t12), .val (.int t13), .val (.int t14), .val (.int t15), .val (.int t16), .val (.ref b1), .val (.int (0 : Int32))] [(.ref b)])) _
    refine own_via (fun t k => XS.iload X2.here hx rfl (hb hby at_327) rfl k) ?_
    show own_Rch p.tables e below (T2.setTop (mkF m 329 #[.val (.long q1), .second, .val (.long q3), .second, .val (.int p4), .val (.int p5), .val (.int p6), .val (.int p7), .val (.ref b), .val (.int f9), .val (.int t10), .val (.int (1 : Int32)), .val (.int t12), .val (.int t13), .val (.int t14), .val (.int t15), .val (.int t16), .val (.ref b1), .val (.int (0 : Int32))] [(.int f9), (.ref b)])) _
    refine own_via (fun t k => XS.iload X2.here hx rfl (hb hby at_329) rfl k) ?_
    show own_Rch p.tables e below (T2.setTop (mkF m 331 #[.val (.long q1), .second, .val (.long q3), .second, .val (.int p4), .val (.int p5), .val (.int p6), .val (.int p7), .val (.ref b), .val (.int f9), .val (.int t10), .val (.int (1 : Int32)), .val (.int t12), .val (.int t13), .val (.int t14), .val (.int t15), .val (.int t16), .val (.ref b1), .val (.int (0 : Int32))] [(.int t10), (.int f9), (.ref b)])) _
    refine own_via (fun t k => XS.aload X2.here hx rfl (hb hby at_331) rfl rfl k) ?_
    show own_Rch p.tables e below (T2.setTop (mkF m 333 #[.val (.long q1), .second, .val (.long q3), .second, .val (.int p4), .val (.int p5), .val (.int p6), .val (.int p7), .val (.ref b), .val (.int f9), .val (.int t10), .val (.int (1 : Int32)), .val (.int t12), .val (.int t13), .val (.int t14), .val (.int t15), .val (.int t16), .val (.ref b1), .val (.int (0 : Int32))] [(.ref b1), (.int t10), (.int f9), (.ref b)])) _
    have Vt6 := V2'
    rw [hbt12] at Vt6
    obtain ⟨_, _, ⟨T6, L6, k6, n6⟩, -, X6, ⟨Lc6, hQ6, l6, y6, z6⟩, st6⟩ := Jvm.LawKit.callS X2 hx (y := (⟨"com/example/lastkey/lastkey/exec/TextFormat", "isNull", "([BII[B)Z"⟩ : MethodName)) hown (mvT hZ (hw _ (List.mem_of_getElem? (i := 6) rfl))) (mvT hZ (hw _ (List.mem_of_getElem? (i := 7) rfl))) (mvT hZ (hw _ (List.mem_of_getElem? (i := 8) rfl))) (mvT hZ (hw _ (List.mem_of_getElem? (i := 9) rfl))) (by decide) (backOf (W := 0) (rm2_1 l Z a0 hw [] b f9 t10 b1 l_ [t12] kb k1 h2 n0 ((V.ext E1).other W2 (Nat.ne_of_lt (Nat.lt_of_lt_of_le V.lt (Nat.le_of_eq g1.symm)))) Vt6 i0 i1 i2) hZ (hw _ (List.mem_of_getElem? (i := 9) rfl)) (hw _ (List.mem_of_getElem? (i := 8) rfl)) (by decide) (by decide)) (g := (mkF m 333 #[.val (.long q1), .second, .val (.long q3), .second, .val (.int p4), .val (.int p5), .val (.int p6), .val (.int p7), .val (.ref b), .val (.int f9), .val (.int t10), .val (.int (1 : Int32)), .val (.int t12), .val (.int t13), .val (.int t14), .val (.int t15), .val (.int t16), .val (.ref b1), .val (.int (0 : Int32))] [(.ref b1), (.int t10), (.int f9), (.ref b)])) rfl (by rw [hml]; rfl) (argsL := [(.ref b), (.int f9), (.int t10), (.ref b1)]) (rest := []) (lenOf pd_0 rfl) rfl (by show 2 * 0 + _ ≤ _; exact Nat.le_of_eq rfl) (hb hby at_333) (fun _ _ => ⟨rfl, e2, (by decide : 2 + 0 ≤ _), (by decide : 6 + 0 ≤ _)⟩)
    dsimp only [Pt.U, Pt.locs, Pt.cells, Pt.slots] at X6 l6 y6 z6 st6 hQ6
    subst l6 y6 z6
    obtain ⟨rfl, N6q, eh6⟩ := hQ6
    have N6 := Fr.app N2 N6q
    refine own_via st6 ?_
    show own_Rch p.tables e below (T6.setTop (mkF m 336 #[.val (.long q1), .second, .val (.long q3), .second, .val (.int p4), .val (.int p5), .val (.int p6), .val (.int p7), .val (.ref b), .val (.int f9), .val (.int t10), .val (.int (1 : Int32)), .val (.int t12), .val (.int t13), .val (.int t14), .val (.int t15), .val (.int t16), .val (.ref b1), .val (.int (0 : Int32))] [(.int (own_n4_1 l_ [t12] f9 t10))])) _
    refine own_via (fun t k => XS.iload X6.here hx rfl (hb hby at_336) rfl k) ?_
    show own_Rch p.tables e below (T6.setTop (mkF m 338 #[.val (.long q1), .second, .val (.long q3), .second, .val (.int p4), .val (.int p5), .val (.int p6), .val (.int p7), .val (.ref b), .val (.int f9), .val (.int t10), .val (.int (1 : Int32)), .val (.int t12), .val (.int t13), .val (.int t14), .val (.int t15), .val (.int t16), .val (.ref b1), .val (.int (0 : Int32))] [(.int (0 : Int32)), (.int (own_n4_1 l_ [t12] f9 t10))])) _
    have a0_ : own_at [t12] (0 : Int32) = t12 := rfl
    have hq : (own_n4_1 l_ [t12] f9 t10) = (0 : Int32) := by simp only [own_n4_1, Int32.add_zero, a0_, if_neg c227]
    refine own_via (fun t k => XS.icmpNo X6.here hx rfl (hb hby at_338) rfl (teq hq).2 k) ?_
    show own_Rch p.tables e below (T6.setTop (mkF m 341 #[.val (.long q1), .second, .val (.long q3), .second, .val (.int p4), .val (.int p5), .val (.int p6), .val (.int p7), .val (.ref b), .val (.int f9), .val (.int t10), .val (.int (1 : Int32)), .val (.int t12), .val (.int t13), .val (.int t14), .val (.int t15), .val (.int t16), .val (.ref b1), .val (.int (0 : Int32))] [])) _
    refine own_via (fun t k => XS.iconst X6.here hx rfl (hb hby at_341) k) ?_
    show own_Rch p.tables e below (T6.setTop (mkF m 342 #[.val (.long q1), .second, .val (.long q3), .second, .val (.int p4), .val (.int p5), .val (.int p6), .val (.int p7), .val (.ref b), .val (.int f9), .val (.int t10), .val (.int (1 : Int32)), .val (.int t12), .val (.int t13), .val (.int t14), .val (.int t15), .val (.int t16), .val (.ref b1), .val (.int (0 : Int32))] [(.int (1 : Int32))])) _
    refine own_via (fun t k => XS.goto X6.here hx rfl (pc0 := 342) (pc' := 346) rfl (hb hby at_342) (by decide) (by decide) k) ?_
    show own_Rch p.tables e below (T6.setTop (mkF m 346 #[.val (.long q1), .second, .val (.long q3), .second, .val (.int p4), .val (.int p5), .val (.int p6), .val (.int p7), .val (.ref b), .val (.int f9), .val (.int t10), .val (.int (1 : Int32)), .val (.int t12), .val (.int t13), .val (.int t14), .val (.int t15), .val (.int t16), .val (.ref b1), .val (.int (0 : Int32))] [(.int (1 : Int32))])) _
    exact own_fin X6 hx (t := .boolean) (i := .ireturn) hret hlk rfl (Or.inl ⟨rfl, by simp, _, rfl⟩) (hb hby at_346) (by decide) (by decide) ⟨rfl, N6⟩
set_option maxRecDepth 65536 in
set_option maxHeartbeats 40000000 in
theorem tl_2 {p : Program} {l : Launch} {e : Env} {s : State} {m : MethodId} {args : Array Value} {below : List Frame} {meth : Method} {c : Code} {T0 : State} {locs : List Loc} {Z : State} {a0 : Array Value} {h0 : Heap} {n0 : Nat} (q1 q3 : Int64) (p4 p5 p6 p7 : Int32) (b : Addr) (f9 t10 t12 t13 t14 t15 t16 : Int32) (l_ : List Int32) (kb : ClassId)
    (X0 : Stand p l e room_1 s m args below meth c T0 locs 1 5) (hx : p.tables.exec = Jvm.exec) (hZ : Z.Warmed39 s.vm) (hw : ∀ d ∈ tables_1, d.before a0 Z = true) (hby : c.code = code) (hml : c.maxLocals = 19) (hown : s.vm.findClass "com/example/lastkey/lastkey/exec/TextFormatIsNullPinLaw" = some m.cls) (hret : meth.sig.returnType = some .boolean) (hlk : meth.locks = false) (e0 : T0.heap = h0) (N0 : Fr n0 locs) (Z0 : n0 ≤ h0.size) (V : Arv Z h0 b kb .byte (5 : Int32) (l_.map Value.int) (.int 0)) (i0 : 0 ≤ f9.toInt) (i1 : t10.toInt ≤ (5 : Int32).toInt) (i2 : 0 ≤ t10.toInt) (hbt12 : t12.toInt8.toInt32 = t12) (hbt13 : t13.toInt8.toInt32 = t13) (hbt14 : t14.toInt8.toInt32 = t14) (hbt15 : t15.toInt8.toInt32 = t15) (hbt16 : t16.toInt8.toInt32 = t16) :
    own_Rch p.tables e below (T0.setTop (mkF m 155 #[.val (.long q1), .second, .val (.long q3), .second, .val (.int p4), .val (.int p5), .val (.int p6), .val (.int p7), .val (.ref b), .val (.int f9), .val (.int t10), .val (.int (2 : Int32)), .val (.int t12), .val (.int t13), .val (.int t14), .val (.int t15), .val (.int t16), .unset, .unset] [])) (own_End s (Q0 n0) room_1.cells room_1.slots) := by
  show own_Rch p.tables e below (T0.setTop (mkF m 155 #[.val (.long q1), .second, .val (.long q3), .second, .val (.int p4), .val (.int p5), .val (.int p6), .val (.int p7), .val (.ref b), .val (.int f9), .val (.int t10), .val (.int (2 : Int32)), .val (.int t12), .val (.int t13), .val (.int t14), .val (.int t15), .val (.int t16), .unset, .unset] [])) _
  refine own_via (fun t k => XS.iload X0.here hx rfl (hb hby at_155) rfl k) ?_
  show own_Rch p.tables e below (T0.setTop (mkF m 157 #[.val (.long q1), .second, .val (.long q3), .second, .val (.int p4), .val (.int p5), .val (.int p6), .val (.int p7), .val (.ref b), .val (.int f9), .val (.int t10), .val (.int (2 : Int32)), .val (.int t12), .val (.int t13), .val (.int t14), .val (.int t15), .val (.int t16), .unset, .unset] [(.int (2 : Int32))])) _
  obtain ⟨T1, h1, k1, X1, e1, E1, A1, st1⟩ := newP X0 hx hZ (hw _ (List.mem_of_getElem? (i := 0) rfl)) e0 (g := (mkF m 157 #[.val (.long q1), .second, .val (.long q3), .second, .val (.int p4), .val (.int p5), .val (.int p6), .val (.int p7), .val (.ref b), .val (.int f9), .val (.int t10), .val (.int (2 : Int32)), .val (.int t12), .val (.int t13), .val (.int t14), .val (.int t15), .val (.int t16), .unset, .unset] [(.int (2 : Int32))])) rfl (hb hby at_157) rfl (by decide) (cap := 2) (by decide) (by decide) (by decide) (by decide)
  obtain ⟨b1, g1⟩ : ∃ z, z = h0.size := ⟨_, rfl⟩
  rw [← g1] at A1 st1
  have g_b1 : n0 ≤ b1 := Nat.le_trans Z0 (Nat.le_of_eq g1.symm)
  have V1 : Arv Z h1 b1 k1 .byte (2 : Int32) [(.int (0 : Int32)), (.int (0 : Int32))] (.int (0 : Int32)) := (Arv.new A1 (by decide)).pad (pad_rep [] (.int (0 : Int32)) 2)
  refine own_via st1 ?_
  show own_Rch p.tables e below (T1.setTop (mkF m 159 #[.val (.long q1), .second, .val (.long q3), .second, .val (.int p4), .val (.int p5), .val (.int p6), .val (.int p7), .val (.ref b), .val (.int f9), .val (.int t10), .val (.int (2 : Int32)), .val (.int t12), .val (.int t13), .val (.int t14), .val (.int t15), .val (.int t16), .unset, .unset] [(.ref b1)])) _
  refine own_via (fun t k => XS.astore X1.here hx rfl (hb hby at_159) rfl rfl (l' := #[.val (.long q1), .second, .val (.long q3), .second, .val (.int p4), .val (.int p5), .val (.int p6), .val (.int p7), .val (.ref b), .val (.int f9), .val (.int t10), .val (.int (2 : Int32)), .val (.int t12), .val (.int t13), .val (.int t14), .val (.int t15), .val (.int t16), .val (.ref b1), .unset]) rfl k) ?_
  show own_Rch p.tables e below (T1.setTop (mkF m 161 #[.val (.long q1), .second, .val (.long q3), .second, .val (.int p4), .val (.int p5), .val (.int p6), .val (.int p7), .val (.ref b), .val (.int f9), .val (.int t10), .val (.int (2 : Int32)), .val (.int t12), .val (.int t13), .val (.int t14), .val (.int t15), .val (.int t16), .val (.ref b1), .unset] [])) _
  refine own_via (fun t k => XS.iload X1.here hx rfl (hb hby at_161) rfl k) ?_
  show own_Rch p.tables e below (T1.setTop (mkF m 163 #[.val (.long q1), .second, .val (.long q3), .second, .val (.int p4), .val (.int p5), .val (.int p6), .val (.int p7), .val (.ref b), .val (.int f9), .val (.int t10), .val (.int (2 : Int32)), .val (.int t12), .val (.int t13), .val (.int t14), .val (.int t15), .val (.int t16), .val (.ref b1), .unset] [(.int (2 : Int32))])) _
  refine own_via (fun t k => XS.ifNo X1.here hx rfl (hb hby at_163) rfl ((if0 _ _).trans (tlt (by decide : (0 : Int32) < (2 : Int32))).2.2.2) k) ?_
  show own_Rch p.tables e below (T1.setTop (mkF m 166 #[.val (.long q1), .second, .val (.long q3), .second, .val (.int p4), .val (.int p5), .val (.int p6), .val (.int p7), .val (.ref b), .val (.int f9), .val (.int t10), .val (.int (2 : Int32)), .val (.int t12), .val (.int t13), .val (.int t14), .val (.int t15), .val (.int t16), .val (.ref b1), .unset] [])) _
  refine own_via (fun t k => XS.aload X1.here hx rfl (hb hby at_166) rfl rfl k) ?_
  show own_Rch p.tables e below (T1.setTop (mkF m 168 #[.val (.long q1), .second, .val (.long q3), .second, .val (.int p4), .val (.int p5), .val (.int p6), .val (.int p7), .val (.ref b), .val (.int f9), .val (.int t10), .val (.int (2 : Int32)), .val (.int t12), .val (.int t13), .val (.int t14), .val (.int t15), .val (.int t16), .val (.ref b1), .unset] [(.ref b1)])) _
  refine own_via (fun t k => XS.iconst X1.here hx rfl (hb hby at_168) k) ?_
  show own_Rch p.tables e below (T1.setTop (mkF m 169 #[.val (.long q1), .second, .val (.long q3), .second, .val (.int p4), .val (.int p5), .val (.int p6), .val (.int p7), .val (.ref b), .val (.int f9), .val (.int t10), .val (.int (2 : Int32)), .val (.int t12), .val (.int t13), .val (.int t14), .val (.int t15), .val (.int t16), .val (.ref b1), .unset] [(.int (0 : Int32)), (.ref b1)])) _
  refine own_via (fun t k => XS.iload X1.here hx rfl (hb hby at_169) rfl k) ?_
  show own_Rch p.tables e below (T1.setTop (mkF m 171 #[.val (.long q1), .second, .val (.long q3), .second, .val (.int p4), .val (.int p5), .val (.int p6), .val (.int p7), .val (.ref b), .val (.int f9), .val (.int t10), .val (.int (2 : Int32)), .val (.int t12), .val (.int t13), .val (.int t14), .val (.int t15), .val (.int t16), .val (.ref b1), .unset] [(.int t12), (.int (0 : Int32)), (.ref b1)])) _
  obtain ⟨cl2, Ar2, cq_2, S2, M2, H2, G2⟩ := V1
  have hin2 : ¬ ((0 : Int32) < 0 ∨ cl2.slots.size ≤ ((0 : Int32)).toNatClampNeg) := inb_of S2 ⟨by decide, by decide⟩
  obtain ⟨T2, h2, X2, e2, W2, st2⟩ := stB X1 hx hZ e1 Ar2 (j := (0 : Int32)) hin2 (g := (mkF m 171 #[.val (.long q1), .second, .val (.long q3), .second, .val (.int p4), .val (.int p5), .val (.int p6), .val (.int p7), .val (.ref b), .val (.int f9), .val (.int t10), .val (.int (2 : Int32)), .val (.int t12), .val (.int t13), .val (.int t14), .val (.int t15), .val (.int t16), .val (.ref b1), .unset] [(.int t12), (.int (0 : Int32)), (.ref b1)])) rfl rfl (hb hby at_171)
  have V2 := Arv.set Ar2 cq_2 S2 M2 H2 G2 (fits_nar_byte _) W2 0 rfl (Nat.le_of_ble_eq_true rfl)
  have V2' : Arv Z h2 b1 k1 .byte (2 : Int32) [(.int (t12.toInt8.toInt32)), (.int (0 : Int32))] (.int (0 : Int32)) := V2
  have N2 := Fr.snoc X2 N0 g_b1
  refine own_via st2 ?_
  show own_Rch p.tables e below (T2.setTop (mkF m 172 #[.val (.long q1), .second, .val (.long q3), .second, .val (.int p4), .val (.int p5), .val (.int p6), .val (.int p7), .val (.ref b), .val (.int f9), .val (.int t10), .val (.int (2 : Int32)), .val (.int t12), .val (.int t13), .val (.int t14), .val (.int t15), .val (.int t16), .val (.ref b1), .unset] [])) _
  refine own_via (fun t k => XS.iload X2.here hx rfl (hb hby at_172) rfl k) ?_
  show own_Rch p.tables e below (T2.setTop (mkF m 174 #[.val (.long q1), .second, .val (.long q3), .second, .val (.int p4), .val (.int p5), .val (.int p6), .val (.int p7), .val (.ref b), .val (.int f9), .val (.int t10), .val (.int (2 : Int32)), .val (.int t12), .val (.int t13), .val (.int t14), .val (.int t15), .val (.int t16), .val (.ref b1), .unset] [(.int (2 : Int32))])) _
  refine own_via (fun t k => XS.iconst X2.here hx rfl (hb hby at_174) k) ?_
  show own_Rch p.tables e below (T2.setTop (mkF m 175 #[.val (.long q1), .second, .val (.long q3), .second, .val (.int p4), .val (.int p5), .val (.int p6), .val (.int p7), .val (.ref b), .val (.int f9), .val (.int t10), .val (.int (2 : Int32)), .val (.int t12), .val (.int t13), .val (.int t14), .val (.int t15), .val (.int t16), .val (.ref b1), .unset] [(.int (1 : Int32)), (.int (2 : Int32))])) _
  refine own_via (fun t k => XS.icmpNo X2.here hx rfl (hb hby at_175) rfl (tlt (by decide : (1 : Int32) < (2 : Int32))).2.2.2 k) ?_
  show own_Rch p.tables e below (T2.setTop (mkF m 178 #[.val (.long q1), .second, .val (.long q3), .second, .val (.int p4), .val (.int p5), .val (.int p6), .val (.int p7), .val (.ref b), .val (.int f9), .val (.int t10), .val (.int (2 : Int32)), .val (.int t12), .val (.int t13), .val (.int t14), .val (.int t15), .val (.int t16), .val (.ref b1), .unset] [])) _
  refine own_via (fun t k => XS.aload X2.here hx rfl (hb hby at_178) rfl rfl k) ?_
  show own_Rch p.tables e below (T2.setTop (mkF m 180 #[.val (.long q1), .second, .val (.long q3), .second, .val (.int p4), .val (.int p5), .val (.int p6), .val (.int p7), .val (.ref b), .val (.int f9), .val (.int t10), .val (.int (2 : Int32)), .val (.int t12), .val (.int t13), .val (.int t14), .val (.int t15), .val (.int t16), .val (.ref b1), .unset] [(.ref b1)])) _
  refine own_via (fun t k => XS.iconst X2.here hx rfl (hb hby at_180) k) ?_
  show own_Rch p.tables e below (T2.setTop (mkF m 181 #[.val (.long q1), .second, .val (.long q3), .second, .val (.int p4), .val (.int p5), .val (.int p6), .val (.int p7), .val (.ref b), .val (.int f9), .val (.int t10), .val (.int (2 : Int32)), .val (.int t12), .val (.int t13), .val (.int t14), .val (.int t15), .val (.int t16), .val (.ref b1), .unset] [(.int (1 : Int32)), (.ref b1)])) _
  refine own_via (fun t k => XS.iload X2.here hx rfl (hb hby at_181) rfl k) ?_
  show own_Rch p.tables e below (T2.setTop (mkF m 183 #[.val (.long q1), .second, .val (.long q3), .second, .val (.int p4), .val (.int p5), .val (.int p6), .val (.int p7), .val (.ref b), .val (.int f9), .val (.int t10), .val (.int (2 : Int32)), .val (.int t12), .val (.int t13), .val (.int t14), .val (.int t15), .val (.int t16), .val (.ref b1), .unset] [(.int t13), (.int (1 : Int32)), (.ref b1)])) _
  obtain ⟨cl3, Ar3, cq_3, S3, M3, H3, G3⟩ := V2'
  have hin3 : ¬ ((1 : Int32) < 0 ∨ cl3.slots.size ≤ ((1 : Int32)).toNatClampNeg) := inb_of S3 ⟨by decide, by decide⟩
  obtain ⟨T3, h3, X3, e3, W3, st3⟩ := stB X2 hx hZ e2 Ar3 (j := (1 : Int32)) hin3 (g := (mkF m 183 #[.val (.long q1), .second, .val (.long q3), .second, .val (.int p4), .val (.int p5), .val (.int p6), .val (.int p7), .val (.ref b), .val (.int f9), .val (.int t10), .val (.int (2 : Int32)), .val (.int t12), .val (.int t13), .val (.int t14), .val (.int t15), .val (.int t16), .val (.ref b1), .unset] [(.int t13), (.int (1 : Int32)), (.ref b1)])) rfl rfl (hb hby at_183)
  have V3 := Arv.set Ar3 cq_3 S3 M3 H3 G3 (fits_nar_byte _) W3 1 rfl (Nat.le_of_ble_eq_true rfl)
  have V3' : Arv Z h3 b1 k1 .byte (2 : Int32) [(.int (t12.toInt8.toInt32)), (.int (t13.toInt8.toInt32))] (.int (0 : Int32)) := V3
  have N3 := Fr.snoc X3 N2 g_b1
  refine own_via st3 ?_
  show own_Rch p.tables e below (T3.setTop (mkF m 184 #[.val (.long q1), .second, .val (.long q3), .second, .val (.int p4), .val (.int p5), .val (.int p6), .val (.int p7), .val (.ref b), .val (.int f9), .val (.int t10), .val (.int (2 : Int32)), .val (.int t12), .val (.int t13), .val (.int t14), .val (.int t15), .val (.int t16), .val (.ref b1), .unset] [])) _
  refine own_via (fun t k => XS.iload X3.here hx rfl (hb hby at_184) rfl k) ?_
  show own_Rch p.tables e below (T3.setTop (mkF m 186 #[.val (.long q1), .second, .val (.long q3), .second, .val (.int p4), .val (.int p5), .val (.int p6), .val (.int p7), .val (.ref b), .val (.int f9), .val (.int t10), .val (.int (2 : Int32)), .val (.int t12), .val (.int t13), .val (.int t14), .val (.int t15), .val (.int t16), .val (.ref b1), .unset] [(.int (2 : Int32))])) _
  refine own_via (fun t k => XS.iconst X3.here hx rfl (hb hby at_186) k) ?_
  show own_Rch p.tables e below (T3.setTop (mkF m 187 #[.val (.long q1), .second, .val (.long q3), .second, .val (.int p4), .val (.int p5), .val (.int p6), .val (.int p7), .val (.ref b), .val (.int f9), .val (.int t10), .val (.int (2 : Int32)), .val (.int t12), .val (.int t13), .val (.int t14), .val (.int t15), .val (.int t16), .val (.ref b1), .unset] [(.int (2 : Int32)), (.int (2 : Int32))])) _
  refine own_via (fun t k => XS.icmpYes X3.here hx rfl (pc0 := 187) (pc' := 196) rfl (hb hby at_187) rfl (flt (by decide : ¬ ((2 : Int32) < (2 : Int32)))).2.2.2 (by decide) (by decide) k) ?_
  show own_Rch p.tables e below (T3.setTop (mkF m 196 #[.val (.long q1), .second, .val (.long q3), .second, .val (.int p4), .val (.int p5), .val (.int p6), .val (.int p7), .val (.ref b), .val (.int f9), .val (.int t10), .val (.int (2 : Int32)), .val (.int t12), .val (.int t13), .val (.int t14), .val (.int t15), .val (.int t16), .val (.ref b1), .unset] [])) _
  refine own_via (fun t k => XS.iload X3.here hx rfl (hb hby at_196) rfl k) ?_
  show own_Rch p.tables e below (T3.setTop (mkF m 198 #[.val (.long q1), .second, .val (.long q3), .second, .val (.int p4), .val (.int p5), .val (.int p6), .val (.int p7), .val (.ref b), .val (.int f9), .val (.int t10), .val (.int (2 : Int32)), .val (.int t12), .val (.int t13), .val (.int t14), .val (.int t15), .val (.int t16), .val (.ref b1), .unset] [(.int (2 : Int32))])) _
  refine own_via (fun t k => XS.iconst X3.here hx rfl (hb hby at_198) k) ?_
  show own_Rch p.tables e below (T3.setTop (mkF m 199 #[.val (.long q1), .second, .val (.long q3), .second, .val (.int p4), .val (.int p5), .val (.int p6), .val (.int p7), .val (.ref b), .val (.int f9), .val (.int t10), .val (.int (2 : Int32)), .val (.int t12), .val (.int t13), .val (.int t14), .val (.int t15), .val (.int t16), .val (.ref b1), .unset] [(.int (3 : Int32)), (.int (2 : Int32))])) _
  refine own_via (fun t k => XS.icmpYes X3.here hx rfl (pc0 := 199) (pc' := 208) rfl (hb hby at_199) rfl (flt (by decide : ¬ ((3 : Int32) < (2 : Int32)))).2.2.2 (by decide) (by decide) k) ?_
  show own_Rch p.tables e below (T3.setTop (mkF m 208 #[.val (.long q1), .second, .val (.long q3), .second, .val (.int p4), .val (.int p5), .val (.int p6), .val (.int p7), .val (.ref b), .val (.int f9), .val (.int t10), .val (.int (2 : Int32)), .val (.int t12), .val (.int t13), .val (.int t14), .val (.int t15), .val (.int t16), .val (.ref b1), .unset] [])) _
  refine own_via (fun t k => XS.iload X3.here hx rfl (hb hby at_208) rfl k) ?_
  show own_Rch p.tables e below (T3.setTop (mkF m 210 #[.val (.long q1), .second, .val (.long q3), .second, .val (.int p4), .val (.int p5), .val (.int p6), .val (.int p7), .val (.ref b), .val (.int f9), .val (.int t10), .val (.int (2 : Int32)), .val (.int t12), .val (.int t13), .val (.int t14), .val (.int t15), .val (.int t16), .val (.ref b1), .unset] [(.int (2 : Int32))])) _
  refine own_via (fun t k => XS.iconst X3.here hx rfl (hb hby at_210) k) ?_
  show own_Rch p.tables e below (T3.setTop (mkF m 211 #[.val (.long q1), .second, .val (.long q3), .second, .val (.int p4), .val (.int p5), .val (.int p6), .val (.int p7), .val (.ref b), .val (.int f9), .val (.int t10), .val (.int (2 : Int32)), .val (.int t12), .val (.int t13), .val (.int t14), .val (.int t15), .val (.int t16), .val (.ref b1), .unset] [(.int (4 : Int32)), (.int (2 : Int32))])) _
  refine own_via (fun t k => XS.icmpYes X3.here hx rfl (pc0 := 211) (pc' := 220) rfl (hb hby at_211) rfl (flt (by decide : ¬ ((4 : Int32) < (2 : Int32)))).2.2.2 (by decide) (by decide) k) ?_
  show own_Rch p.tables e below (T3.setTop (mkF m 220 #[.val (.long q1), .second, .val (.long q3), .second, .val (.int p4), .val (.int p5), .val (.int p6), .val (.int p7), .val (.ref b), .val (.int f9), .val (.int t10), .val (.int (2 : Int32)), .val (.int t12), .val (.int t13), .val (.int t14), .val (.int t15), .val (.int t16), .val (.ref b1), .unset] [])) _
  refine own_via (fun t k => XS.iload X3.here hx rfl (hb hby at_220) rfl k) ?_
  show own_Rch p.tables e below (T3.setTop (mkF m 222 #[.val (.long q1), .second, .val (.long q3), .second, .val (.int p4), .val (.int p5), .val (.int p6), .val (.int p7), .val (.ref b), .val (.int f9), .val (.int t10), .val (.int (2 : Int32)), .val (.int t12), .val (.int t13), .val (.int t14), .val (.int t15), .val (.int t16), .val (.ref b1), .unset] [(.int t10)])) _
  refine own_via (fun t k => XS.iload X3.here hx rfl (hb hby at_222) rfl k) ?_
  show own_Rch p.tables e below (T3.setTop (mkF m 224 #[.val (.long q1), .second, .val (.long q3), .second, .val (.int p4), .val (.int p5), .val (.int p6), .val (.int p7), .val (.ref b), .val (.int f9), .val (.int t10), .val (.int (2 : Int32)), .val (.int t12), .val (.int t13), .val (.int t14), .val (.int t15), .val (.int t16), .val (.ref b1), .unset] [(.int f9), (.int t10)])) _
  refine own_via (fun t k => XS.isub X3.here hx rfl (hb hby at_224) rfl k) ?_
  show own_Rch p.tables e below (T3.setTop (mkF m 225 #[.val (.long q1), .second, .val (.long q3), .second, .val (.int p4), .val (.int p5), .val (.int p6), .val (.int p7), .val (.ref b), .val (.int f9), .val (.int t10), .val (.int (2 : Int32)), .val (.int t12), .val (.int t13), .val (.int t14), .val (.int t15), .val (.int t16), .val (.ref b1), .unset] [(.int (t10 - f9))])) _
  refine own_via (fun t k => XS.iload X3.here hx rfl (hb hby at_225) rfl k) ?_
  show own_Rch p.tables e below (T3.setTop (mkF m 227 #[.val (.long q1), .second, .val (.long q3), .second, .val (.int p4), .val (.int p5), .val (.int p6), .val (.int p7), .val (.ref b), .val (.int f9), .val (.int t10), .val (.int (2 : Int32)), .val (.int t12), .val (.int t13), .val (.int t14), .val (.int t15), .val (.int t16), .val (.ref b1), .unset] [(.int (2 : Int32)), (.int (t10 - f9))])) _
  by_cases c227 : (t10 - f9) = (2 : Int32)
  · refine own_via (fun t k => XS.icmpNo X3.here hx rfl (hb hby at_227) rfl (teq c227).2 k) ?_
    show own_Rch p.tables e below (T3.setTop (mkF m 230 #[.val (.long q1), .second, .val (.long q3), .second, .val (.int p4), .val (.int p5), .val (.int p6), .val (.int p7), .val (.ref b), .val (.int f9), .val (.int t10), .val (.int (2 : Int32)), .val (.int t12), .val (.int t13), .val (.int t14), .val (.int t15), .val (.int t16), .val (.ref b1), .unset] [])) _
    refine own_via (fun t k => XS.iload X3.here hx rfl (hb hby at_230) rfl k) ?_
    show own_Rch p.tables e below (T3.setTop (mkF m 232 #[.val (.long q1), .second, .val (.long q3), .second, .val (.int p4), .val (.int p5), .val (.int p6), .val (.int p7), .val (.ref b), .val (.int f9), .val (.int t10), .val (.int (2 : Int32)), .val (.int t12), .val (.int t13), .val (.int t14), .val (.int t15), .val (.int t16), .val (.ref b1), .unset] [(.int (2 : Int32))])) _
    refine own_via (fun t k => XS.iconst X3.here hx rfl (hb hby at_232) k) ?_
    show own_Rch p.tables e below (T3.setTop (mkF m 233 #[.val (.long q1), .second, .val (.long q3), .second, .val (.int p4), .val (.int p5), .val (.int p6), .val (.int p7), .val (.ref b), .val (.int f9), .val (.int t10), .val (.int (2 : Int32)), .val (.int t12), .val (.int t13), .val (.int t14), .val (.int t15), .val (.int t16), .val (.ref b1), .unset] [(.int (1 : Int32)), (.int (2 : Int32))])) _
    refine own_via (fun t k => XS.icmpNo X3.here hx rfl (hb hby at_233) rfl (flt (by decide : ¬ ((2 : Int32) < (1 : Int32)))).1 k) ?_
    show own_Rch p.tables e below (T3.setTop (mkF m 236 #[.val (.long q1), .second, .val (.long q3), .second, .val (.int p4), .val (.int p5), .val (.int p6), .val (.int p7), .val (.ref b), .val (.int f9), .val (.int t10), .val (.int (2 : Int32)), .val (.int t12), .val (.int t13), .val (.int t14), .val (.int t15), .val (.int t16), .val (.ref b1), .unset] [])) _
    refine own_via (fun t k => XS.aload X3.here hx rfl (hb hby at_236) rfl rfl k) ?_
    show own_Rch p.tables e below (T3.setTop (mkF m 238 #[.val (.long q1), .second, .val (.long q3), .second, .val (.int p4), .val (.int p5), .val (.int p6), .val (.int p7), .val (.ref b), .val (.int f9), .val (.int t10), .val (.int (2 : Int32)), .val (.int t12), .val (.int t13), .val (.int t14), .val (.int t15), .val (.int t16), .val (.ref b1), .unset] [(.ref b)])) _
    refine own_via (fun t k => XS.iload X3.here hx rfl (hb hby at_238) rfl k) ?_
    show own_Rch p.tables e below (T3.setTop (mkF m 240 #[.val (.long q1), .second, .val (.long q3), .second, .val (.int p4), .val (.int p5), .val (.int p6), .val (.int p7), .val (.ref b), .val (.int f9), .val (.int t10), .val (.int (2 : Int32)), .val (.int t12), .val (.int t13), .val (.int t14), .val (.int t15), .val (.int t16), .val (.ref b1), .unset] [(.int f9), (.ref b)])) _
    obtain ⟨cl4, Ar4, -, S4, M4, H4, -⟩ := id (((V.ext E1).other W2 (Nat.ne_of_lt (Nat.lt_of_lt_of_le V.lt (Nat.le_of_eq g1.symm)))).other W3 (Nat.ne_of_lt (Nat.lt_of_lt_of_le V.lt (Nat.le_of_eq g1.symm))))
    have hin4 : ¬ (f9 < 0 ∨ cl4.slots.size ≤ (f9).toNatClampNeg) := inb_of S4 (own_inz f9 t10 (2 : Int32) (5 : Int32) i0 i1 i2 c227 (by decide))
    have hat4 : cl4.slots[(f9).toNatClampNeg]? = some (.int (own_at l_ f9)) := Has.at H4 hin4 (own_getI l_ _)
    refine own_via (X3.baloadBytes hx (j := f9) (v := (.int (own_at l_ f9))) (by rw [e3]; exact Ar4.1) (State.isArrayOf_alike hZ.alike Ar4.2.1) Ar4.2.2 hin4 hat4 (g := (mkF m 240 #[.val (.long q1), .second, .val (.long q3), .second, .val (.int p4), .val (.int p5), .val (.int p6), .val (.int p7), .val (.ref b), .val (.int f9), .val (.int t10), .val (.int (2 : Int32)), .val (.int t12), .val (.int t13), .val (.int t14), .val (.int t15), .val (.int t16), .val (.ref b1), .unset] [(.int f9), (.ref b)])) rfl rfl (hb hby at_240)) ?_
    show own_Rch p.tables e below (T3.setTop (mkF m 241 #[.val (.long q1), .second, .val (.long q3), .second, .val (.int p4), .val (.int p5), .val (.int p6), .val (.int p7), .val (.ref b), .val (.int f9), .val (.int t10), .val (.int (2 : Int32)), .val (.int t12), .val (.int t13), .val (.int t14), .val (.int t15), .val (.int t16), .val (.ref b1), .unset] [(.int (own_at l_ f9))])) _
    refine own_via (fun t k => XS.iload X3.here hx rfl (hb hby at_241) rfl k) ?_
    show own_Rch p.tables e below (T3.setTop (mkF m 243 #[.val (.long q1), .second, .val (.long q3), .second, .val (.int p4), .val (.int p5), .val (.int p6), .val (.int p7), .val (.ref b), .val (.int f9), .val (.int t10), .val (.int (2 : Int32)), .val (.int t12), .val (.int t13), .val (.int t14), .val (.int t15), .val (.int t16), .val (.ref b1), .unset] [(.int t12), (.int (own_at l_ f9))])) _
    by_cases c243 : (own_at l_ f9) = t12
    · refine own_via (fun t k => XS.icmpNo X3.here hx rfl (hb hby at_243) rfl (teq c243).2 k) ?_
      show own_Rch p.tables e below (T3.setTop (mkF m 246 #[.val (.long q1), .second, .val (.long q3), .second, .val (.int p4), .val (.int p5), .val (.int p6), .val (.int p7), .val (.ref b), .val (.int f9), .val (.int t10), .val (.int (2 : Int32)), .val (.int t12), .val (.int t13), .val (.int t14), .val (.int t15), .val (.int t16), .val (.ref b1), .unset] [])) _
      refine own_via (fun t k => XS.iload X3.here hx rfl (hb hby at_246) rfl k) ?_
      show own_Rch p.tables e below (T3.setTop (mkF m 248 #[.val (.long q1), .second, .val (.long q3), .second, .val (.int p4), .val (.int p5), .val (.int p6), .val (.int p7), .val (.ref b), .val (.int f9), .val (.int t10), .val (.int (2 : Int32)), .val (.int t12), .val (.int t13), .val (.int t14), .val (.int t15), .val (.int t16), .val (.ref b1), .unset] [(.int (2 : Int32))])) _
      refine own_via (fun t k => XS.iconst X3.here hx rfl (hb hby at_248) k) ?_
      show own_Rch p.tables e below (T3.setTop (mkF m 249 #[.val (.long q1), .second, .val (.long q3), .second, .val (.int p4), .val (.int p5), .val (.int p6), .val (.int p7), .val (.ref b), .val (.int f9), .val (.int t10), .val (.int (2 : Int32)), .val (.int t12), .val (.int t13), .val (.int t14), .val (.int t15), .val (.int t16), .val (.ref b1), .unset] [(.int (2 : Int32)), (.int (2 : Int32))])) _
      refine own_via (fun t k => XS.icmpNo X3.here hx rfl (hb hby at_249) rfl (flt (by decide : ¬ ((2 : Int32) < (2 : Int32)))).1 k) ?_
      show own_Rch p.tables e below (T3.setTop (mkF m 252 #[.val (.long q1), .second, .val (.long q3), .second, .val (.int p4), .val (.int p5), .val (.int p6), .val (.int p7), .val (.ref b), .val (.int f9), .val (.int t10), .val (.int (2 : Int32)), .val (.int t12), .val (.int t13), .val (.int t14), .val (.int t15), .val (.int t16), .val (.ref b1), .unset] [])) _
      refine own_via (fun t k => XS.aload X3.here hx rfl (hb hby at_252) rfl rfl k) ?_
      show own_Rch p.tables e below (T3.setTop (mkF m 254 #[.val (.long q1), .second, .val (.long q3), .second, .val (.int p4), .val (.int p5), .val (.int p6), .val (.int p7), .val (.ref b), .val (.int f9), .val (.int t10), .val (.int (2 : Int32)), .val (.int t12), .val (.int t13), .val (.int t14), .val (.int t15), .val (.int t16), .val (.ref b1), .unset] [(.ref b)])) _
      refine own_via (fun t k => XS.iload X3.here hx rfl (hb hby at_254) rfl k) ?_
      show own_Rch p.tables e below (T3.setTop (mkF m 256 #[.val (.long q1), .second, .val (.long q3), .second, .val (.int p4), .val (.int p5), .val (.int p6), .val (.int p7), .val (.ref b), .val (.int f9), .val (.int t10), .val (.int (2 : Int32)), .val (.int t12), .val (.int t13), .val (.int t14), .val (.int t15), .val (.int t16), .val (.ref b1), .unset] [(.int f9), (.ref b)])) _
      refine own_via (fun t k => XS.iconst X3.here hx rfl (hb hby at_256) k) ?_
      show own_Rch p.tables e below (T3.setTop (mkF m 257 #[.val (.long q1), .second, .val (.long q3), .second, .val (.int p4), .val (.int p5), .val (.int p6), .val (.int p7), .val (.ref b), .val (.int f9), .val (.int t10), .val (.int (2 : Int32)), .val (.int t12), .val (.int t13), .val (.int t14), .val (.int t15), .val (.int t16), .val (.ref b1), .unset] [(.int (1 : Int32)), (.int f9), (.ref b)])) _
      refine own_via (fun t k => XS.iadd X3.here hx rfl (hb hby at_257) rfl k) ?_
      show own_Rch p.tables e below (T3.setTop (mkF m 258 #[.val (.long q1), .second, .val (.long q3), .second, .val (.int p4), .val (.int p5), .val (.int p6), .val (.int p7), .val (.ref b), .val (.int f9), .val (.int t10), .val (.int (2 : Int32)), .val (.int t12), .val (.int t13), .val (.int t14), .val (.int t15), .val (.int t16), .val (.ref b1), .unset] [(.int (f9 + (1 : Int32))), (.ref b)])) _
      obtain ⟨cl5, Ar5, -, S5, M5, H5, -⟩ := id (((V.ext E1).other W2 (Nat.ne_of_lt (Nat.lt_of_lt_of_le V.lt (Nat.le_of_eq g1.symm)))).other W3 (Nat.ne_of_lt (Nat.lt_of_lt_of_le V.lt (Nat.le_of_eq g1.symm))))
      have hin5 : ¬ ((f9 + (1 : Int32)) < 0 ∨ cl5.slots.size ≤ ((f9 + (1 : Int32))).toNatClampNeg) := inb_of S5 (own_in f9 t10 (2 : Int32) (1 : Int32) (5 : Int32) i0 i1 i2 c227 (by decide) (by decide))
      have hat5 : cl5.slots[((f9 + (1 : Int32))).toNatClampNeg]? = some (.int (own_at l_ (f9 + (1 : Int32)))) := Has.at H5 hin5 (own_getI l_ _)
      refine own_via (X3.baloadBytes hx (j := (f9 + (1 : Int32))) (v := (.int (own_at l_ (f9 + (1 : Int32))))) (by rw [e3]; exact Ar5.1) (State.isArrayOf_alike hZ.alike Ar5.2.1) Ar5.2.2 hin5 hat5 (g := (mkF m 258 #[.val (.long q1), .second, .val (.long q3), .second, .val (.int p4), .val (.int p5), .val (.int p6), .val (.int p7), .val (.ref b), .val (.int f9), .val (.int t10), .val (.int (2 : Int32)), .val (.int t12), .val (.int t13), .val (.int t14), .val (.int t15), .val (.int t16), .val (.ref b1), .unset] [(.int (f9 + (1 : Int32))), (.ref b)])) rfl rfl (hb hby at_258)) ?_
      show own_Rch p.tables e below (T3.setTop (mkF m 259 #[.val (.long q1), .second, .val (.long q3), .second, .val (.int p4), .val (.int p5), .val (.int p6), .val (.int p7), .val (.ref b), .val (.int f9), .val (.int t10), .val (.int (2 : Int32)), .val (.int t12), .val (.int t13), .val (.int t14), .val (.int t15), .val (.int t16), .val (.ref b1), .unset] [(.int (own_at l_ (f9 + (1 : Int32))))])) _
      refine own_via (fun t k => XS.iload X3.here hx rfl (hb hby at_259) rfl k) ?_
      show own_Rch p.tables e below (T3.setTop (mkF m 261 #[.val (.long q1), .second, .val (.long q3), .second, .val (.int p4), .val (.int p5), .val (.int p6), .val (.int p7), .val (.ref b), .val (.int f9), .val (.int t10), .val (.int (2 : Int32)), .val (.int t12), .val (.int t13), .val (.int t14), .val (.int t15), .val (.int t16), .val (.ref b1), .unset] [(.int t13), (.int (own_at l_ (f9 + (1 : Int32))))])) _
      by_cases c261 : (own_at l_ (f9 + (1 : Int32))) = t13
      · refine own_via (fun t k => XS.icmpNo X3.here hx rfl (hb hby at_261) rfl (teq c261).2 k) ?_
        show own_Rch p.tables e below (T3.setTop (mkF m 264 #[.val (.long q1), .second, .val (.long q3), .second, .val (.int p4), .val (.int p5), .val (.int p6), .val (.int p7), .val (.ref b), .val (.int f9), .val (.int t10), .val (.int (2 : Int32)), .val (.int t12), .val (.int t13), .val (.int t14), .val (.int t15), .val (.int t16), .val (.ref b1), .unset] [])) _
        refine own_via (fun t k => XS.iload X3.here hx rfl (hb hby at_264) rfl k) ?_
        show own_Rch p.tables e below (T3.setTop (mkF m 266 #[.val (.long q1), .second, .val (.long q3), .second, .val (.int p4), .val (.int p5), .val (.int p6), .val (.int p7), .val (.ref b), .val (.int f9), .val (.int t10), .val (.int (2 : Int32)), .val (.int t12), .val (.int t13), .val (.int t14), .val (.int t15), .val (.int t16), .val (.ref b1), .unset] [(.int (2 : Int32))])) _
        refine own_via (fun t k => XS.iconst X3.here hx rfl (hb hby at_266) k) ?_
        show own_Rch p.tables e below (T3.setTop (mkF m 267 #[.val (.long q1), .second, .val (.long q3), .second, .val (.int p4), .val (.int p5), .val (.int p6), .val (.int p7), .val (.ref b), .val (.int f9), .val (.int t10), .val (.int (2 : Int32)), .val (.int t12), .val (.int t13), .val (.int t14), .val (.int t15), .val (.int t16), .val (.ref b1), .unset] [(.int (3 : Int32)), (.int (2 : Int32))])) _
        refine own_via (fun t k => XS.icmpYes X3.here hx rfl (pc0 := 267) (pc' := 282) rfl (hb hby at_267) rfl (tlt (by decide : (2 : Int32) < (3 : Int32))).1 (by decide) (by decide) k) ?_
        show own_Rch p.tables e below (T3.setTop (mkF m 282 #[.val (.long q1), .second, .val (.long q3), .second, .val (.int p4), .val (.int p5), .val (.int p6), .val (.int p7), .val (.ref b), .val (.int f9), .val (.int t10), .val (.int (2 : Int32)), .val (.int t12), .val (.int t13), .val (.int t14), .val (.int t15), .val (.int t16), .val (.ref b1), .unset] [])) _
        refine own_via (fun t k => XS.iload X3.here hx rfl (hb hby at_282) rfl k) ?_
        show own_Rch p.tables e below (T3.setTop (mkF m 284 #[.val (.long q1), .second, .val (.long q3), .second, .val (.int p4), .val (.int p5), .val (.int p6), .val (.int p7), .val (.ref b), .val (.int f9), .val (.int t10), .val (.int (2 : Int32)), .val (.int t12), .val (.int t13), .val (.int t14), .val (.int t15), .val (.int t16), .val (.ref b1), .unset] [(.int (2 : Int32))])) _
        refine own_via (fun t k => XS.iconst X3.here hx rfl (hb hby at_284) k) ?_
        show own_Rch p.tables e below (T3.setTop (mkF m 285 #[.val (.long q1), .second, .val (.long q3), .second, .val (.int p4), .val (.int p5), .val (.int p6), .val (.int p7), .val (.ref b), .val (.int f9), .val (.int t10), .val (.int (2 : Int32)), .val (.int t12), .val (.int t13), .val (.int t14), .val (.int t15), .val (.int t16), .val (.ref b1), .unset] [(.int (4 : Int32)), (.int (2 : Int32))])) _
        refine own_via (fun t k => XS.icmpYes X3.here hx rfl (pc0 := 285) (pc' := 300) rfl (hb hby at_285) rfl (tlt (by decide : (2 : Int32) < (4 : Int32))).1 (by decide) (by decide) k) ?_
        show own_Rch p.tables e below (T3.setTop (mkF m 300 #[.val (.long q1), .second, .val (.long q3), .second, .val (.int p4), .val (.int p5), .val (.int p6), .val (.int p7), .val (.ref b), .val (.int f9), .val (.int t10), .val (.int (2 : Int32)), .val (.int t12), .val (.int t13), .val (.int t14), .val (.int t15), .val (.int t16), .val (.ref b1), .unset] [])) _
        refine own_via (fun t k => XS.iload X3.here hx rfl (hb hby at_300) rfl k) ?_
        show own_Rch p.tables e below (T3.setTop (mkF m 302 #[.val (.long q1), .second, .val (.long q3), .second, .val (.int p4), .val (.int p5), .val (.int p6), .val (.int p7), .val (.ref b), .val (.int f9), .val (.int t10), .val (.int (2 : Int32)), .val (.int t12), .val (.int t13), .val (.int t14), .val (.int t15), .val (.int t16), .val (.ref b1), .unset] [(.int (2 : Int32))])) _
        refine own_via (fun t k => XS.iconst X3.here hx rfl (hb hby at_302) k) ?_
        show own_Rch p.tables e below (T3.setTop (mkF m 303 #[.val (.long q1), .second, .val (.long q3), .second, .val (.int p4), .val (.int p5), .val (.int p6), .val (.int p7), .val (.ref b), .val (.int f9), .val (.int t10), .val (.int (2 : Int32)), .val (.int t12), .val (.int t13), .val (.int t14), .val (.int t15), .val (.int t16), .val (.ref b1), .unset] [(.int (5 : Int32)), (.int (2 : Int32))])) _
        refine own_via (fun t k => XS.icmpYes X3.here hx rfl (pc0 := 303) (pc' := 318) rfl (hb hby at_303) rfl (tlt (by decide : (2 : Int32) < (5 : Int32))).1 (by decide) (by decide) k) ?_
        show own_Rch p.tables e below (T3.setTop (mkF m 318 #[.val (.long q1), .second, .val (.long q3), .second, .val (.int p4), .val (.int p5), .val (.int p6), .val (.int p7), .val (.ref b), .val (.int f9), .val (.int t10), .val (.int (2 : Int32)), .val (.int t12), .val (.int t13), .val (.int t14), .val (.int t15), .val (.int t16), .val (.ref b1), .unset] [])) _
        refine own_via (fun t k => XS.iconst X3.here hx rfl (hb hby at_318) k) ?_
        show own_Rch p.tables e below (T3.setTop (mkF m 319 #[.val (.long q1), .second, .val (.long q3), .second, .val (.int p4), .val (.int p5), .val (.int p6), .val (.int p7), .val (.ref b), .val (.int f9), .val (.int t10), .val (.int (2 : Int32)), .val (.int t12), .val (.int t13), .val (.int t14), .val (.int t15), .val (.int t16), .val (.ref b1), .unset] [(.int (1 : Int32))])) _
        refine own_via (fun t k => XS.goto X3.here hx rfl (pc0 := 319) (pc' := 323) rfl (hb hby at_319) (by decide) (by decide) k) ?_
        show own_Rch p.tables e below (T3.setTop (mkF m 323 #[.val (.long q1), .second, .val (.long q3), .second, .val (.int p4), .val (.int p5), .val (.int p6), .val (.int p7), .val (.ref b), .val (.int f9), .val (.int t10), .val (.int (2 : Int32)), .val (.int t12), .val (.int t13), .val (.int t14), .val (.int t15), .val (.int t16), .val (.ref b1), .unset] [(.int (1 : Int32))])) _
        refine own_via (fun t k => XS.istore X3.here hx rfl (hb hby at_323) rfl (l' := #[.val (.long q1), .second, .val (.long q3), .second, .val (.int p4), .val (.int p5), .val (.int p6), .val (.int p7), .val (.ref b), .val (.int f9), .val (.int t10), .val (.int (2 : Int32)), .val (.int t12), .val (.int t13), .val (.int t14), .val (.int t15), .val (.int t16), .val (.ref b1), .val (.int (1 : Int32))]) rfl k) ?_
        show own_Rch p.tables e below (T3.setTop (mkF m 325 #[.val (.long q1), .second, .val (.long q3), .second, .val (.int p4), .val (.int p5), .val (.int p6), .val (.int p7), .val (.ref b), .val (.int f9), .val (.int t10), .val (.int (2 : Int32)), .val (.int t12), .val (.int t13), .val (.int t14), .val (.int t15), .val (.int t16), .val (.ref b1), .val (.int (1 : Int32))] [])) _
        refine own_via (fun t k => XS.aload X3.here hx rfl (hb hby at_325) rfl rfl k) ?_
        show own_Rch p.tables e below (T3.setTop (mkF m 327 #[.val (.long q1), .second, .val (.long q3), .second, .val (.int p4), .val (.int p5), .val (.int p6), .val (.int p7), .val (.ref b), .val (.int f9), .val (.int t10), .val (.int (2 : Int32)), .val (.int t12), .val (.int t13), .val (.int t14), .val (.int t15), .val (.int t16), .val (.ref b1), .val (.int (1 : Int32))] [(.ref b)])) _
        refine own_via (fun t k => XS.iload X3.here hx rfl (hb hby at_327) rfl k) ?_
        show own_Rch p.tables e below (T3.setTop (mkF m 329 #[.val (.long q1), .second, .val (.long q3), .second, .val (.int p4), .val (.int p5), .val (.int p6), .val (.int p7), .val (.ref b), .val (.int f9), .val (.int t10), .val (.int (2 : Int32)), .val (.int t12), .val (.int t13), .val (.int t14), .val (.int t15), .val (.int t16), .val (.ref b1), .val (.int (1 : Int32))] [(.int f9), (.ref b)])) _
        refine own_via (fun t k => XS.iload X3.here hx rfl (hb hby at_329) rfl k) ?_
        show own_Rch p.tables e below (T3.setTop (mkF m 331 #[.val (.long q1), .second, .val (.long q3), .second, .val (.int p4), .val (.int p5), .val (.int p6), .val (.int p7), .val (.ref b), .val (.int f9), .val (.int t10), .val (.int (2 : Int32)), .val (.int t12), .val (.int t13), .val (.int t14), .val (.int t15), .val (.int t16), .val (.ref b1), .val (.int (1 : Int32))] [(.int t10), (.int f9), (.ref b)])) _
        refine own_via (fun t k => XS.aload X3.here hx rfl (hb hby at_331) rfl rfl k) ?_
        show own_Rch p.tables e below (T3.setTop (mkF m 333 #[.val (.long q1), .second, .val (.long q3), .second, .val (.int p4), .val (.int p5), .val (.int p6), .val (.int p7), .val (.ref b), .val (.int f9), .val (.int t10), .val (.int (2 : Int32)), .val (.int t12), .val (.int t13), .val (.int t14), .val (.int t15), .val (.int t16), .val (.ref b1), .val (.int (1 : Int32))] [(.ref b1), (.int t10), (.int f9), (.ref b)])) _
        have Vt6 := V3'
        rw [hbt12, hbt13] at Vt6
        obtain ⟨_, _, ⟨T6, L6, k6, n6⟩, -, X6, ⟨Lc6, hQ6, l6, y6, z6⟩, st6⟩ := Jvm.LawKit.callS X3 hx (y := (⟨"com/example/lastkey/lastkey/exec/TextFormat", "isNull", "([BII[B)Z"⟩ : MethodName)) hown (mvT hZ (hw _ (List.mem_of_getElem? (i := 6) rfl))) (mvT hZ (hw _ (List.mem_of_getElem? (i := 7) rfl))) (mvT hZ (hw _ (List.mem_of_getElem? (i := 8) rfl))) (mvT hZ (hw _ (List.mem_of_getElem? (i := 9) rfl))) (by decide) (backOf (W := 0) (rm2_2 l Z a0 hw [] b f9 t10 b1 l_ [t12, t13] kb k1 h3 n0 (((V.ext E1).other W2 (Nat.ne_of_lt (Nat.lt_of_lt_of_le V.lt (Nat.le_of_eq g1.symm)))).other W3 (Nat.ne_of_lt (Nat.lt_of_lt_of_le V.lt (Nat.le_of_eq g1.symm)))) Vt6 i0 i1 i2) hZ (hw _ (List.mem_of_getElem? (i := 9) rfl)) (hw _ (List.mem_of_getElem? (i := 8) rfl)) (by decide) (by decide)) (g := (mkF m 333 #[.val (.long q1), .second, .val (.long q3), .second, .val (.int p4), .val (.int p5), .val (.int p6), .val (.int p7), .val (.ref b), .val (.int f9), .val (.int t10), .val (.int (2 : Int32)), .val (.int t12), .val (.int t13), .val (.int t14), .val (.int t15), .val (.int t16), .val (.ref b1), .val (.int (1 : Int32))] [(.ref b1), (.int t10), (.int f9), (.ref b)])) rfl (by rw [hml]; rfl) (argsL := [(.ref b), (.int f9), (.int t10), (.ref b1)]) (rest := []) (lenOf pd_0 rfl) rfl (by show 2 * 0 + _ ≤ _; exact Nat.le_of_eq rfl) (hb hby at_333) (fun _ _ => ⟨rfl, e3, (by decide : 2 + 0 ≤ _), (by decide : 7 + 0 ≤ _)⟩)
        dsimp only [Pt.U, Pt.locs, Pt.cells, Pt.slots] at X6 l6 y6 z6 st6 hQ6
        subst l6 y6 z6
        obtain ⟨rfl, N6q, eh6⟩ := hQ6
        have N6 := Fr.app N3 N6q
        refine own_via st6 ?_
        show own_Rch p.tables e below (T6.setTop (mkF m 336 #[.val (.long q1), .second, .val (.long q3), .second, .val (.int p4), .val (.int p5), .val (.int p6), .val (.int p7), .val (.ref b), .val (.int f9), .val (.int t10), .val (.int (2 : Int32)), .val (.int t12), .val (.int t13), .val (.int t14), .val (.int t15), .val (.int t16), .val (.ref b1), .val (.int (1 : Int32))] [(.int (own_n4_2 l_ [t12, t13] f9 t10))])) _
        refine own_via (fun t k => XS.iload X6.here hx rfl (hb hby at_336) rfl k) ?_
        show own_Rch p.tables e below (T6.setTop (mkF m 338 #[.val (.long q1), .second, .val (.long q3), .second, .val (.int p4), .val (.int p5), .val (.int p6), .val (.int p7), .val (.ref b), .val (.int f9), .val (.int t10), .val (.int (2 : Int32)), .val (.int t12), .val (.int t13), .val (.int t14), .val (.int t15), .val (.int t16), .val (.ref b1), .val (.int (1 : Int32))] [(.int (1 : Int32)), (.int (own_n4_2 l_ [t12, t13] f9 t10))])) _
        have a0_ : own_at [t12, t13] (0 : Int32) = t12 := rfl
        have a1_ : own_at [t12, t13] (1 : Int32) = t13 := rfl
        have hq : (own_n4_2 l_ [t12, t13] f9 t10) = (1 : Int32) := by simp only [own_n4_2, Int32.add_zero, a0_, a1_, if_pos c227, if_pos c243, if_pos c261]
        refine own_via (fun t k => XS.icmpNo X6.here hx rfl (hb hby at_338) rfl (teq hq).2 k) ?_
        show own_Rch p.tables e below (T6.setTop (mkF m 341 #[.val (.long q1), .second, .val (.long q3), .second, .val (.int p4), .val (.int p5), .val (.int p6), .val (.int p7), .val (.ref b), .val (.int f9), .val (.int t10), .val (.int (2 : Int32)), .val (.int t12), .val (.int t13), .val (.int t14), .val (.int t15), .val (.int t16), .val (.ref b1), .val (.int (1 : Int32))] [])) _
        refine own_via (fun t k => XS.iconst X6.here hx rfl (hb hby at_341) k) ?_
        show own_Rch p.tables e below (T6.setTop (mkF m 342 #[.val (.long q1), .second, .val (.long q3), .second, .val (.int p4), .val (.int p5), .val (.int p6), .val (.int p7), .val (.ref b), .val (.int f9), .val (.int t10), .val (.int (2 : Int32)), .val (.int t12), .val (.int t13), .val (.int t14), .val (.int t15), .val (.int t16), .val (.ref b1), .val (.int (1 : Int32))] [(.int (1 : Int32))])) _
        refine own_via (fun t k => XS.goto X6.here hx rfl (pc0 := 342) (pc' := 346) rfl (hb hby at_342) (by decide) (by decide) k) ?_
        show own_Rch p.tables e below (T6.setTop (mkF m 346 #[.val (.long q1), .second, .val (.long q3), .second, .val (.int p4), .val (.int p5), .val (.int p6), .val (.int p7), .val (.ref b), .val (.int f9), .val (.int t10), .val (.int (2 : Int32)), .val (.int t12), .val (.int t13), .val (.int t14), .val (.int t15), .val (.int t16), .val (.ref b1), .val (.int (1 : Int32))] [(.int (1 : Int32))])) _
        exact own_fin X6 hx (t := .boolean) (i := .ireturn) hret hlk rfl (Or.inl ⟨rfl, by simp, _, rfl⟩) (hb hby at_346) (by decide) (by decide) ⟨rfl, N6⟩
      · refine own_via (fun t k => XS.icmpYes X3.here hx rfl (pc0 := 261) (pc' := 322) rfl (hb hby at_261) rfl (feq c261).2 (by decide) (by decide) k) ?_
        show own_Rch p.tables e below (T3.setTop (mkF m 322 #[.val (.long q1), .second, .val (.long q3), .second, .val (.int p4), .val (.int p5), .val (.int p6), .val (.int p7), .val (.ref b), .val (.int f9), .val (.int t10), .val (.int (2 : Int32)), .val (.int t12), .val (.int t13), .val (.int t14), .val (.int t15), .val (.int t16), .val (.ref b1), .unset] [])) _
        refine own_via (fun t k => XS.iconst X3.here hx rfl (hb hby at_322) k) ?_
        show own_Rch p.tables e below (T3.setTop (mkF m 323 #[.val (.long q1), .second, .val (.long q3), .second, .val (.int p4), .val (.int p5), .val (.int p6), .val (.int p7), .val (.ref b), .val (.int f9), .val (.int t10), .val (.int (2 : Int32)), .val (.int t12), .val (.int t13), .val (.int t14), .val (.int t15), .val (.int t16), .val (.ref b1), .unset] [(.int (0 : Int32))])) _
        refine own_via (fun t k => XS.istore X3.here hx rfl (hb hby at_323) rfl (l' := #[.val (.long q1), .second, .val (.long q3), .second, .val (.int p4), .val (.int p5), .val (.int p6), .val (.int p7), .val (.ref b), .val (.int f9), .val (.int t10), .val (.int (2 : Int32)), .val (.int t12), .val (.int t13), .val (.int t14), .val (.int t15), .val (.int t16), .val (.ref b1), .val (.int (0 : Int32))]) rfl k) ?_
        show own_Rch p.tables e below (T3.setTop (mkF m 325 #[.val (.long q1), .second, .val (.long q3), .second, .val (.int p4), .val (.int p5), .val (.int p6), .val (.int p7), .val (.ref b), .val (.int f9), .val (.int t10), .val (.int (2 : Int32)), .val (.int t12), .val (.int t13), .val (.int t14), .val (.int t15), .val (.int t16), .val (.ref b1), .val (.int (0 : Int32))] [])) _
        refine own_via (fun t k => XS.aload X3.here hx rfl (hb hby at_325) rfl rfl k) ?_
        show own_Rch p.tables e below (T3.setTop (mkF m 327 #[.val (.long q1), .second, .val (.long q3), .second, .val (.int p4), .val (.int p5), .val (.int p6), .val (.int p7), .val (.ref b), .val (.int f9), .val (.int t10), .val (.int (2 : Int32)), .val (.int t12), .val (.int t13), .val (.int t14), .val (.int t15), .val (.int t16), .val (.ref b1), .val (.int (0 : Int32))] [(.ref b)])) _
        refine own_via (fun t k => XS.iload X3.here hx rfl (hb hby at_327) rfl k) ?_
        show own_Rch p.tables e below (T3.setTop (mkF m 329 #[.val (.long q1), .second, .val (.long q3), .second, .val (.int p4), .val (.int p5), .val (.int p6), .val (.int p7), .val (.ref b), .val (.int f9), .val (.int t10), .val (.int (2 : Int32)), .val (.int t12), .val (.int t13), .val (.int t14), .val (.int t15), .val (.int t16), .val (.ref b1), .val (.int (0 : Int32))] [(.int f9), (.ref b)])) _
        refine own_via (fun t k => XS.iload X3.here hx rfl (hb hby at_329) rfl k) ?_
        show own_Rch p.tables e below (T3.setTop (mkF m 331 #[.val (.long q1), .second, .val (.long q3), .second, .val (.int p4), .val (.int p5), .val (.int p6), .val (.int p7), .val (.ref b), .val (.int f9), .val (.int t10), .val (.int (2 : Int32)), .val (.int t12), .val (.int t13), .val (.int t14), .val (.int t15), .val (.int t16), .val (.ref b1), .val (.int (0 : Int32))] [(.int t10), (.int f9), (.ref b)])) _
        refine own_via (fun t k => XS.aload X3.here hx rfl (hb hby at_331) rfl rfl k) ?_
        show own_Rch p.tables e below (T3.setTop (mkF m 333 #[.val (.long q1), .second, .val (.long q3), .second, .val (.int p4), .val (.int p5), .val (.int p6), .val (.int p7), .val (.ref b), .val (.int f9), .val (.int t10), .val (.int (2 : Int32)), .val (.int t12), .val (.int t13), .val (.int t14), .val (.int t15), .val (.int t16), .val (.ref b1), .val (.int (0 : Int32))] [(.ref b1), (.int t10), (.int f9), (.ref b)])) _
        have Vt7 := V3'
        rw [hbt12, hbt13] at Vt7
        obtain ⟨_, _, ⟨T7, L7, k7, n7⟩, -, X7, ⟨Lc7, hQ7, l7, y7, z7⟩, st7⟩ := Jvm.LawKit.callS X3 hx (y := (⟨"com/example/lastkey/lastkey/exec/TextFormat", "isNull", "([BII[B)Z"⟩ : MethodName)) hown (mvT hZ (hw _ (List.mem_of_getElem? (i := 6) rfl))) (mvT hZ (hw _ (List.mem_of_getElem? (i := 7) rfl))) (mvT hZ (hw _ (List.mem_of_getElem? (i := 8) rfl))) (mvT hZ (hw _ (List.mem_of_getElem? (i := 9) rfl))) (by decide) (backOf (W := 0) (rm2_2 l Z a0 hw [] b f9 t10 b1 l_ [t12, t13] kb k1 h3 n0 (((V.ext E1).other W2 (Nat.ne_of_lt (Nat.lt_of_lt_of_le V.lt (Nat.le_of_eq g1.symm)))).other W3 (Nat.ne_of_lt (Nat.lt_of_lt_of_le V.lt (Nat.le_of_eq g1.symm)))) Vt7 i0 i1 i2) hZ (hw _ (List.mem_of_getElem? (i := 9) rfl)) (hw _ (List.mem_of_getElem? (i := 8) rfl)) (by decide) (by decide)) (g := (mkF m 333 #[.val (.long q1), .second, .val (.long q3), .second, .val (.int p4), .val (.int p5), .val (.int p6), .val (.int p7), .val (.ref b), .val (.int f9), .val (.int t10), .val (.int (2 : Int32)), .val (.int t12), .val (.int t13), .val (.int t14), .val (.int t15), .val (.int t16), .val (.ref b1), .val (.int (0 : Int32))] [(.ref b1), (.int t10), (.int f9), (.ref b)])) rfl (by rw [hml]; rfl) (argsL := [(.ref b), (.int f9), (.int t10), (.ref b1)]) (rest := []) (lenOf pd_0 rfl) rfl (by show 2 * 0 + _ ≤ _; exact Nat.le_of_eq rfl) (hb hby at_333) (fun _ _ => ⟨rfl, e3, (by decide : 2 + 0 ≤ _), (by decide : 7 + 0 ≤ _)⟩)
        dsimp only [Pt.U, Pt.locs, Pt.cells, Pt.slots] at X7 l7 y7 z7 st7 hQ7
        subst l7 y7 z7
        obtain ⟨rfl, N7q, eh7⟩ := hQ7
        have N7 := Fr.app N3 N7q
        refine own_via st7 ?_
        show own_Rch p.tables e below (T7.setTop (mkF m 336 #[.val (.long q1), .second, .val (.long q3), .second, .val (.int p4), .val (.int p5), .val (.int p6), .val (.int p7), .val (.ref b), .val (.int f9), .val (.int t10), .val (.int (2 : Int32)), .val (.int t12), .val (.int t13), .val (.int t14), .val (.int t15), .val (.int t16), .val (.ref b1), .val (.int (0 : Int32))] [(.int (own_n4_2 l_ [t12, t13] f9 t10))])) _
        refine own_via (fun t k => XS.iload X7.here hx rfl (hb hby at_336) rfl k) ?_
        show own_Rch p.tables e below (T7.setTop (mkF m 338 #[.val (.long q1), .second, .val (.long q3), .second, .val (.int p4), .val (.int p5), .val (.int p6), .val (.int p7), .val (.ref b), .val (.int f9), .val (.int t10), .val (.int (2 : Int32)), .val (.int t12), .val (.int t13), .val (.int t14), .val (.int t15), .val (.int t16), .val (.ref b1), .val (.int (0 : Int32))] [(.int (0 : Int32)), (.int (own_n4_2 l_ [t12, t13] f9 t10))])) _
        have a0_ : own_at [t12, t13] (0 : Int32) = t12 := rfl
        have a1_ : own_at [t12, t13] (1 : Int32) = t13 := rfl
        have hq : (own_n4_2 l_ [t12, t13] f9 t10) = (0 : Int32) := by simp only [own_n4_2, Int32.add_zero, a0_, a1_, if_pos c227, if_pos c243, if_neg c261]
        refine own_via (fun t k => XS.icmpNo X7.here hx rfl (hb hby at_338) rfl (teq hq).2 k) ?_
        show own_Rch p.tables e below (T7.setTop (mkF m 341 #[.val (.long q1), .second, .val (.long q3), .second, .val (.int p4), .val (.int p5), .val (.int p6), .val (.int p7), .val (.ref b), .val (.int f9), .val (.int t10), .val (.int (2 : Int32)), .val (.int t12), .val (.int t13), .val (.int t14), .val (.int t15), .val (.int t16), .val (.ref b1), .val (.int (0 : Int32))] [])) _
        refine own_via (fun t k => XS.iconst X7.here hx rfl (hb hby at_341) k) ?_
        show own_Rch p.tables e below (T7.setTop (mkF m 342 #[.val (.long q1), .second, .val (.long q3), .second, .val (.int p4), .val (.int p5), .val (.int p6), .val (.int p7), .val (.ref b), .val (.int f9), .val (.int t10), .val (.int (2 : Int32)), .val (.int t12), .val (.int t13), .val (.int t14), .val (.int t15), .val (.int t16), .val (.ref b1), .val (.int (0 : Int32))] [(.int (1 : Int32))])) _
        refine own_via (fun t k => XS.goto X7.here hx rfl (pc0 := 342) (pc' := 346) rfl (hb hby at_342) (by decide) (by decide) k) ?_
        show own_Rch p.tables e below (T7.setTop (mkF m 346 #[.val (.long q1), .second, .val (.long q3), .second, .val (.int p4), .val (.int p5), .val (.int p6), .val (.int p7), .val (.ref b), .val (.int f9), .val (.int t10), .val (.int (2 : Int32)), .val (.int t12), .val (.int t13), .val (.int t14), .val (.int t15), .val (.int t16), .val (.ref b1), .val (.int (0 : Int32))] [(.int (1 : Int32))])) _
        exact own_fin X7 hx (t := .boolean) (i := .ireturn) hret hlk rfl (Or.inl ⟨rfl, by simp, _, rfl⟩) (hb hby at_346) (by decide) (by decide) ⟨rfl, N7⟩
    · refine own_via (fun t k => XS.icmpYes X3.here hx rfl (pc0 := 243) (pc' := 322) rfl (hb hby at_243) rfl (feq c243).2 (by decide) (by decide) k) ?_
      show own_Rch p.tables e below (T3.setTop (mkF m 322 #[.val (.long q1), .second, .val (.long q3), .second, .val (.int p4), .val (.int p5), .val (.int p6), .val (.int p7), .val (.ref b), .val (.int f9), .val (.int t10), .val (.int (2 : Int32)), .val (.int t12), .val (.int t13), .val (.int t14), .val (.int t15), .val (.int t16), .val (.ref b1), .unset] [])) _
      refine own_via (fun t k => XS.iconst X3.here hx rfl (hb hby at_322) k) ?_
      show own_Rch p.tables e below (T3.setTop (mkF m 323 #[.val (.long q1), .second, .val (.long q3), .second, .val (.int p4), .val (.int p5), .val (.int p6), .val (.int p7), .val (.ref b), .val (.int f9), .val (.int t10), .val (.int (2 : Int32)), .val (.int t12), .val (.int t13), .val (.int t14), .val (.int t15), .val (.int t16), .val (.ref b1), .unset] [(.int (0 : Int32))])) _
      refine own_via (fun t k => XS.istore X3.here hx rfl (hb hby at_323) rfl (l' := #[.val (.long q1), .second, .val (.long q3), .second, .val (.int p4), .val (.int p5), .val (.int p6), .val (.int p7), .val (.ref b), .val (.int f9), .val (.int t10), .val (.int (2 : Int32)), .val (.int t12), .val (.int t13), .val (.int t14), .val (.int t15), .val (.int t16), .val (.ref b1), .val (.int (0 : Int32))]) rfl k) ?_
      show own_Rch p.tables e below (T3.setTop (mkF m 325 #[.val (.long q1), .second, .val (.long q3), .second, .val (.int p4), .val (.int p5), .val (.int p6), .val (.int p7), .val (.ref b), .val (.int f9), .val (.int t10), .val (.int (2 : Int32)), .val (.int t12), .val (.int t13), .val (.int t14), .val (.int t15), .val (.int t16), .val (.ref b1), .val (.int (0 : Int32))] [])) _
      refine own_via (fun t k => XS.aload X3.here hx rfl (hb hby at_325) rfl rfl k) ?_
      show own_Rch p.tables e below (T3.setTop (mkF m 327 #[.val (.long q1), .second, .val (.long q3), .second, .val (.int p4), .val (.int p5), .val (.int p6), .val (.int p7), .val (.ref b), .val (.int f9), .val (.int t10), .val (.int (2 : Int32)), .val (.int t12), .val (.int t13), .val (.int t14), .val (.int t15), .val (.int t16), .val (.ref b1), .val (.int (0 : Int32))] [(.ref b)])) _
      refine own_via (fun t k => XS.iload X3.here hx rfl (hb hby at_327) rfl k) ?_
      show own_Rch p.tables e below (T3.setTop (mkF m 329 #[.val (.long q1), .second, .val (.long q3), .second, .val (.int p4), .val (.int p5), .val (.int p6), .val (.int p7), .val (.ref b), .val (.int f9), .val (.int t10), .val (.int (2 : Int32)), .val (.int t12), .val (.int t13), .val (.int t14), .val (.int t15), .val (.int t16), .val (.ref b1), .val (.int (0 : Int32))] [(.int f9), (.ref b)])) _
      refine own_via (fun t k => XS.iload X3.here hx rfl (hb hby at_329) rfl k) ?_
      show own_Rch p.tables e below (T3.setTop (mkF m 331 #[.val (.long q1), .second, .val (.long q3), .second, .val (.int p4), .val (.int p5), .val (.int p6), .val (.int p7), .val (.ref b), .val (.int f9), .val (.int t10), .val (.int (2 : Int32)), .val (.int t12), .val (.int t13), .val (.int t14), .val (.int t15), .val (.int t16), .val (.ref b1), .val (.int (0 : Int32))] [(.int t10), (.int f9), (.ref b)])) _
      refine own_via (fun t k => XS.aload X3.here hx rfl (hb hby at_331) rfl rfl k) ?_
      show own_Rch p.tables e below (T3.setTop (mkF m 333 #[.val (.long q1), .second, .val (.long q3), .second, .val (.int p4), .val (.int p5), .val (.int p6), .val (.int p7), .val (.ref b), .val (.int f9), .val (.int t10), .val (.int (2 : Int32)), .val (.int t12), .val (.int t13), .val (.int t14), .val (.int t15), .val (.int t16), .val (.ref b1), .val (.int (0 : Int32))] [(.ref b1), (.int t10), (.int f9), (.ref b)])) _
      have Vt8 := V3'
      rw [hbt12, hbt13] at Vt8
      obtain ⟨_, _, ⟨T8, L8, k8, n8⟩, -, X8, ⟨Lc8, hQ8, l8, y8, z8⟩, st8⟩ := Jvm.LawKit.callS X3 hx (y := (⟨"com/example/lastkey/lastkey/exec/TextFormat", "isNull", "([BII[B)Z"⟩ : MethodName)) hown (mvT hZ (hw _ (List.mem_of_getElem? (i := 6) rfl))) (mvT hZ (hw _ (List.mem_of_getElem? (i := 7) rfl))) (mvT hZ (hw _ (List.mem_of_getElem? (i := 8) rfl))) (mvT hZ (hw _ (List.mem_of_getElem? (i := 9) rfl))) (by decide) (backOf (W := 0) (rm2_2 l Z a0 hw [] b f9 t10 b1 l_ [t12, t13] kb k1 h3 n0 (((V.ext E1).other W2 (Nat.ne_of_lt (Nat.lt_of_lt_of_le V.lt (Nat.le_of_eq g1.symm)))).other W3 (Nat.ne_of_lt (Nat.lt_of_lt_of_le V.lt (Nat.le_of_eq g1.symm)))) Vt8 i0 i1 i2) hZ (hw _ (List.mem_of_getElem? (i := 9) rfl)) (hw _ (List.mem_of_getElem? (i := 8) rfl)) (by decide) (by decide)) (g := (mkF m 333 #[.val (.long q1), .second, .val (.long q3), .second, .val (.int p4), .val (.int p5), .val (.int p6), .val (.int p7), .val (.ref b), .val (.int f9), .val (.int t10), .val (.int (2 : Int32)), .val (.int t12), .val (.int t13), .val (.int t14), .val (.int t15), .val (.int t16), .val (.ref b1), .val (.int (0 : Int32))] [(.ref b1), (.int t10), (.int f9), (.ref b)])) rfl (by rw [hml]; rfl) (argsL := [(.ref b), (.int f9), (.int t10), (.ref b1)]) (rest := []) (lenOf pd_0 rfl) rfl (by show 2 * 0 + _ ≤ _; exact Nat.le_of_eq rfl) (hb hby at_333) (fun _ _ => ⟨rfl, e3, (by decide : 2 + 0 ≤ _), (by decide : 7 + 0 ≤ _)⟩)
      dsimp only [Pt.U, Pt.locs, Pt.cells, Pt.slots] at X8 l8 y8 z8 st8 hQ8
      subst l8 y8 z8
      obtain ⟨rfl, N8q, eh8⟩ := hQ8
      have N8 := Fr.app N3 N8q
      refine own_via st8 ?_
      show own_Rch p.tables e below (T8.setTop (mkF m 336 #[.val (.long q1), .second, .val (.long q3), .second, .val (.int p4), .val (.int p5), .val (.int p6), .val (.int p7), .val (.ref b), .val (.int f9), .val (.int t10), .val (.int (2 : Int32)), .val (.int t12), .val (.int t13), .val (.int t14), .val (.int t15), .val (.int t16), .val (.ref b1), .val (.int (0 : Int32))] [(.int (own_n4_2 l_ [t12, t13] f9 t10))])) _
      refine own_via (fun t k => XS.iload X8.here hx rfl (hb hby at_336) rfl k) ?_
      show own_Rch p.tables e below (T8.setTop (mkF m 338 #[.val (.long q1), .second, .val (.long q3), .second, .val (.int p4), .val (.int p5), .val (.int p6), .val (.int p7), .val (.ref b), .val (.int f9), .val (.int t10), .val (.int (2 : Int32)), .val (.int t12), .val (.int t13), .val (.int t14), .val (.int t15), .val (.int t16), .val (.ref b1), .val (.int (0 : Int32))] [(.int (0 : Int32)), (.int (own_n4_2 l_ [t12, t13] f9 t10))])) _
      have a0_ : own_at [t12, t13] (0 : Int32) = t12 := rfl
      have a1_ : own_at [t12, t13] (1 : Int32) = t13 := rfl
      have hq : (own_n4_2 l_ [t12, t13] f9 t10) = (0 : Int32) := by simp only [own_n4_2, Int32.add_zero, a0_, a1_, if_pos c227, if_neg c243]
      refine own_via (fun t k => XS.icmpNo X8.here hx rfl (hb hby at_338) rfl (teq hq).2 k) ?_
      show own_Rch p.tables e below (T8.setTop (mkF m 341 #[.val (.long q1), .second, .val (.long q3), .second, .val (.int p4), .val (.int p5), .val (.int p6), .val (.int p7), .val (.ref b), .val (.int f9), .val (.int t10), .val (.int (2 : Int32)), .val (.int t12), .val (.int t13), .val (.int t14), .val (.int t15), .val (.int t16), .val (.ref b1), .val (.int (0 : Int32))] [])) _
      refine own_via (fun t k => XS.iconst X8.here hx rfl (hb hby at_341) k) ?_
      show own_Rch p.tables e below (T8.setTop (mkF m 342 #[.val (.long q1), .second, .val (.long q3), .second, .val (.int p4), .val (.int p5), .val (.int p6), .val (.int p7), .val (.ref b), .val (.int f9), .val (.int t10), .val (.int (2 : Int32)), .val (.int t12), .val (.int t13), .val (.int t14), .val (.int t15), .val (.int t16), .val (.ref b1), .val (.int (0 : Int32))] [(.int (1 : Int32))])) _
      refine own_via (fun t k => XS.goto X8.here hx rfl (pc0 := 342) (pc' := 346) rfl (hb hby at_342) (by decide) (by decide) k) ?_
      show own_Rch p.tables e below (T8.setTop (mkF m 346 #[.val (.long q1), .second, .val (.long q3), .second, .val (.int p4), .val (.int p5), .val (.int p6), .val (.int p7), .val (.ref b), .val (.int f9), .val (.int t10), .val (.int (2 : Int32)), .val (.int t12), .val (.int t13), .val (.int t14), .val (.int t15), .val (.int t16), .val (.ref b1), .val (.int (0 : Int32))] [(.int (1 : Int32))])) _
      exact own_fin X8 hx (t := .boolean) (i := .ireturn) hret hlk rfl (Or.inl ⟨rfl, by simp, _, rfl⟩) (hb hby at_346) (by decide) (by decide) ⟨rfl, N8⟩
  · refine own_via (fun t k => XS.icmpYes X3.here hx rfl (pc0 := 227) (pc' := 322) rfl (hb hby at_227) rfl (feq c227).2 (by decide) (by decide) k) ?_
    show own_Rch p.tables e below (T3.setTop (mkF m 322 #[.val (.long q1), .second, .val (.long q3), .second, .val (.int p4), .val (.int p5), .val (.int p6), .val (.int p7), .val (.ref b), .val (.int f9), .val (.int t10), .val (.int (2 : Int32)), .val (.int t12), .val (.int t13), .val (.int t14), .val (.int t15), .val (.int t16), .val (.ref b1), .unset] [])) _
    refine own_via (fun t k => XS.iconst X3.here hx rfl (hb hby at_322) k) ?_
    show own_Rch p.tables e below (T3.setTop (mkF m 323 #[.val (.long q1), .second, .val (.long q3), .second, .val (.int p4), .val (.int p5), .val (.int p6), .val (.int p7), .val (.ref b), .val (.int f9), .val (.int t10), .val (.int (2 : Int32)), .val (.int t12), .val (.int t13), .val (.int t14), .val (.int t15), .val (.int t16), .val (.ref b1), .unset] [(.int (0 : Int32))])) _
    refine own_via (fun t k => XS.istore X3.here hx rfl (hb hby at_323) rfl (l' := #[.val (.long q1), .second, .val (.long q3), .second, .val (.int p4), .val (.int p5), .val (.int p6), .val (.int p7), .val (.ref b), .val (.int f9), .val (.int t10), .val (.int (2 : Int32)), .val (.int t12), .val (.int t13), .val (.int t14), .val (.int t15), .val (.int t16), .val (.ref b1), .val (.int (0 : Int32))]) rfl k) ?_
    show own_Rch p.tables e below (T3.setTop (mkF m 325 #[.val (.long q1), .second, .val (.long q3), .second, .val (.int p4), .val (.int p5), .val (.int p6), .val (.int p7), .val (.ref b), .val (.int f9), .val (.int t10), .val (.int (2 : Int32)), .val (.int t12), .val (.int t13), .val (.int t14), .val (.int t15), .val (.int t16), .val (.ref b1), .val (.int (0 : Int32))] [])) _
    refine own_via (fun t k => XS.aload X3.here hx rfl (hb hby at_325) rfl rfl k) ?_
    show own_Rch p.tables e below (T3.setTop (mkF m 327 #[.val (.long q1), .second, .val (.long q3), .second, .val (.int p4), .val (.int p5), .val (.int p6), .val (.int p7), .val (.ref b), .val (.int f9), .val (.int t10), .val (.int (2 : Int32)), .val (.int t12), .val (.int t13), .val (.int t14), .val (.int t15), .val (.int t16), .val (.ref b1), .val (.int (0 : Int32))] [(.ref b)])) _
    refine own_via (fun t k => XS.iload X3.here hx rfl (hb hby at_327) rfl k) ?_
    show own_Rch p.tables e below (T3.setTop (mkF m 329 #[.val (.long q1), .second, .val (.long q3), .second, .val (.int p4), .val (.int p5), .val (.int p6), .val (.int p7), .val (.ref b), .val (.int f9), .val (.int t10), .val (.int (2 : Int32)), .val (.int t12), .val (.int t13), .val (.int t14), .val (.int t15), .val (.int t16), .val (.ref b1), .val (.int (0 : Int32))] [(.int f9), (.ref b)])) _
    refine own_via (fun t k => XS.iload X3.here hx rfl (hb hby at_329) rfl k) ?_
    show own_Rch p.tables e below (T3.setTop (mkF m 331 #[.val (.long q1), .second, .val (.long q3), .second, .val (.int p4), .val (.int p5), .val (.int p6), .val (.int p7), .val (.ref b), .val (.int f9), .val (.int t10), .val (.int (2 : Int32)), .val (.int t12), .val (.int t13), .val (.int t14), .val (.int t15), .val (.int t16), .val (.ref b1), .val (.int (0 : Int32))] [(.int t10), (.int f9), (.ref b)])) _
    refine own_via (fun t k => XS.aload X3.here hx rfl (hb hby at_331) rfl rfl k) ?_
    show own_Rch p.tables e below (T3.setTop (mkF m 333 #[.val (.long q1), .second, .val (.long q3), .second, .val (.int p4), .val (.int p5), .val (.int p6), .val (.int p7), .val (.ref b), .val (.int f9), .val (.int t10), .val (.int (2 : Int32)), .val (.int t12), .val (.int t13), .val (.int t14), .val (.int t15), .val (.int t16), .val (.ref b1), .val (.int (0 : Int32))] [(.ref b1), (.int t10), (.int f9), (.ref b)])) _
    have Vt9 := V3'
    rw [hbt12, hbt13] at Vt9
    obtain ⟨_, _, ⟨T9, L9, k9, n9⟩, -, X9, ⟨Lc9, hQ9, l9, y9, z9⟩, st9⟩ := Jvm.LawKit.callS X3 hx (y := (⟨"com/example/lastkey/lastkey/exec/TextFormat", "isNull", "([BII[B)Z"⟩ : MethodName)) hown (mvT hZ (hw _ (List.mem_of_getElem? (i := 6) rfl))) (mvT hZ (hw _ (List.mem_of_getElem? (i := 7) rfl))) (mvT hZ (hw _ (List.mem_of_getElem? (i := 8) rfl))) (mvT hZ (hw _ (List.mem_of_getElem? (i := 9) rfl))) (by decide) (backOf (W := 0) (rm2_2 l Z a0 hw [] b f9 t10 b1 l_ [t12, t13] kb k1 h3 n0 (((V.ext E1).other W2 (Nat.ne_of_lt (Nat.lt_of_lt_of_le V.lt (Nat.le_of_eq g1.symm)))).other W3 (Nat.ne_of_lt (Nat.lt_of_lt_of_le V.lt (Nat.le_of_eq g1.symm)))) Vt9 i0 i1 i2) hZ (hw _ (List.mem_of_getElem? (i := 9) rfl)) (hw _ (List.mem_of_getElem? (i := 8) rfl)) (by decide) (by decide)) (g := (mkF m 333 #[.val (.long q1), .second, .val (.long q3), .second, .val (.int p4), .val (.int p5), .val (.int p6), .val (.int p7), .val (.ref b), .val (.int f9), .val (.int t10), .val (.int (2 : Int32)), .val (.int t12), .val (.int t13), .val (.int t14), .val (.int t15), .val (.int t16), .val (.ref b1), .val (.int (0 : Int32))] [(.ref b1), (.int t10), (.int f9), (.ref b)])) rfl (by rw [hml]; rfl) (argsL := [(.ref b), (.int f9), (.int t10), (.ref b1)]) (rest := []) (lenOf pd_0 rfl) rfl (by show 2 * 0 + _ ≤ _; exact Nat.le_of_eq rfl) (hb hby at_333) (fun _ _ => ⟨rfl, e3, (by decide : 2 + 0 ≤ _), (by decide : 7 + 0 ≤ _)⟩)
    dsimp only [Pt.U, Pt.locs, Pt.cells, Pt.slots] at X9 l9 y9 z9 st9 hQ9
    subst l9 y9 z9
    obtain ⟨rfl, N9q, eh9⟩ := hQ9
    have N9 := Fr.app N3 N9q
    refine own_via st9 ?_
    show own_Rch p.tables e below (T9.setTop (mkF m 336 #[.val (.long q1), .second, .val (.long q3), .second, .val (.int p4), .val (.int p5), .val (.int p6), .val (.int p7), .val (.ref b), .val (.int f9), .val (.int t10), .val (.int (2 : Int32)), .val (.int t12), .val (.int t13), .val (.int t14), .val (.int t15), .val (.int t16), .val (.ref b1), .val (.int (0 : Int32))] [(.int (own_n4_2 l_ [t12, t13] f9 t10))])) _
    refine own_via (fun t k => XS.iload X9.here hx rfl (hb hby at_336) rfl k) ?_
    show own_Rch p.tables e below (T9.setTop (mkF m 338 #[.val (.long q1), .second, .val (.long q3), .second, .val (.int p4), .val (.int p5), .val (.int p6), .val (.int p7), .val (.ref b), .val (.int f9), .val (.int t10), .val (.int (2 : Int32)), .val (.int t12), .val (.int t13), .val (.int t14), .val (.int t15), .val (.int t16), .val (.ref b1), .val (.int (0 : Int32))] [(.int (0 : Int32)), (.int (own_n4_2 l_ [t12, t13] f9 t10))])) _
    have a0_ : own_at [t12, t13] (0 : Int32) = t12 := rfl
    have a1_ : own_at [t12, t13] (1 : Int32) = t13 := rfl
    have hq : (own_n4_2 l_ [t12, t13] f9 t10) = (0 : Int32) := by simp only [own_n4_2, Int32.add_zero, a0_, a1_, if_neg c227]
    refine own_via (fun t k => XS.icmpNo X9.here hx rfl (hb hby at_338) rfl (teq hq).2 k) ?_
    show own_Rch p.tables e below (T9.setTop (mkF m 341 #[.val (.long q1), .second, .val (.long q3), .second, .val (.int p4), .val (.int p5), .val (.int p6), .val (.int p7), .val (.ref b), .val (.int f9), .val (.int t10), .val (.int (2 : Int32)), .val (.int t12), .val (.int t13), .val (.int t14), .val (.int t15), .val (.int t16), .val (.ref b1), .val (.int (0 : Int32))] [])) _
    refine own_via (fun t k => XS.iconst X9.here hx rfl (hb hby at_341) k) ?_
    show own_Rch p.tables e below (T9.setTop (mkF m 342 #[.val (.long q1), .second, .val (.long q3), .second, .val (.int p4), .val (.int p5), .val (.int p6), .val (.int p7), .val (.ref b), .val (.int f9), .val (.int t10), .val (.int (2 : Int32)), .val (.int t12), .val (.int t13), .val (.int t14), .val (.int t15), .val (.int t16), .val (.ref b1), .val (.int (0 : Int32))] [(.int (1 : Int32))])) _
    refine own_via (fun t k => XS.goto X9.here hx rfl (pc0 := 342) (pc' := 346) rfl (hb hby at_342) (by decide) (by decide) k) ?_
    show own_Rch p.tables e below (T9.setTop (mkF m 346 #[.val (.long q1), .second, .val (.long q3), .second, .val (.int p4), .val (.int p5), .val (.int p6), .val (.int p7), .val (.ref b), .val (.int f9), .val (.int t10), .val (.int (2 : Int32)), .val (.int t12), .val (.int t13), .val (.int t14), .val (.int t15), .val (.int t16), .val (.ref b1), .val (.int (0 : Int32))] [(.int (1 : Int32))])) _
    exact own_fin X9 hx (t := .boolean) (i := .ireturn) hret hlk rfl (Or.inl ⟨rfl, by simp, _, rfl⟩) (hb hby at_346) (by decide) (by decide) ⟨rfl, N9⟩
set_option maxRecDepth 65536 in
set_option maxHeartbeats 40000000 in
theorem tl_3 {p : Program} {l : Launch} {e : Env} {s : State} {m : MethodId} {args : Array Value} {below : List Frame} {meth : Method} {c : Code} {T0 : State} {locs : List Loc} {Z : State} {a0 : Array Value} {h0 : Heap} {n0 : Nat} (q1 q3 : Int64) (p4 p5 p6 p7 : Int32) (b : Addr) (f9 t10 t12 t13 t14 t15 t16 : Int32) (l_ : List Int32) (kb : ClassId)
    (X0 : Stand p l e room_1 s m args below meth c T0 locs 1 5) (hx : p.tables.exec = Jvm.exec) (hZ : Z.Warmed39 s.vm) (hw : ∀ d ∈ tables_1, d.before a0 Z = true) (hby : c.code = code) (hml : c.maxLocals = 19) (hown : s.vm.findClass "com/example/lastkey/lastkey/exec/TextFormatIsNullPinLaw" = some m.cls) (hret : meth.sig.returnType = some .boolean) (hlk : meth.locks = false) (e0 : T0.heap = h0) (N0 : Fr n0 locs) (Z0 : n0 ≤ h0.size) (V : Arv Z h0 b kb .byte (5 : Int32) (l_.map Value.int) (.int 0)) (i0 : 0 ≤ f9.toInt) (i1 : t10.toInt ≤ (5 : Int32).toInt) (i2 : 0 ≤ t10.toInt) (hbt12 : t12.toInt8.toInt32 = t12) (hbt13 : t13.toInt8.toInt32 = t13) (hbt14 : t14.toInt8.toInt32 = t14) (hbt15 : t15.toInt8.toInt32 = t15) (hbt16 : t16.toInt8.toInt32 = t16) :
    own_Rch p.tables e below (T0.setTop (mkF m 155 #[.val (.long q1), .second, .val (.long q3), .second, .val (.int p4), .val (.int p5), .val (.int p6), .val (.int p7), .val (.ref b), .val (.int f9), .val (.int t10), .val (.int (3 : Int32)), .val (.int t12), .val (.int t13), .val (.int t14), .val (.int t15), .val (.int t16), .unset, .unset] [])) (own_End s (Q0 n0) room_1.cells room_1.slots) := by
  show own_Rch p.tables e below (T0.setTop (mkF m 155 #[.val (.long q1), .second, .val (.long q3), .second, .val (.int p4), .val (.int p5), .val (.int p6), .val (.int p7), .val (.ref b), .val (.int f9), .val (.int t10), .val (.int (3 : Int32)), .val (.int t12), .val (.int t13), .val (.int t14), .val (.int t15), .val (.int t16), .unset, .unset] [])) _
  refine own_via (fun t k => XS.iload X0.here hx rfl (hb hby at_155) rfl k) ?_
  show own_Rch p.tables e below (T0.setTop (mkF m 157 #[.val (.long q1), .second, .val (.long q3), .second, .val (.int p4), .val (.int p5), .val (.int p6), .val (.int p7), .val (.ref b), .val (.int f9), .val (.int t10), .val (.int (3 : Int32)), .val (.int t12), .val (.int t13), .val (.int t14), .val (.int t15), .val (.int t16), .unset, .unset] [(.int (3 : Int32))])) _
  obtain ⟨T1, h1, k1, X1, e1, E1, A1, st1⟩ := newP X0 hx hZ (hw _ (List.mem_of_getElem? (i := 0) rfl)) e0 (g := (mkF m 157 #[.val (.long q1), .second, .val (.long q3), .second, .val (.int p4), .val (.int p5), .val (.int p6), .val (.int p7), .val (.ref b), .val (.int f9), .val (.int t10), .val (.int (3 : Int32)), .val (.int t12), .val (.int t13), .val (.int t14), .val (.int t15), .val (.int t16), .unset, .unset] [(.int (3 : Int32))])) rfl (hb hby at_157) rfl (by decide) (cap := 3) (by decide) (by decide) (by decide) (by decide)
  obtain ⟨b1, g1⟩ : ∃ z, z = h0.size := ⟨_, rfl⟩
  rw [← g1] at A1 st1
  have g_b1 : n0 ≤ b1 := Nat.le_trans Z0 (Nat.le_of_eq g1.symm)
  have V1 : Arv Z h1 b1 k1 .byte (3 : Int32) [(.int (0 : Int32)), (.int (0 : Int32)), (.int (0 : Int32))] (.int (0 : Int32)) := (Arv.new A1 (by decide)).pad (pad_rep [] (.int (0 : Int32)) 3)
  refine own_via st1 ?_
  show own_Rch p.tables e below (T1.setTop (mkF m 159 #[.val (.long q1), .second, .val (.long q3), .second, .val (.int p4), .val (.int p5), .val (.int p6), .val (.int p7), .val (.ref b), .val (.int f9), .val (.int t10), .val (.int (3 : Int32)), .val (.int t12), .val (.int t13), .val (.int t14), .val (.int t15), .val (.int t16), .unset, .unset] [(.ref b1)])) _
  refine own_via (fun t k => XS.astore X1.here hx rfl (hb hby at_159) rfl rfl (l' := #[.val (.long q1), .second, .val (.long q3), .second, .val (.int p4), .val (.int p5), .val (.int p6), .val (.int p7), .val (.ref b), .val (.int f9), .val (.int t10), .val (.int (3 : Int32)), .val (.int t12), .val (.int t13), .val (.int t14), .val (.int t15), .val (.int t16), .val (.ref b1), .unset]) rfl k) ?_
  show own_Rch p.tables e below (T1.setTop (mkF m 161 #[.val (.long q1), .second, .val (.long q3), .second, .val (.int p4), .val (.int p5), .val (.int p6), .val (.int p7), .val (.ref b), .val (.int f9), .val (.int t10), .val (.int (3 : Int32)), .val (.int t12), .val (.int t13), .val (.int t14), .val (.int t15), .val (.int t16), .val (.ref b1), .unset] [])) _
  refine own_via (fun t k => XS.iload X1.here hx rfl (hb hby at_161) rfl k) ?_
  show own_Rch p.tables e below (T1.setTop (mkF m 163 #[.val (.long q1), .second, .val (.long q3), .second, .val (.int p4), .val (.int p5), .val (.int p6), .val (.int p7), .val (.ref b), .val (.int f9), .val (.int t10), .val (.int (3 : Int32)), .val (.int t12), .val (.int t13), .val (.int t14), .val (.int t15), .val (.int t16), .val (.ref b1), .unset] [(.int (3 : Int32))])) _
  refine own_via (fun t k => XS.ifNo X1.here hx rfl (hb hby at_163) rfl ((if0 _ _).trans (tlt (by decide : (0 : Int32) < (3 : Int32))).2.2.2) k) ?_
  show own_Rch p.tables e below (T1.setTop (mkF m 166 #[.val (.long q1), .second, .val (.long q3), .second, .val (.int p4), .val (.int p5), .val (.int p6), .val (.int p7), .val (.ref b), .val (.int f9), .val (.int t10), .val (.int (3 : Int32)), .val (.int t12), .val (.int t13), .val (.int t14), .val (.int t15), .val (.int t16), .val (.ref b1), .unset] [])) _
  refine own_via (fun t k => XS.aload X1.here hx rfl (hb hby at_166) rfl rfl k) ?_
  show own_Rch p.tables e below (T1.setTop (mkF m 168 #[.val (.long q1), .second, .val (.long q3), .second, .val (.int p4), .val (.int p5), .val (.int p6), .val (.int p7), .val (.ref b), .val (.int f9), .val (.int t10), .val (.int (3 : Int32)), .val (.int t12), .val (.int t13), .val (.int t14), .val (.int t15), .val (.int t16), .val (.ref b1), .unset] [(.ref b1)])) _
  refine own_via (fun t k => XS.iconst X1.here hx rfl (hb hby at_168) k) ?_
  show own_Rch p.tables e below (T1.setTop (mkF m 169 #[.val (.long q1), .second, .val (.long q3), .second, .val (.int p4), .val (.int p5), .val (.int p6), .val (.int p7), .val (.ref b), .val (.int f9), .val (.int t10), .val (.int (3 : Int32)), .val (.int t12), .val (.int t13), .val (.int t14), .val (.int t15), .val (.int t16), .val (.ref b1), .unset] [(.int (0 : Int32)), (.ref b1)])) _
  refine own_via (fun t k => XS.iload X1.here hx rfl (hb hby at_169) rfl k) ?_
  show own_Rch p.tables e below (T1.setTop (mkF m 171 #[.val (.long q1), .second, .val (.long q3), .second, .val (.int p4), .val (.int p5), .val (.int p6), .val (.int p7), .val (.ref b), .val (.int f9), .val (.int t10), .val (.int (3 : Int32)), .val (.int t12), .val (.int t13), .val (.int t14), .val (.int t15), .val (.int t16), .val (.ref b1), .unset] [(.int t12), (.int (0 : Int32)), (.ref b1)])) _
  obtain ⟨cl2, Ar2, cq_2, S2, M2, H2, G2⟩ := V1
  have hin2 : ¬ ((0 : Int32) < 0 ∨ cl2.slots.size ≤ ((0 : Int32)).toNatClampNeg) := inb_of S2 ⟨by decide, by decide⟩
  obtain ⟨T2, h2, X2, e2, W2, st2⟩ := stB X1 hx hZ e1 Ar2 (j := (0 : Int32)) hin2 (g := (mkF m 171 #[.val (.long q1), .second, .val (.long q3), .second, .val (.int p4), .val (.int p5), .val (.int p6), .val (.int p7), .val (.ref b), .val (.int f9), .val (.int t10), .val (.int (3 : Int32)), .val (.int t12), .val (.int t13), .val (.int t14), .val (.int t15), .val (.int t16), .val (.ref b1), .unset] [(.int t12), (.int (0 : Int32)), (.ref b1)])) rfl rfl (hb hby at_171)
  have V2 := Arv.set Ar2 cq_2 S2 M2 H2 G2 (fits_nar_byte _) W2 0 rfl (Nat.le_of_ble_eq_true rfl)
  have V2' : Arv Z h2 b1 k1 .byte (3 : Int32) [(.int (t12.toInt8.toInt32)), (.int (0 : Int32)), (.int (0 : Int32))] (.int (0 : Int32)) := V2
  have N2 := Fr.snoc X2 N0 g_b1
  refine own_via st2 ?_
  show own_Rch p.tables e below (T2.setTop (mkF m 172 #[.val (.long q1), .second, .val (.long q3), .second, .val (.int p4), .val (.int p5), .val (.int p6), .val (.int p7), .val (.ref b), .val (.int f9), .val (.int t10), .val (.int (3 : Int32)), .val (.int t12), .val (.int t13), .val (.int t14), .val (.int t15), .val (.int t16), .val (.ref b1), .unset] [])) _
  refine own_via (fun t k => XS.iload X2.here hx rfl (hb hby at_172) rfl k) ?_
  show own_Rch p.tables e below (T2.setTop (mkF m 174 #[.val (.long q1), .second, .val (.long q3), .second, .val (.int p4), .val (.int p5), .val (.int p6), .val (.int p7), .val (.ref b), .val (.int f9), .val (.int t10), .val (.int (3 : Int32)), .val (.int t12), .val (.int t13), .val (.int t14), .val (.int t15), .val (.int t16), .val (.ref b1), .unset] [(.int (3 : Int32))])) _
  refine own_via (fun t k => XS.iconst X2.here hx rfl (hb hby at_174) k) ?_
  show own_Rch p.tables e below (T2.setTop (mkF m 175 #[.val (.long q1), .second, .val (.long q3), .second, .val (.int p4), .val (.int p5), .val (.int p6), .val (.int p7), .val (.ref b), .val (.int f9), .val (.int t10), .val (.int (3 : Int32)), .val (.int t12), .val (.int t13), .val (.int t14), .val (.int t15), .val (.int t16), .val (.ref b1), .unset] [(.int (1 : Int32)), (.int (3 : Int32))])) _
  refine own_via (fun t k => XS.icmpNo X2.here hx rfl (hb hby at_175) rfl (tlt (by decide : (1 : Int32) < (3 : Int32))).2.2.2 k) ?_
  show own_Rch p.tables e below (T2.setTop (mkF m 178 #[.val (.long q1), .second, .val (.long q3), .second, .val (.int p4), .val (.int p5), .val (.int p6), .val (.int p7), .val (.ref b), .val (.int f9), .val (.int t10), .val (.int (3 : Int32)), .val (.int t12), .val (.int t13), .val (.int t14), .val (.int t15), .val (.int t16), .val (.ref b1), .unset] [])) _
  refine own_via (fun t k => XS.aload X2.here hx rfl (hb hby at_178) rfl rfl k) ?_
  show own_Rch p.tables e below (T2.setTop (mkF m 180 #[.val (.long q1), .second, .val (.long q3), .second, .val (.int p4), .val (.int p5), .val (.int p6), .val (.int p7), .val (.ref b), .val (.int f9), .val (.int t10), .val (.int (3 : Int32)), .val (.int t12), .val (.int t13), .val (.int t14), .val (.int t15), .val (.int t16), .val (.ref b1), .unset] [(.ref b1)])) _
  refine own_via (fun t k => XS.iconst X2.here hx rfl (hb hby at_180) k) ?_
  show own_Rch p.tables e below (T2.setTop (mkF m 181 #[.val (.long q1), .second, .val (.long q3), .second, .val (.int p4), .val (.int p5), .val (.int p6), .val (.int p7), .val (.ref b), .val (.int f9), .val (.int t10), .val (.int (3 : Int32)), .val (.int t12), .val (.int t13), .val (.int t14), .val (.int t15), .val (.int t16), .val (.ref b1), .unset] [(.int (1 : Int32)), (.ref b1)])) _
  refine own_via (fun t k => XS.iload X2.here hx rfl (hb hby at_181) rfl k) ?_
  show own_Rch p.tables e below (T2.setTop (mkF m 183 #[.val (.long q1), .second, .val (.long q3), .second, .val (.int p4), .val (.int p5), .val (.int p6), .val (.int p7), .val (.ref b), .val (.int f9), .val (.int t10), .val (.int (3 : Int32)), .val (.int t12), .val (.int t13), .val (.int t14), .val (.int t15), .val (.int t16), .val (.ref b1), .unset] [(.int t13), (.int (1 : Int32)), (.ref b1)])) _
  obtain ⟨cl3, Ar3, cq_3, S3, M3, H3, G3⟩ := V2'
  have hin3 : ¬ ((1 : Int32) < 0 ∨ cl3.slots.size ≤ ((1 : Int32)).toNatClampNeg) := inb_of S3 ⟨by decide, by decide⟩
  obtain ⟨T3, h3, X3, e3, W3, st3⟩ := stB X2 hx hZ e2 Ar3 (j := (1 : Int32)) hin3 (g := (mkF m 183 #[.val (.long q1), .second, .val (.long q3), .second, .val (.int p4), .val (.int p5), .val (.int p6), .val (.int p7), .val (.ref b), .val (.int f9), .val (.int t10), .val (.int (3 : Int32)), .val (.int t12), .val (.int t13), .val (.int t14), .val (.int t15), .val (.int t16), .val (.ref b1), .unset] [(.int t13), (.int (1 : Int32)), (.ref b1)])) rfl rfl (hb hby at_183)
  have V3 := Arv.set Ar3 cq_3 S3 M3 H3 G3 (fits_nar_byte _) W3 1 rfl (Nat.le_of_ble_eq_true rfl)
  have V3' : Arv Z h3 b1 k1 .byte (3 : Int32) [(.int (t12.toInt8.toInt32)), (.int (t13.toInt8.toInt32)), (.int (0 : Int32))] (.int (0 : Int32)) := V3
  have N3 := Fr.snoc X3 N2 g_b1
  refine own_via st3 ?_
  show own_Rch p.tables e below (T3.setTop (mkF m 184 #[.val (.long q1), .second, .val (.long q3), .second, .val (.int p4), .val (.int p5), .val (.int p6), .val (.int p7), .val (.ref b), .val (.int f9), .val (.int t10), .val (.int (3 : Int32)), .val (.int t12), .val (.int t13), .val (.int t14), .val (.int t15), .val (.int t16), .val (.ref b1), .unset] [])) _
  refine own_via (fun t k => XS.iload X3.here hx rfl (hb hby at_184) rfl k) ?_
  show own_Rch p.tables e below (T3.setTop (mkF m 186 #[.val (.long q1), .second, .val (.long q3), .second, .val (.int p4), .val (.int p5), .val (.int p6), .val (.int p7), .val (.ref b), .val (.int f9), .val (.int t10), .val (.int (3 : Int32)), .val (.int t12), .val (.int t13), .val (.int t14), .val (.int t15), .val (.int t16), .val (.ref b1), .unset] [(.int (3 : Int32))])) _
  refine own_via (fun t k => XS.iconst X3.here hx rfl (hb hby at_186) k) ?_
  show own_Rch p.tables e below (T3.setTop (mkF m 187 #[.val (.long q1), .second, .val (.long q3), .second, .val (.int p4), .val (.int p5), .val (.int p6), .val (.int p7), .val (.ref b), .val (.int f9), .val (.int t10), .val (.int (3 : Int32)), .val (.int t12), .val (.int t13), .val (.int t14), .val (.int t15), .val (.int t16), .val (.ref b1), .unset] [(.int (2 : Int32)), (.int (3 : Int32))])) _
  refine own_via (fun t k => XS.icmpNo X3.here hx rfl (hb hby at_187) rfl (tlt (by decide : (2 : Int32) < (3 : Int32))).2.2.2 k) ?_
  show own_Rch p.tables e below (T3.setTop (mkF m 190 #[.val (.long q1), .second, .val (.long q3), .second, .val (.int p4), .val (.int p5), .val (.int p6), .val (.int p7), .val (.ref b), .val (.int f9), .val (.int t10), .val (.int (3 : Int32)), .val (.int t12), .val (.int t13), .val (.int t14), .val (.int t15), .val (.int t16), .val (.ref b1), .unset] [])) _
  refine own_via (fun t k => XS.aload X3.here hx rfl (hb hby at_190) rfl rfl k) ?_
  show own_Rch p.tables e below (T3.setTop (mkF m 192 #[.val (.long q1), .second, .val (.long q3), .second, .val (.int p4), .val (.int p5), .val (.int p6), .val (.int p7), .val (.ref b), .val (.int f9), .val (.int t10), .val (.int (3 : Int32)), .val (.int t12), .val (.int t13), .val (.int t14), .val (.int t15), .val (.int t16), .val (.ref b1), .unset] [(.ref b1)])) _
  refine own_via (fun t k => XS.iconst X3.here hx rfl (hb hby at_192) k) ?_
  show own_Rch p.tables e below (T3.setTop (mkF m 193 #[.val (.long q1), .second, .val (.long q3), .second, .val (.int p4), .val (.int p5), .val (.int p6), .val (.int p7), .val (.ref b), .val (.int f9), .val (.int t10), .val (.int (3 : Int32)), .val (.int t12), .val (.int t13), .val (.int t14), .val (.int t15), .val (.int t16), .val (.ref b1), .unset] [(.int (2 : Int32)), (.ref b1)])) _
  refine own_via (fun t k => XS.iload X3.here hx rfl (hb hby at_193) rfl k) ?_
  show own_Rch p.tables e below (T3.setTop (mkF m 195 #[.val (.long q1), .second, .val (.long q3), .second, .val (.int p4), .val (.int p5), .val (.int p6), .val (.int p7), .val (.ref b), .val (.int f9), .val (.int t10), .val (.int (3 : Int32)), .val (.int t12), .val (.int t13), .val (.int t14), .val (.int t15), .val (.int t16), .val (.ref b1), .unset] [(.int t14), (.int (2 : Int32)), (.ref b1)])) _
  obtain ⟨cl4, Ar4, cq_4, S4, M4, H4, G4⟩ := V3'
  have hin4 : ¬ ((2 : Int32) < 0 ∨ cl4.slots.size ≤ ((2 : Int32)).toNatClampNeg) := inb_of S4 ⟨by decide, by decide⟩
  obtain ⟨T4, h4, X4, e4, W4, st4⟩ := stB X3 hx hZ e3 Ar4 (j := (2 : Int32)) hin4 (g := (mkF m 195 #[.val (.long q1), .second, .val (.long q3), .second, .val (.int p4), .val (.int p5), .val (.int p6), .val (.int p7), .val (.ref b), .val (.int f9), .val (.int t10), .val (.int (3 : Int32)), .val (.int t12), .val (.int t13), .val (.int t14), .val (.int t15), .val (.int t16), .val (.ref b1), .unset] [(.int t14), (.int (2 : Int32)), (.ref b1)])) rfl rfl (hb hby at_195)
  have V4 := Arv.set Ar4 cq_4 S4 M4 H4 G4 (fits_nar_byte _) W4 2 rfl (Nat.le_of_ble_eq_true rfl)
  have V4' : Arv Z h4 b1 k1 .byte (3 : Int32) [(.int (t12.toInt8.toInt32)), (.int (t13.toInt8.toInt32)), (.int (t14.toInt8.toInt32))] (.int (0 : Int32)) := V4
  have N4 := Fr.snoc X4 N3 g_b1
  refine own_via st4 ?_
  show own_Rch p.tables e below (T4.setTop (mkF m 196 #[.val (.long q1), .second, .val (.long q3), .second, .val (.int p4), .val (.int p5), .val (.int p6), .val (.int p7), .val (.ref b), .val (.int f9), .val (.int t10), .val (.int (3 : Int32)), .val (.int t12), .val (.int t13), .val (.int t14), .val (.int t15), .val (.int t16), .val (.ref b1), .unset] [])) _
  refine own_via (fun t k => XS.iload X4.here hx rfl (hb hby at_196) rfl k) ?_
  show own_Rch p.tables e below (T4.setTop (mkF m 198 #[.val (.long q1), .second, .val (.long q3), .second, .val (.int p4), .val (.int p5), .val (.int p6), .val (.int p7), .val (.ref b), .val (.int f9), .val (.int t10), .val (.int (3 : Int32)), .val (.int t12), .val (.int t13), .val (.int t14), .val (.int t15), .val (.int t16), .val (.ref b1), .unset] [(.int (3 : Int32))])) _
  refine own_via (fun t k => XS.iconst X4.here hx rfl (hb hby at_198) k) ?_
  show own_Rch p.tables e below (T4.setTop (mkF m 199 #[.val (.long q1), .second, .val (.long q3), .second, .val (.int p4), .val (.int p5), .val (.int p6), .val (.int p7), .val (.ref b), .val (.int f9), .val (.int t10), .val (.int (3 : Int32)), .val (.int t12), .val (.int t13), .val (.int t14), .val (.int t15), .val (.int t16), .val (.ref b1), .unset] [(.int (3 : Int32)), (.int (3 : Int32))])) _
  refine own_via (fun t k => XS.icmpYes X4.here hx rfl (pc0 := 199) (pc' := 208) rfl (hb hby at_199) rfl (flt (by decide : ¬ ((3 : Int32) < (3 : Int32)))).2.2.2 (by decide) (by decide) k) ?_
  show own_Rch p.tables e below (T4.setTop (mkF m 208 #[.val (.long q1), .second, .val (.long q3), .second, .val (.int p4), .val (.int p5), .val (.int p6), .val (.int p7), .val (.ref b), .val (.int f9), .val (.int t10), .val (.int (3 : Int32)), .val (.int t12), .val (.int t13), .val (.int t14), .val (.int t15), .val (.int t16), .val (.ref b1), .unset] [])) _
  refine own_via (fun t k => XS.iload X4.here hx rfl (hb hby at_208) rfl k) ?_
  show own_Rch p.tables e below (T4.setTop (mkF m 210 #[.val (.long q1), .second, .val (.long q3), .second, .val (.int p4), .val (.int p5), .val (.int p6), .val (.int p7), .val (.ref b), .val (.int f9), .val (.int t10), .val (.int (3 : Int32)), .val (.int t12), .val (.int t13), .val (.int t14), .val (.int t15), .val (.int t16), .val (.ref b1), .unset] [(.int (3 : Int32))])) _
  refine own_via (fun t k => XS.iconst X4.here hx rfl (hb hby at_210) k) ?_
  show own_Rch p.tables e below (T4.setTop (mkF m 211 #[.val (.long q1), .second, .val (.long q3), .second, .val (.int p4), .val (.int p5), .val (.int p6), .val (.int p7), .val (.ref b), .val (.int f9), .val (.int t10), .val (.int (3 : Int32)), .val (.int t12), .val (.int t13), .val (.int t14), .val (.int t15), .val (.int t16), .val (.ref b1), .unset] [(.int (4 : Int32)), (.int (3 : Int32))])) _
  refine own_via (fun t k => XS.icmpYes X4.here hx rfl (pc0 := 211) (pc' := 220) rfl (hb hby at_211) rfl (flt (by decide : ¬ ((4 : Int32) < (3 : Int32)))).2.2.2 (by decide) (by decide) k) ?_
  show own_Rch p.tables e below (T4.setTop (mkF m 220 #[.val (.long q1), .second, .val (.long q3), .second, .val (.int p4), .val (.int p5), .val (.int p6), .val (.int p7), .val (.ref b), .val (.int f9), .val (.int t10), .val (.int (3 : Int32)), .val (.int t12), .val (.int t13), .val (.int t14), .val (.int t15), .val (.int t16), .val (.ref b1), .unset] [])) _
  refine own_via (fun t k => XS.iload X4.here hx rfl (hb hby at_220) rfl k) ?_
  show own_Rch p.tables e below (T4.setTop (mkF m 222 #[.val (.long q1), .second, .val (.long q3), .second, .val (.int p4), .val (.int p5), .val (.int p6), .val (.int p7), .val (.ref b), .val (.int f9), .val (.int t10), .val (.int (3 : Int32)), .val (.int t12), .val (.int t13), .val (.int t14), .val (.int t15), .val (.int t16), .val (.ref b1), .unset] [(.int t10)])) _
  refine own_via (fun t k => XS.iload X4.here hx rfl (hb hby at_222) rfl k) ?_
  show own_Rch p.tables e below (T4.setTop (mkF m 224 #[.val (.long q1), .second, .val (.long q3), .second, .val (.int p4), .val (.int p5), .val (.int p6), .val (.int p7), .val (.ref b), .val (.int f9), .val (.int t10), .val (.int (3 : Int32)), .val (.int t12), .val (.int t13), .val (.int t14), .val (.int t15), .val (.int t16), .val (.ref b1), .unset] [(.int f9), (.int t10)])) _
  refine own_via (fun t k => XS.isub X4.here hx rfl (hb hby at_224) rfl k) ?_
  show own_Rch p.tables e below (T4.setTop (mkF m 225 #[.val (.long q1), .second, .val (.long q3), .second, .val (.int p4), .val (.int p5), .val (.int p6), .val (.int p7), .val (.ref b), .val (.int f9), .val (.int t10), .val (.int (3 : Int32)), .val (.int t12), .val (.int t13), .val (.int t14), .val (.int t15), .val (.int t16), .val (.ref b1), .unset] [(.int (t10 - f9))])) _
  refine own_via (fun t k => XS.iload X4.here hx rfl (hb hby at_225) rfl k) ?_
  show own_Rch p.tables e below (T4.setTop (mkF m 227 #[.val (.long q1), .second, .val (.long q3), .second, .val (.int p4), .val (.int p5), .val (.int p6), .val (.int p7), .val (.ref b), .val (.int f9), .val (.int t10), .val (.int (3 : Int32)), .val (.int t12), .val (.int t13), .val (.int t14), .val (.int t15), .val (.int t16), .val (.ref b1), .unset] [(.int (3 : Int32)), (.int (t10 - f9))])) _
  by_cases c227 : (t10 - f9) = (3 : Int32)
  · refine own_via (fun t k => XS.icmpNo X4.here hx rfl (hb hby at_227) rfl (teq c227).2 k) ?_
    show own_Rch p.tables e below (T4.setTop (mkF m 230 #[.val (.long q1), .second, .val (.long q3), .second, .val (.int p4), .val (.int p5), .val (.int p6), .val (.int p7), .val (.ref b), .val (.int f9), .val (.int t10), .val (.int (3 : Int32)), .val (.int t12), .val (.int t13), .val (.int t14), .val (.int t15), .val (.int t16), .val (.ref b1), .unset] [])) _
    refine own_via (fun t k => XS.iload X4.here hx rfl (hb hby at_230) rfl k) ?_
    show own_Rch p.tables e below (T4.setTop (mkF m 232 #[.val (.long q1), .second, .val (.long q3), .second, .val (.int p4), .val (.int p5), .val (.int p6), .val (.int p7), .val (.ref b), .val (.int f9), .val (.int t10), .val (.int (3 : Int32)), .val (.int t12), .val (.int t13), .val (.int t14), .val (.int t15), .val (.int t16), .val (.ref b1), .unset] [(.int (3 : Int32))])) _
    refine own_via (fun t k => XS.iconst X4.here hx rfl (hb hby at_232) k) ?_
    show own_Rch p.tables e below (T4.setTop (mkF m 233 #[.val (.long q1), .second, .val (.long q3), .second, .val (.int p4), .val (.int p5), .val (.int p6), .val (.int p7), .val (.ref b), .val (.int f9), .val (.int t10), .val (.int (3 : Int32)), .val (.int t12), .val (.int t13), .val (.int t14), .val (.int t15), .val (.int t16), .val (.ref b1), .unset] [(.int (1 : Int32)), (.int (3 : Int32))])) _
    refine own_via (fun t k => XS.icmpNo X4.here hx rfl (hb hby at_233) rfl (flt (by decide : ¬ ((3 : Int32) < (1 : Int32)))).1 k) ?_
    show own_Rch p.tables e below (T4.setTop (mkF m 236 #[.val (.long q1), .second, .val (.long q3), .second, .val (.int p4), .val (.int p5), .val (.int p6), .val (.int p7), .val (.ref b), .val (.int f9), .val (.int t10), .val (.int (3 : Int32)), .val (.int t12), .val (.int t13), .val (.int t14), .val (.int t15), .val (.int t16), .val (.ref b1), .unset] [])) _
    refine own_via (fun t k => XS.aload X4.here hx rfl (hb hby at_236) rfl rfl k) ?_
    show own_Rch p.tables e below (T4.setTop (mkF m 238 #[.val (.long q1), .second, .val (.long q3), .second, .val (.int p4), .val (.int p5), .val (.int p6), .val (.int p7), .val (.ref b), .val (.int f9), .val (.int t10), .val (.int (3 : Int32)), .val (.int t12), .val (.int t13), .val (.int t14), .val (.int t15), .val (.int t16), .val (.ref b1), .unset] [(.ref b)])) _
    refine own_via (fun t k => XS.iload X4.here hx rfl (hb hby at_238) rfl k) ?_
    show own_Rch p.tables e below (T4.setTop (mkF m 240 #[.val (.long q1), .second, .val (.long q3), .second, .val (.int p4), .val (.int p5), .val (.int p6), .val (.int p7), .val (.ref b), .val (.int f9), .val (.int t10), .val (.int (3 : Int32)), .val (.int t12), .val (.int t13), .val (.int t14), .val (.int t15), .val (.int t16), .val (.ref b1), .unset] [(.int f9), (.ref b)])) _
    obtain ⟨cl5, Ar5, -, S5, M5, H5, -⟩ := id ((((V.ext E1).other W2 (Nat.ne_of_lt (Nat.lt_of_lt_of_le V.lt (Nat.le_of_eq g1.symm)))).other W3 (Nat.ne_of_lt (Nat.lt_of_lt_of_le V.lt (Nat.le_of_eq g1.symm)))).other W4 (Nat.ne_of_lt (Nat.lt_of_lt_of_le V.lt (Nat.le_of_eq g1.symm))))
    have hin5 : ¬ (f9 < 0 ∨ cl5.slots.size ≤ (f9).toNatClampNeg) := inb_of S5 (own_inz f9 t10 (3 : Int32) (5 : Int32) i0 i1 i2 c227 (by decide))
    have hat5 : cl5.slots[(f9).toNatClampNeg]? = some (.int (own_at l_ f9)) := Has.at H5 hin5 (own_getI l_ _)
    refine own_via (X4.baloadBytes hx (j := f9) (v := (.int (own_at l_ f9))) (by rw [e4]; exact Ar5.1) (State.isArrayOf_alike hZ.alike Ar5.2.1) Ar5.2.2 hin5 hat5 (g := (mkF m 240 #[.val (.long q1), .second, .val (.long q3), .second, .val (.int p4), .val (.int p5), .val (.int p6), .val (.int p7), .val (.ref b), .val (.int f9), .val (.int t10), .val (.int (3 : Int32)), .val (.int t12), .val (.int t13), .val (.int t14), .val (.int t15), .val (.int t16), .val (.ref b1), .unset] [(.int f9), (.ref b)])) rfl rfl (hb hby at_240)) ?_
    show own_Rch p.tables e below (T4.setTop (mkF m 241 #[.val (.long q1), .second, .val (.long q3), .second, .val (.int p4), .val (.int p5), .val (.int p6), .val (.int p7), .val (.ref b), .val (.int f9), .val (.int t10), .val (.int (3 : Int32)), .val (.int t12), .val (.int t13), .val (.int t14), .val (.int t15), .val (.int t16), .val (.ref b1), .unset] [(.int (own_at l_ f9))])) _
    refine own_via (fun t k => XS.iload X4.here hx rfl (hb hby at_241) rfl k) ?_
    show own_Rch p.tables e below (T4.setTop (mkF m 243 #[.val (.long q1), .second, .val (.long q3), .second, .val (.int p4), .val (.int p5), .val (.int p6), .val (.int p7), .val (.ref b), .val (.int f9), .val (.int t10), .val (.int (3 : Int32)), .val (.int t12), .val (.int t13), .val (.int t14), .val (.int t15), .val (.int t16), .val (.ref b1), .unset] [(.int t12), (.int (own_at l_ f9))])) _
    by_cases c243 : (own_at l_ f9) = t12
    · refine own_via (fun t k => XS.icmpNo X4.here hx rfl (hb hby at_243) rfl (teq c243).2 k) ?_
      show own_Rch p.tables e below (T4.setTop (mkF m 246 #[.val (.long q1), .second, .val (.long q3), .second, .val (.int p4), .val (.int p5), .val (.int p6), .val (.int p7), .val (.ref b), .val (.int f9), .val (.int t10), .val (.int (3 : Int32)), .val (.int t12), .val (.int t13), .val (.int t14), .val (.int t15), .val (.int t16), .val (.ref b1), .unset] [])) _
      refine own_via (fun t k => XS.iload X4.here hx rfl (hb hby at_246) rfl k) ?_
      show own_Rch p.tables e below (T4.setTop (mkF m 248 #[.val (.long q1), .second, .val (.long q3), .second, .val (.int p4), .val (.int p5), .val (.int p6), .val (.int p7), .val (.ref b), .val (.int f9), .val (.int t10), .val (.int (3 : Int32)), .val (.int t12), .val (.int t13), .val (.int t14), .val (.int t15), .val (.int t16), .val (.ref b1), .unset] [(.int (3 : Int32))])) _
      refine own_via (fun t k => XS.iconst X4.here hx rfl (hb hby at_248) k) ?_
      show own_Rch p.tables e below (T4.setTop (mkF m 249 #[.val (.long q1), .second, .val (.long q3), .second, .val (.int p4), .val (.int p5), .val (.int p6), .val (.int p7), .val (.ref b), .val (.int f9), .val (.int t10), .val (.int (3 : Int32)), .val (.int t12), .val (.int t13), .val (.int t14), .val (.int t15), .val (.int t16), .val (.ref b1), .unset] [(.int (2 : Int32)), (.int (3 : Int32))])) _
      refine own_via (fun t k => XS.icmpNo X4.here hx rfl (hb hby at_249) rfl (flt (by decide : ¬ ((3 : Int32) < (2 : Int32)))).1 k) ?_
      show own_Rch p.tables e below (T4.setTop (mkF m 252 #[.val (.long q1), .second, .val (.long q3), .second, .val (.int p4), .val (.int p5), .val (.int p6), .val (.int p7), .val (.ref b), .val (.int f9), .val (.int t10), .val (.int (3 : Int32)), .val (.int t12), .val (.int t13), .val (.int t14), .val (.int t15), .val (.int t16), .val (.ref b1), .unset] [])) _
      refine own_via (fun t k => XS.aload X4.here hx rfl (hb hby at_252) rfl rfl k) ?_
      show own_Rch p.tables e below (T4.setTop (mkF m 254 #[.val (.long q1), .second, .val (.long q3), .second, .val (.int p4), .val (.int p5), .val (.int p6), .val (.int p7), .val (.ref b), .val (.int f9), .val (.int t10), .val (.int (3 : Int32)), .val (.int t12), .val (.int t13), .val (.int t14), .val (.int t15), .val (.int t16), .val (.ref b1), .unset] [(.ref b)])) _
      refine own_via (fun t k => XS.iload X4.here hx rfl (hb hby at_254) rfl k) ?_
      show own_Rch p.tables e below (T4.setTop (mkF m 256 #[.val (.long q1), .second, .val (.long q3), .second, .val (.int p4), .val (.int p5), .val (.int p6), .val (.int p7), .val (.ref b), .val (.int f9), .val (.int t10), .val (.int (3 : Int32)), .val (.int t12), .val (.int t13), .val (.int t14), .val (.int t15), .val (.int t16), .val (.ref b1), .unset] [(.int f9), (.ref b)])) _
      refine own_via (fun t k => XS.iconst X4.here hx rfl (hb hby at_256) k) ?_
      show own_Rch p.tables e below (T4.setTop (mkF m 257 #[.val (.long q1), .second, .val (.long q3), .second, .val (.int p4), .val (.int p5), .val (.int p6), .val (.int p7), .val (.ref b), .val (.int f9), .val (.int t10), .val (.int (3 : Int32)), .val (.int t12), .val (.int t13), .val (.int t14), .val (.int t15), .val (.int t16), .val (.ref b1), .unset] [(.int (1 : Int32)), (.int f9), (.ref b)])) _
      refine own_via (fun t k => XS.iadd X4.here hx rfl (hb hby at_257) rfl k) ?_
      show own_Rch p.tables e below (T4.setTop (mkF m 258 #[.val (.long q1), .second, .val (.long q3), .second, .val (.int p4), .val (.int p5), .val (.int p6), .val (.int p7), .val (.ref b), .val (.int f9), .val (.int t10), .val (.int (3 : Int32)), .val (.int t12), .val (.int t13), .val (.int t14), .val (.int t15), .val (.int t16), .val (.ref b1), .unset] [(.int (f9 + (1 : Int32))), (.ref b)])) _
      obtain ⟨cl6, Ar6, -, S6, M6, H6, -⟩ := id ((((V.ext E1).other W2 (Nat.ne_of_lt (Nat.lt_of_lt_of_le V.lt (Nat.le_of_eq g1.symm)))).other W3 (Nat.ne_of_lt (Nat.lt_of_lt_of_le V.lt (Nat.le_of_eq g1.symm)))).other W4 (Nat.ne_of_lt (Nat.lt_of_lt_of_le V.lt (Nat.le_of_eq g1.symm))))
      have hin6 : ¬ ((f9 + (1 : Int32)) < 0 ∨ cl6.slots.size ≤ ((f9 + (1 : Int32))).toNatClampNeg) := inb_of S6 (own_in f9 t10 (3 : Int32) (1 : Int32) (5 : Int32) i0 i1 i2 c227 (by decide) (by decide))
      have hat6 : cl6.slots[((f9 + (1 : Int32))).toNatClampNeg]? = some (.int (own_at l_ (f9 + (1 : Int32)))) := Has.at H6 hin6 (own_getI l_ _)
      refine own_via (X4.baloadBytes hx (j := (f9 + (1 : Int32))) (v := (.int (own_at l_ (f9 + (1 : Int32))))) (by rw [e4]; exact Ar6.1) (State.isArrayOf_alike hZ.alike Ar6.2.1) Ar6.2.2 hin6 hat6 (g := (mkF m 258 #[.val (.long q1), .second, .val (.long q3), .second, .val (.int p4), .val (.int p5), .val (.int p6), .val (.int p7), .val (.ref b), .val (.int f9), .val (.int t10), .val (.int (3 : Int32)), .val (.int t12), .val (.int t13), .val (.int t14), .val (.int t15), .val (.int t16), .val (.ref b1), .unset] [(.int (f9 + (1 : Int32))), (.ref b)])) rfl rfl (hb hby at_258)) ?_
      show own_Rch p.tables e below (T4.setTop (mkF m 259 #[.val (.long q1), .second, .val (.long q3), .second, .val (.int p4), .val (.int p5), .val (.int p6), .val (.int p7), .val (.ref b), .val (.int f9), .val (.int t10), .val (.int (3 : Int32)), .val (.int t12), .val (.int t13), .val (.int t14), .val (.int t15), .val (.int t16), .val (.ref b1), .unset] [(.int (own_at l_ (f9 + (1 : Int32))))])) _
      refine own_via (fun t k => XS.iload X4.here hx rfl (hb hby at_259) rfl k) ?_
      show own_Rch p.tables e below (T4.setTop (mkF m 261 #[.val (.long q1), .second, .val (.long q3), .second, .val (.int p4), .val (.int p5), .val (.int p6), .val (.int p7), .val (.ref b), .val (.int f9), .val (.int t10), .val (.int (3 : Int32)), .val (.int t12), .val (.int t13), .val (.int t14), .val (.int t15), .val (.int t16), .val (.ref b1), .unset] [(.int t13), (.int (own_at l_ (f9 + (1 : Int32))))])) _
      by_cases c261 : (own_at l_ (f9 + (1 : Int32))) = t13
      · refine own_via (fun t k => XS.icmpNo X4.here hx rfl (hb hby at_261) rfl (teq c261).2 k) ?_
        show own_Rch p.tables e below (T4.setTop (mkF m 264 #[.val (.long q1), .second, .val (.long q3), .second, .val (.int p4), .val (.int p5), .val (.int p6), .val (.int p7), .val (.ref b), .val (.int f9), .val (.int t10), .val (.int (3 : Int32)), .val (.int t12), .val (.int t13), .val (.int t14), .val (.int t15), .val (.int t16), .val (.ref b1), .unset] [])) _
        refine own_via (fun t k => XS.iload X4.here hx rfl (hb hby at_264) rfl k) ?_
        show own_Rch p.tables e below (T4.setTop (mkF m 266 #[.val (.long q1), .second, .val (.long q3), .second, .val (.int p4), .val (.int p5), .val (.int p6), .val (.int p7), .val (.ref b), .val (.int f9), .val (.int t10), .val (.int (3 : Int32)), .val (.int t12), .val (.int t13), .val (.int t14), .val (.int t15), .val (.int t16), .val (.ref b1), .unset] [(.int (3 : Int32))])) _
        refine own_via (fun t k => XS.iconst X4.here hx rfl (hb hby at_266) k) ?_
        show own_Rch p.tables e below (T4.setTop (mkF m 267 #[.val (.long q1), .second, .val (.long q3), .second, .val (.int p4), .val (.int p5), .val (.int p6), .val (.int p7), .val (.ref b), .val (.int f9), .val (.int t10), .val (.int (3 : Int32)), .val (.int t12), .val (.int t13), .val (.int t14), .val (.int t15), .val (.int t16), .val (.ref b1), .unset] [(.int (3 : Int32)), (.int (3 : Int32))])) _
        refine own_via (fun t k => XS.icmpNo X4.here hx rfl (hb hby at_267) rfl (flt (by decide : ¬ ((3 : Int32) < (3 : Int32)))).1 k) ?_
        show own_Rch p.tables e below (T4.setTop (mkF m 270 #[.val (.long q1), .second, .val (.long q3), .second, .val (.int p4), .val (.int p5), .val (.int p6), .val (.int p7), .val (.ref b), .val (.int f9), .val (.int t10), .val (.int (3 : Int32)), .val (.int t12), .val (.int t13), .val (.int t14), .val (.int t15), .val (.int t16), .val (.ref b1), .unset] [])) _
        refine own_via (fun t k => XS.aload X4.here hx rfl (hb hby at_270) rfl rfl k) ?_
        show own_Rch p.tables e below (T4.setTop (mkF m 272 #[.val (.long q1), .second, .val (.long q3), .second, .val (.int p4), .val (.int p5), .val (.int p6), .val (.int p7), .val (.ref b), .val (.int f9), .val (.int t10), .val (.int (3 : Int32)), .val (.int t12), .val (.int t13), .val (.int t14), .val (.int t15), .val (.int t16), .val (.ref b1), .unset] [(.ref b)])) _
        refine own_via (fun t k => XS.iload X4.here hx rfl (hb hby at_272) rfl k) ?_
        show own_Rch p.tables e below (T4.setTop (mkF m 274 #[.val (.long q1), .second, .val (.long q3), .second, .val (.int p4), .val (.int p5), .val (.int p6), .val (.int p7), .val (.ref b), .val (.int f9), .val (.int t10), .val (.int (3 : Int32)), .val (.int t12), .val (.int t13), .val (.int t14), .val (.int t15), .val (.int t16), .val (.ref b1), .unset] [(.int f9), (.ref b)])) _
        refine own_via (fun t k => XS.iconst X4.here hx rfl (hb hby at_274) k) ?_
        show own_Rch p.tables e below (T4.setTop (mkF m 275 #[.val (.long q1), .second, .val (.long q3), .second, .val (.int p4), .val (.int p5), .val (.int p6), .val (.int p7), .val (.ref b), .val (.int f9), .val (.int t10), .val (.int (3 : Int32)), .val (.int t12), .val (.int t13), .val (.int t14), .val (.int t15), .val (.int t16), .val (.ref b1), .unset] [(.int (2 : Int32)), (.int f9), (.ref b)])) _
        refine own_via (fun t k => XS.iadd X4.here hx rfl (hb hby at_275) rfl k) ?_
        show own_Rch p.tables e below (T4.setTop (mkF m 276 #[.val (.long q1), .second, .val (.long q3), .second, .val (.int p4), .val (.int p5), .val (.int p6), .val (.int p7), .val (.ref b), .val (.int f9), .val (.int t10), .val (.int (3 : Int32)), .val (.int t12), .val (.int t13), .val (.int t14), .val (.int t15), .val (.int t16), .val (.ref b1), .unset] [(.int (f9 + (2 : Int32))), (.ref b)])) _
        obtain ⟨cl7, Ar7, -, S7, M7, H7, -⟩ := id ((((V.ext E1).other W2 (Nat.ne_of_lt (Nat.lt_of_lt_of_le V.lt (Nat.le_of_eq g1.symm)))).other W3 (Nat.ne_of_lt (Nat.lt_of_lt_of_le V.lt (Nat.le_of_eq g1.symm)))).other W4 (Nat.ne_of_lt (Nat.lt_of_lt_of_le V.lt (Nat.le_of_eq g1.symm))))
        have hin7 : ¬ ((f9 + (2 : Int32)) < 0 ∨ cl7.slots.size ≤ ((f9 + (2 : Int32))).toNatClampNeg) := inb_of S7 (own_in f9 t10 (3 : Int32) (2 : Int32) (5 : Int32) i0 i1 i2 c227 (by decide) (by decide))
        have hat7 : cl7.slots[((f9 + (2 : Int32))).toNatClampNeg]? = some (.int (own_at l_ (f9 + (2 : Int32)))) := Has.at H7 hin7 (own_getI l_ _)
        refine own_via (X4.baloadBytes hx (j := (f9 + (2 : Int32))) (v := (.int (own_at l_ (f9 + (2 : Int32))))) (by rw [e4]; exact Ar7.1) (State.isArrayOf_alike hZ.alike Ar7.2.1) Ar7.2.2 hin7 hat7 (g := (mkF m 276 #[.val (.long q1), .second, .val (.long q3), .second, .val (.int p4), .val (.int p5), .val (.int p6), .val (.int p7), .val (.ref b), .val (.int f9), .val (.int t10), .val (.int (3 : Int32)), .val (.int t12), .val (.int t13), .val (.int t14), .val (.int t15), .val (.int t16), .val (.ref b1), .unset] [(.int (f9 + (2 : Int32))), (.ref b)])) rfl rfl (hb hby at_276)) ?_
        show own_Rch p.tables e below (T4.setTop (mkF m 277 #[.val (.long q1), .second, .val (.long q3), .second, .val (.int p4), .val (.int p5), .val (.int p6), .val (.int p7), .val (.ref b), .val (.int f9), .val (.int t10), .val (.int (3 : Int32)), .val (.int t12), .val (.int t13), .val (.int t14), .val (.int t15), .val (.int t16), .val (.ref b1), .unset] [(.int (own_at l_ (f9 + (2 : Int32))))])) _
        refine own_via (fun t k => XS.iload X4.here hx rfl (hb hby at_277) rfl k) ?_
        show own_Rch p.tables e below (T4.setTop (mkF m 279 #[.val (.long q1), .second, .val (.long q3), .second, .val (.int p4), .val (.int p5), .val (.int p6), .val (.int p7), .val (.ref b), .val (.int f9), .val (.int t10), .val (.int (3 : Int32)), .val (.int t12), .val (.int t13), .val (.int t14), .val (.int t15), .val (.int t16), .val (.ref b1), .unset] [(.int t14), (.int (own_at l_ (f9 + (2 : Int32))))])) _
        by_cases c279 : (own_at l_ (f9 + (2 : Int32))) = t14
        · refine own_via (fun t k => XS.icmpNo X4.here hx rfl (hb hby at_279) rfl (teq c279).2 k) ?_
          show own_Rch p.tables e below (T4.setTop (mkF m 282 #[.val (.long q1), .second, .val (.long q3), .second, .val (.int p4), .val (.int p5), .val (.int p6), .val (.int p7), .val (.ref b), .val (.int f9), .val (.int t10), .val (.int (3 : Int32)), .val (.int t12), .val (.int t13), .val (.int t14), .val (.int t15), .val (.int t16), .val (.ref b1), .unset] [])) _
          refine own_via (fun t k => XS.iload X4.here hx rfl (hb hby at_282) rfl k) ?_
          show own_Rch p.tables e below (T4.setTop (mkF m 284 #[.val (.long q1), .second, .val (.long q3), .second, .val (.int p4), .val (.int p5), .val (.int p6), .val (.int p7), .val (.ref b), .val (.int f9), .val (.int t10), .val (.int (3 : Int32)), .val (.int t12), .val (.int t13), .val (.int t14), .val (.int t15), .val (.int t16), .val (.ref b1), .unset] [(.int (3 : Int32))])) _
          refine own_via (fun t k => XS.iconst X4.here hx rfl (hb hby at_284) k) ?_
          show own_Rch p.tables e below (T4.setTop (mkF m 285 #[.val (.long q1), .second, .val (.long q3), .second, .val (.int p4), .val (.int p5), .val (.int p6), .val (.int p7), .val (.ref b), .val (.int f9), .val (.int t10), .val (.int (3 : Int32)), .val (.int t12), .val (.int t13), .val (.int t14), .val (.int t15), .val (.int t16), .val (.ref b1), .unset] [(.int (4 : Int32)), (.int (3 : Int32))])) _
          refine own_via (fun t k => XS.icmpYes X4.here hx rfl (pc0 := 285) (pc' := 300) rfl (hb hby at_285) rfl (tlt (by decide : (3 : Int32) < (4 : Int32))).1 (by decide) (by decide) k) ?_
          show own_Rch p.tables e below (T4.setTop (mkF m 300 #[.val (.long q1), .second, .val (.long q3), .second, .val (.int p4), .val (.int p5), .val (.int p6), .val (.int p7), .val (.ref b), .val (.int f9), .val (.int t10), .val (.int (3 : Int32)), .val (.int t12), .val (.int t13), .val (.int t14), .val (.int t15), .val (.int t16), .val (.ref b1), .unset] [])) _
          refine own_via (fun t k => XS.iload X4.here hx rfl (hb hby at_300) rfl k) ?_
          show own_Rch p.tables e below (T4.setTop (mkF m 302 #[.val (.long q1), .second, .val (.long q3), .second, .val (.int p4), .val (.int p5), .val (.int p6), .val (.int p7), .val (.ref b), .val (.int f9), .val (.int t10), .val (.int (3 : Int32)), .val (.int t12), .val (.int t13), .val (.int t14), .val (.int t15), .val (.int t16), .val (.ref b1), .unset] [(.int (3 : Int32))])) _
          refine own_via (fun t k => XS.iconst X4.here hx rfl (hb hby at_302) k) ?_
          show own_Rch p.tables e below (T4.setTop (mkF m 303 #[.val (.long q1), .second, .val (.long q3), .second, .val (.int p4), .val (.int p5), .val (.int p6), .val (.int p7), .val (.ref b), .val (.int f9), .val (.int t10), .val (.int (3 : Int32)), .val (.int t12), .val (.int t13), .val (.int t14), .val (.int t15), .val (.int t16), .val (.ref b1), .unset] [(.int (5 : Int32)), (.int (3 : Int32))])) _
          refine own_via (fun t k => XS.icmpYes X4.here hx rfl (pc0 := 303) (pc' := 318) rfl (hb hby at_303) rfl (tlt (by decide : (3 : Int32) < (5 : Int32))).1 (by decide) (by decide) k) ?_
          show own_Rch p.tables e below (T4.setTop (mkF m 318 #[.val (.long q1), .second, .val (.long q3), .second, .val (.int p4), .val (.int p5), .val (.int p6), .val (.int p7), .val (.ref b), .val (.int f9), .val (.int t10), .val (.int (3 : Int32)), .val (.int t12), .val (.int t13), .val (.int t14), .val (.int t15), .val (.int t16), .val (.ref b1), .unset] [])) _
          refine own_via (fun t k => XS.iconst X4.here hx rfl (hb hby at_318) k) ?_
          show own_Rch p.tables e below (T4.setTop (mkF m 319 #[.val (.long q1), .second, .val (.long q3), .second, .val (.int p4), .val (.int p5), .val (.int p6), .val (.int p7), .val (.ref b), .val (.int f9), .val (.int t10), .val (.int (3 : Int32)), .val (.int t12), .val (.int t13), .val (.int t14), .val (.int t15), .val (.int t16), .val (.ref b1), .unset] [(.int (1 : Int32))])) _
          refine own_via (fun t k => XS.goto X4.here hx rfl (pc0 := 319) (pc' := 323) rfl (hb hby at_319) (by decide) (by decide) k) ?_
          show own_Rch p.tables e below (T4.setTop (mkF m 323 #[.val (.long q1), .second, .val (.long q3), .second, .val (.int p4), .val (.int p5), .val (.int p6), .val (.int p7), .val (.ref b), .val (.int f9), .val (.int t10), .val (.int (3 : Int32)), .val (.int t12), .val (.int t13), .val (.int t14), .val (.int t15), .val (.int t16), .val (.ref b1), .unset] [(.int (1 : Int32))])) _
          refine own_via (fun t k => XS.istore X4.here hx rfl (hb hby at_323) rfl (l' := #[.val (.long q1), .second, .val (.long q3), .second, .val (.int p4), .val (.int p5), .val (.int p6), .val (.int p7), .val (.ref b), .val (.int f9), .val (.int t10), .val (.int (3 : Int32)), .val (.int t12), .val (.int t13), .val (.int t14), .val (.int t15), .val (.int t16), .val (.ref b1), .val (.int (1 : Int32))]) rfl k) ?_
          show own_Rch p.tables e below (T4.setTop (mkF m 325 #[.val (.long q1), .second, .val (.long q3), .second, .val (.int p4), .val (.int p5), .val (.int p6), .val (.int p7), .val (.ref b), .val (.int f9), .val (.int t10), .val (.int (3 : Int32)), .val (.int t12), .val (.int t13), .val (.int t14), .val (.int t15), .val (.int t16), .val (.ref b1), .val (.int (1 : Int32))] [])) _
          refine own_via (fun t k => XS.aload X4.here hx rfl (hb hby at_325) rfl rfl k) ?_
          show own_Rch p.tables e below (T4.setTop (mkF m 327 #[.val (.long q1), .second, .val (.long q3), .second, .val (.int p4), .val (.int p5), .val (.int p6), .val (.int p7), .val (.ref b), .val (.int f9), .val (.int t10), .val (.int (3 : Int32)), .val (.int t12), .val (.int t13), .val (.int t14), .val (.int t15), .val (.int t16), .val (.ref b1), .val (.int (1 : Int32))] [(.ref b)])) _
          refine own_via (fun t k => XS.iload X4.here hx rfl (hb hby at_327) rfl k) ?_
          show own_Rch p.tables e below (T4.setTop (mkF m 329 #[.val (.long q1), .second, .val (.long q3), .second, .val (.int p4), .val (.int p5), .val (.int p6), .val (.int p7), .val (.ref b), .val (.int f9), .val (.int t10), .val (.int (3 : Int32)), .val (.int t12), .val (.int t13), .val (.int t14), .val (.int t15), .val (.int t16), .val (.ref b1), .val (.int (1 : Int32))] [(.int f9), (.ref b)])) _
          refine own_via (fun t k => XS.iload X4.here hx rfl (hb hby at_329) rfl k) ?_
          show own_Rch p.tables e below (T4.setTop (mkF m 331 #[.val (.long q1), .second, .val (.long q3), .second, .val (.int p4), .val (.int p5), .val (.int p6), .val (.int p7), .val (.ref b), .val (.int f9), .val (.int t10), .val (.int (3 : Int32)), .val (.int t12), .val (.int t13), .val (.int t14), .val (.int t15), .val (.int t16), .val (.ref b1), .val (.int (1 : Int32))] [(.int t10), (.int f9), (.ref b)])) _
          refine own_via (fun t k => XS.aload X4.here hx rfl (hb hby at_331) rfl rfl k) ?_
          show own_Rch p.tables e below (T4.setTop (mkF m 333 #[.val (.long q1), .second, .val (.long q3), .second, .val (.int p4), .val (.int p5), .val (.int p6), .val (.int p7), .val (.ref b), .val (.int f9), .val (.int t10), .val (.int (3 : Int32)), .val (.int t12), .val (.int t13), .val (.int t14), .val (.int t15), .val (.int t16), .val (.ref b1), .val (.int (1 : Int32))] [(.ref b1), (.int t10), (.int f9), (.ref b)])) _
          have Vt8 := V4'
          rw [hbt12, hbt13, hbt14] at Vt8
          obtain ⟨_, _, ⟨T8, L8, k8, n8⟩, -, X8, ⟨Lc8, hQ8, l8, y8, z8⟩, st8⟩ := Jvm.LawKit.callS X4 hx (y := (⟨"com/example/lastkey/lastkey/exec/TextFormat", "isNull", "([BII[B)Z"⟩ : MethodName)) hown (mvT hZ (hw _ (List.mem_of_getElem? (i := 6) rfl))) (mvT hZ (hw _ (List.mem_of_getElem? (i := 7) rfl))) (mvT hZ (hw _ (List.mem_of_getElem? (i := 8) rfl))) (mvT hZ (hw _ (List.mem_of_getElem? (i := 9) rfl))) (by decide) (backOf (W := 0) (rm2_3 l Z a0 hw [] b f9 t10 b1 l_ [t12, t13, t14] kb k1 h4 n0 ((((V.ext E1).other W2 (Nat.ne_of_lt (Nat.lt_of_lt_of_le V.lt (Nat.le_of_eq g1.symm)))).other W3 (Nat.ne_of_lt (Nat.lt_of_lt_of_le V.lt (Nat.le_of_eq g1.symm)))).other W4 (Nat.ne_of_lt (Nat.lt_of_lt_of_le V.lt (Nat.le_of_eq g1.symm)))) Vt8 i0 i1 i2) hZ (hw _ (List.mem_of_getElem? (i := 9) rfl)) (hw _ (List.mem_of_getElem? (i := 8) rfl)) (by decide) (by decide)) (g := (mkF m 333 #[.val (.long q1), .second, .val (.long q3), .second, .val (.int p4), .val (.int p5), .val (.int p6), .val (.int p7), .val (.ref b), .val (.int f9), .val (.int t10), .val (.int (3 : Int32)), .val (.int t12), .val (.int t13), .val (.int t14), .val (.int t15), .val (.int t16), .val (.ref b1), .val (.int (1 : Int32))] [(.ref b1), (.int t10), (.int f9), (.ref b)])) rfl (by rw [hml]; rfl) (argsL := [(.ref b), (.int f9), (.int t10), (.ref b1)]) (rest := []) (lenOf pd_0 rfl) rfl (by show 2 * 0 + _ ≤ _; exact Nat.le_of_eq rfl) (hb hby at_333) (fun _ _ => ⟨rfl, e4, (by decide : 2 + 0 ≤ _), (by decide : 8 + 0 ≤ _)⟩)
          dsimp only [Pt.U, Pt.locs, Pt.cells, Pt.slots] at X8 l8 y8 z8 st8 hQ8
          subst l8 y8 z8
          obtain ⟨rfl, N8q, eh8⟩ := hQ8
          have N8 := Fr.app N4 N8q
          refine own_via st8 ?_
          show own_Rch p.tables e below (T8.setTop (mkF m 336 #[.val (.long q1), .second, .val (.long q3), .second, .val (.int p4), .val (.int p5), .val (.int p6), .val (.int p7), .val (.ref b), .val (.int f9), .val (.int t10), .val (.int (3 : Int32)), .val (.int t12), .val (.int t13), .val (.int t14), .val (.int t15), .val (.int t16), .val (.ref b1), .val (.int (1 : Int32))] [(.int (own_n4_3 l_ [t12, t13, t14] f9 t10))])) _
          refine own_via (fun t k => XS.iload X8.here hx rfl (hb hby at_336) rfl k) ?_
          show own_Rch p.tables e below (T8.setTop (mkF m 338 #[.val (.long q1), .second, .val (.long q3), .second, .val (.int p4), .val (.int p5), .val (.int p6), .val (.int p7), .val (.ref b), .val (.int f9), .val (.int t10), .val (.int (3 : Int32)), .val (.int t12), .val (.int t13), .val (.int t14), .val (.int t15), .val (.int t16), .val (.ref b1), .val (.int (1 : Int32))] [(.int (1 : Int32)), (.int (own_n4_3 l_ [t12, t13, t14] f9 t10))])) _
          have a0_ : own_at [t12, t13, t14] (0 : Int32) = t12 := rfl
          have a1_ : own_at [t12, t13, t14] (1 : Int32) = t13 := rfl
          have a2_ : own_at [t12, t13, t14] (2 : Int32) = t14 := rfl
          have hq : (own_n4_3 l_ [t12, t13, t14] f9 t10) = (1 : Int32) := by simp only [own_n4_3, Int32.add_zero, a0_, a1_, a2_, if_pos c227, if_pos c243, if_pos c261, if_pos c279]
          refine own_via (fun t k => XS.icmpNo X8.here hx rfl (hb hby at_338) rfl (teq hq).2 k) ?_
          show own_Rch p.tables e below (T8.setTop (mkF m 341 #[.val (.long q1), .second, .val (.long q3), .second, .val (.int p4), .val (.int p5), .val (.int p6), .val (.int p7), .val (.ref b), .val (.int f9), .val (.int t10), .val (.int (3 : Int32)), .val (.int t12), .val (.int t13), .val (.int t14), .val (.int t15), .val (.int t16), .val (.ref b1), .val (.int (1 : Int32))] [])) _
          refine own_via (fun t k => XS.iconst X8.here hx rfl (hb hby at_341) k) ?_
          show own_Rch p.tables e below (T8.setTop (mkF m 342 #[.val (.long q1), .second, .val (.long q3), .second, .val (.int p4), .val (.int p5), .val (.int p6), .val (.int p7), .val (.ref b), .val (.int f9), .val (.int t10), .val (.int (3 : Int32)), .val (.int t12), .val (.int t13), .val (.int t14), .val (.int t15), .val (.int t16), .val (.ref b1), .val (.int (1 : Int32))] [(.int (1 : Int32))])) _
          refine own_via (fun t k => XS.goto X8.here hx rfl (pc0 := 342) (pc' := 346) rfl (hb hby at_342) (by decide) (by decide) k) ?_
          show own_Rch p.tables e below (T8.setTop (mkF m 346 #[.val (.long q1), .second, .val (.long q3), .second, .val (.int p4), .val (.int p5), .val (.int p6), .val (.int p7), .val (.ref b), .val (.int f9), .val (.int t10), .val (.int (3 : Int32)), .val (.int t12), .val (.int t13), .val (.int t14), .val (.int t15), .val (.int t16), .val (.ref b1), .val (.int (1 : Int32))] [(.int (1 : Int32))])) _
          exact own_fin X8 hx (t := .boolean) (i := .ireturn) hret hlk rfl (Or.inl ⟨rfl, by simp, _, rfl⟩) (hb hby at_346) (by decide) (by decide) ⟨rfl, N8⟩
        · refine own_via (fun t k => XS.icmpYes X4.here hx rfl (pc0 := 279) (pc' := 322) rfl (hb hby at_279) rfl (feq c279).2 (by decide) (by decide) k) ?_
          show own_Rch p.tables e below (T4.setTop (mkF m 322 #[.val (.long q1), .second, .val (.long q3), .second, .val (.int p4), .val (.int p5), .val (.int p6), .val (.int p7), .val (.ref b), .val (.int f9), .val (.int t10), .val (.int (3 : Int32)), .val (.int t12), .val (.int t13), .val (.int t14), .val (.int t15), .val (.int t16), .val (.ref b1), .unset] [])) _
          refine own_via (fun t k => XS.iconst X4.here hx rfl (hb hby at_322) k) ?_
          show own_Rch p.tables e below (T4.setTop (mkF m 323 #[.val (.long q1), .second, .val (.long q3), .second, .val (.int p4), .val (.int p5), .val (.int p6), .val (.int p7), .val (.ref b), .val (.int f9), .val (.int t10), .val (.int (3 : Int32)), .val (.int t12), .val (.int t13), .val (.int t14), .val (.int t15), .val (.int t16), .val (.ref b1), .unset] [(.int (0 : Int32))])) _
          refine own_via (fun t k => XS.istore X4.here hx rfl (hb hby at_323) rfl (l' := #[.val (.long q1), .second, .val (.long q3), .second, .val (.int p4), .val (.int p5), .val (.int p6), .val (.int p7), .val (.ref b), .val (.int f9), .val (.int t10), .val (.int (3 : Int32)), .val (.int t12), .val (.int t13), .val (.int t14), .val (.int t15), .val (.int t16), .val (.ref b1), .val (.int (0 : Int32))]) rfl k) ?_
          show own_Rch p.tables e below (T4.setTop (mkF m 325 #[.val (.long q1), .second, .val (.long q3), .second, .val (.int p4), .val (.int p5), .val (.int p6), .val (.int p7), .val (.ref b), .val (.int f9), .val (.int t10), .val (.int (3 : Int32)), .val (.int t12), .val (.int t13), .val (.int t14), .val (.int t15), .val (.int t16), .val (.ref b1), .val (.int (0 : Int32))] [])) _
          refine own_via (fun t k => XS.aload X4.here hx rfl (hb hby at_325) rfl rfl k) ?_
          show own_Rch p.tables e below (T4.setTop (mkF m 327 #[.val (.long q1), .second, .val (.long q3), .second, .val (.int p4), .val (.int p5), .val (.int p6), .val (.int p7), .val (.ref b), .val (.int f9), .val (.int t10), .val (.int (3 : Int32)), .val (.int t12), .val (.int t13), .val (.int t14), .val (.int t15), .val (.int t16), .val (.ref b1), .val (.int (0 : Int32))] [(.ref b)])) _
          refine own_via (fun t k => XS.iload X4.here hx rfl (hb hby at_327) rfl k) ?_
          show own_Rch p.tables e below (T4.setTop (mkF m 329 #[.val (.long q1), .second, .val (.long q3), .second, .val (.int p4), .val (.int p5), .val (.int p6), .val (.int p7), .val (.ref b), .val (.int f9), .val (.int t10), .val (.int (3 : Int32)), .val (.int t12), .val (.int t13), .val (.int t14), .val (.int t15), .val (.int t16), .val (.ref b1), .val (.int (0 : Int32))] [(.int f9), (.ref b)])) _
          refine own_via (fun t k => XS.iload X4.here hx rfl (hb hby at_329) rfl k) ?_
          show own_Rch p.tables e below (T4.setTop (mkF m 331 #[.val (.long q1), .second, .val (.long q3), .second, .val (.int p4), .val (.int p5), .val (.int p6), .val (.int p7), .val (.ref b), .val (.int f9), .val (.int t10), .val (.int (3 : Int32)), .val (.int t12), .val (.int t13), .val (.int t14), .val (.int t15), .val (.int t16), .val (.ref b1), .val (.int (0 : Int32))] [(.int t10), (.int f9), (.ref b)])) _
          refine own_via (fun t k => XS.aload X4.here hx rfl (hb hby at_331) rfl rfl k) ?_
          show own_Rch p.tables e below (T4.setTop (mkF m 333 #[.val (.long q1), .second, .val (.long q3), .second, .val (.int p4), .val (.int p5), .val (.int p6), .val (.int p7), .val (.ref b), .val (.int f9), .val (.int t10), .val (.int (3 : Int32)), .val (.int t12), .val (.int t13), .val (.int t14), .val (.int t15), .val (.int t16), .val (.ref b1), .val (.int (0 : Int32))] [(.ref b1), (.int t10), (.int f9), (.ref b)])) _
          have Vt9 := V4'
          rw [hbt12, hbt13, hbt14] at Vt9
          obtain ⟨_, _, ⟨T9, L9, k9, n9⟩, -, X9, ⟨Lc9, hQ9, l9, y9, z9⟩, st9⟩ := Jvm.LawKit.callS X4 hx (y := (⟨"com/example/lastkey/lastkey/exec/TextFormat", "isNull", "([BII[B)Z"⟩ : MethodName)) hown (mvT hZ (hw _ (List.mem_of_getElem? (i := 6) rfl))) (mvT hZ (hw _ (List.mem_of_getElem? (i := 7) rfl))) (mvT hZ (hw _ (List.mem_of_getElem? (i := 8) rfl))) (mvT hZ (hw _ (List.mem_of_getElem? (i := 9) rfl))) (by decide) (backOf (W := 0) (rm2_3 l Z a0 hw [] b f9 t10 b1 l_ [t12, t13, t14] kb k1 h4 n0 ((((V.ext E1).other W2 (Nat.ne_of_lt (Nat.lt_of_lt_of_le V.lt (Nat.le_of_eq g1.symm)))).other W3 (Nat.ne_of_lt (Nat.lt_of_lt_of_le V.lt (Nat.le_of_eq g1.symm)))).other W4 (Nat.ne_of_lt (Nat.lt_of_lt_of_le V.lt (Nat.le_of_eq g1.symm)))) Vt9 i0 i1 i2) hZ (hw _ (List.mem_of_getElem? (i := 9) rfl)) (hw _ (List.mem_of_getElem? (i := 8) rfl)) (by decide) (by decide)) (g := (mkF m 333 #[.val (.long q1), .second, .val (.long q3), .second, .val (.int p4), .val (.int p5), .val (.int p6), .val (.int p7), .val (.ref b), .val (.int f9), .val (.int t10), .val (.int (3 : Int32)), .val (.int t12), .val (.int t13), .val (.int t14), .val (.int t15), .val (.int t16), .val (.ref b1), .val (.int (0 : Int32))] [(.ref b1), (.int t10), (.int f9), (.ref b)])) rfl (by rw [hml]; rfl) (argsL := [(.ref b), (.int f9), (.int t10), (.ref b1)]) (rest := []) (lenOf pd_0 rfl) rfl (by show 2 * 0 + _ ≤ _; exact Nat.le_of_eq rfl) (hb hby at_333) (fun _ _ => ⟨rfl, e4, (by decide : 2 + 0 ≤ _), (by decide : 8 + 0 ≤ _)⟩)
          dsimp only [Pt.U, Pt.locs, Pt.cells, Pt.slots] at X9 l9 y9 z9 st9 hQ9
          subst l9 y9 z9
          obtain ⟨rfl, N9q, eh9⟩ := hQ9
          have N9 := Fr.app N4 N9q
          refine own_via st9 ?_
          show own_Rch p.tables e below (T9.setTop (mkF m 336 #[.val (.long q1), .second, .val (.long q3), .second, .val (.int p4), .val (.int p5), .val (.int p6), .val (.int p7), .val (.ref b), .val (.int f9), .val (.int t10), .val (.int (3 : Int32)), .val (.int t12), .val (.int t13), .val (.int t14), .val (.int t15), .val (.int t16), .val (.ref b1), .val (.int (0 : Int32))] [(.int (own_n4_3 l_ [t12, t13, t14] f9 t10))])) _
          refine own_via (fun t k => XS.iload X9.here hx rfl (hb hby at_336) rfl k) ?_
          show own_Rch p.tables e below (T9.setTop (mkF m 338 #[.val (.long q1), .second, .val (.long q3), .second, .val (.int p4), .val (.int p5), .val (.int p6), .val (.int p7), .val (.ref b), .val (.int f9), .val (.int t10), .val (.int (3 : Int32)), .val (.int t12), .val (.int t13), .val (.int t14), .val (.int t15), .val (.int t16), .val (.ref b1), .val (.int (0 : Int32))] [(.int (0 : Int32)), (.int (own_n4_3 l_ [t12, t13, t14] f9 t10))])) _
          have a0_ : own_at [t12, t13, t14] (0 : Int32) = t12 := rfl
          have a1_ : own_at [t12, t13, t14] (1 : Int32) = t13 := rfl
          have a2_ : own_at [t12, t13, t14] (2 : Int32) = t14 := rfl
          have hq : (own_n4_3 l_ [t12, t13, t14] f9 t10) = (0 : Int32) := by simp only [own_n4_3, Int32.add_zero, a0_, a1_, a2_, if_pos c227, if_pos c243, if_pos c261, if_neg c279]
          refine own_via (fun t k => XS.icmpNo X9.here hx rfl (hb hby at_338) rfl (teq hq).2 k) ?_
          show own_Rch p.tables e below (T9.setTop (mkF m 341 #[.val (.long q1), .second, .val (.long q3), .second, .val (.int p4), .val (.int p5), .val (.int p6), .val (.int p7), .val (.ref b), .val (.int f9), .val (.int t10), .val (.int (3 : Int32)), .val (.int t12), .val (.int t13), .val (.int t14), .val (.int t15), .val (.int t16), .val (.ref b1), .val (.int (0 : Int32))] [])) _
          refine own_via (fun t k => XS.iconst X9.here hx rfl (hb hby at_341) k) ?_
          show own_Rch p.tables e below (T9.setTop (mkF m 342 #[.val (.long q1), .second, .val (.long q3), .second, .val (.int p4), .val (.int p5), .val (.int p6), .val (.int p7), .val (.ref b), .val (.int f9), .val (.int t10), .val (.int (3 : Int32)), .val (.int t12), .val (.int t13), .val (.int t14), .val (.int t15), .val (.int t16), .val (.ref b1), .val (.int (0 : Int32))] [(.int (1 : Int32))])) _
          refine own_via (fun t k => XS.goto X9.here hx rfl (pc0 := 342) (pc' := 346) rfl (hb hby at_342) (by decide) (by decide) k) ?_
          show own_Rch p.tables e below (T9.setTop (mkF m 346 #[.val (.long q1), .second, .val (.long q3), .second, .val (.int p4), .val (.int p5), .val (.int p6), .val (.int p7), .val (.ref b), .val (.int f9), .val (.int t10), .val (.int (3 : Int32)), .val (.int t12), .val (.int t13), .val (.int t14), .val (.int t15), .val (.int t16), .val (.ref b1), .val (.int (0 : Int32))] [(.int (1 : Int32))])) _
          exact own_fin X9 hx (t := .boolean) (i := .ireturn) hret hlk rfl (Or.inl ⟨rfl, by simp, _, rfl⟩) (hb hby at_346) (by decide) (by decide) ⟨rfl, N9⟩
      · refine own_via (fun t k => XS.icmpYes X4.here hx rfl (pc0 := 261) (pc' := 322) rfl (hb hby at_261) rfl (feq c261).2 (by decide) (by decide) k) ?_
        show own_Rch p.tables e below (T4.setTop (mkF m 322 #[.val (.long q1), .second, .val (.long q3), .second, .val (.int p4), .val (.int p5), .val (.int p6), .val (.int p7), .val (.ref b), .val (.int f9), .val (.int t10), .val (.int (3 : Int32)), .val (.int t12), .val (.int t13), .val (.int t14), .val (.int t15), .val (.int t16), .val (.ref b1), .unset] [])) _
        refine own_via (fun t k => XS.iconst X4.here hx rfl (hb hby at_322) k) ?_
        show own_Rch p.tables e below (T4.setTop (mkF m 323 #[.val (.long q1), .second, .val (.long q3), .second, .val (.int p4), .val (.int p5), .val (.int p6), .val (.int p7), .val (.ref b), .val (.int f9), .val (.int t10), .val (.int (3 : Int32)), .val (.int t12), .val (.int t13), .val (.int t14), .val (.int t15), .val (.int t16), .val (.ref b1), .unset] [(.int (0 : Int32))])) _
        refine own_via (fun t k => XS.istore X4.here hx rfl (hb hby at_323) rfl (l' := #[.val (.long q1), .second, .val (.long q3), .second, .val (.int p4), .val (.int p5), .val (.int p6), .val (.int p7), .val (.ref b), .val (.int f9), .val (.int t10), .val (.int (3 : Int32)), .val (.int t12), .val (.int t13), .val (.int t14), .val (.int t15), .val (.int t16), .val (.ref b1), .val (.int (0 : Int32))]) rfl k) ?_
        show own_Rch p.tables e below (T4.setTop (mkF m 325 #[.val (.long q1), .second, .val (.long q3), .second, .val (.int p4), .val (.int p5), .val (.int p6), .val (.int p7), .val (.ref b), .val (.int f9), .val (.int t10), .val (.int (3 : Int32)), .val (.int t12), .val (.int t13), .val (.int t14), .val (.int t15), .val (.int t16), .val (.ref b1), .val (.int (0 : Int32))] [])) _
        refine own_via (fun t k => XS.aload X4.here hx rfl (hb hby at_325) rfl rfl k) ?_
        show own_Rch p.tables e below (T4.setTop (mkF m 327 #[.val (.long q1), .second, .val (.long q3), .second, .val (.int p4), .val (.int p5), .val (.int p6), .val (.int p7), .val (.ref b), .val (.int f9), .val (.int t10), .val (.int (3 : Int32)), .val (.int t12), .val (.int t13), .val (.int t14), .val (.int t15), .val (.int t16), .val (.ref b1), .val (.int (0 : Int32))] [(.ref b)])) _
        refine own_via (fun t k => XS.iload X4.here hx rfl (hb hby at_327) rfl k) ?_
        show own_Rch p.tables e below (T4.setTop (mkF m 329 #[.val (.long q1), .second, .val (.long q3), .second, .val (.int p4), .val (.int p5), .val (.int p6), .val (.int p7), .val (.ref b), .val (.int f9), .val (.int t10), .val (.int (3 : Int32)), .val (.int t12), .val (.int t13), .val (.int t14), .val (.int t15), .val (.int t16), .val (.ref b1), .val (.int (0 : Int32))] [(.int f9), (.ref b)])) _
        refine own_via (fun t k => XS.iload X4.here hx rfl (hb hby at_329) rfl k) ?_
        show own_Rch p.tables e below (T4.setTop (mkF m 331 #[.val (.long q1), .second, .val (.long q3), .second, .val (.int p4), .val (.int p5), .val (.int p6), .val (.int p7), .val (.ref b), .val (.int f9), .val (.int t10), .val (.int (3 : Int32)), .val (.int t12), .val (.int t13), .val (.int t14), .val (.int t15), .val (.int t16), .val (.ref b1), .val (.int (0 : Int32))] [(.int t10), (.int f9), (.ref b)])) _
        refine own_via (fun t k => XS.aload X4.here hx rfl (hb hby at_331) rfl rfl k) ?_
        show own_Rch p.tables e below (T4.setTop (mkF m 333 #[.val (.long q1), .second, .val (.long q3), .second, .val (.int p4), .val (.int p5), .val (.int p6), .val (.int p7), .val (.ref b), .val (.int f9), .val (.int t10), .val (.int (3 : Int32)), .val (.int t12), .val (.int t13), .val (.int t14), .val (.int t15), .val (.int t16), .val (.ref b1), .val (.int (0 : Int32))] [(.ref b1), (.int t10), (.int f9), (.ref b)])) _
        have Vt10 := V4'
        rw [hbt12, hbt13, hbt14] at Vt10
        obtain ⟨_, _, ⟨T10, L10, k10, n10⟩, -, X10, ⟨Lc10, hQ10, l10, y10, z10⟩, st10⟩ := Jvm.LawKit.callS X4 hx (y := (⟨"com/example/lastkey/lastkey/exec/TextFormat", "isNull", "([BII[B)Z"⟩ : MethodName)) hown (mvT hZ (hw _ (List.mem_of_getElem? (i := 6) rfl))) (mvT hZ (hw _ (List.mem_of_getElem? (i := 7) rfl))) (mvT hZ (hw _ (List.mem_of_getElem? (i := 8) rfl))) (mvT hZ (hw _ (List.mem_of_getElem? (i := 9) rfl))) (by decide) (backOf (W := 0) (rm2_3 l Z a0 hw [] b f9 t10 b1 l_ [t12, t13, t14] kb k1 h4 n0 ((((V.ext E1).other W2 (Nat.ne_of_lt (Nat.lt_of_lt_of_le V.lt (Nat.le_of_eq g1.symm)))).other W3 (Nat.ne_of_lt (Nat.lt_of_lt_of_le V.lt (Nat.le_of_eq g1.symm)))).other W4 (Nat.ne_of_lt (Nat.lt_of_lt_of_le V.lt (Nat.le_of_eq g1.symm)))) Vt10 i0 i1 i2) hZ (hw _ (List.mem_of_getElem? (i := 9) rfl)) (hw _ (List.mem_of_getElem? (i := 8) rfl)) (by decide) (by decide)) (g := (mkF m 333 #[.val (.long q1), .second, .val (.long q3), .second, .val (.int p4), .val (.int p5), .val (.int p6), .val (.int p7), .val (.ref b), .val (.int f9), .val (.int t10), .val (.int (3 : Int32)), .val (.int t12), .val (.int t13), .val (.int t14), .val (.int t15), .val (.int t16), .val (.ref b1), .val (.int (0 : Int32))] [(.ref b1), (.int t10), (.int f9), (.ref b)])) rfl (by rw [hml]; rfl) (argsL := [(.ref b), (.int f9), (.int t10), (.ref b1)]) (rest := []) (lenOf pd_0 rfl) rfl (by show 2 * 0 + _ ≤ _; exact Nat.le_of_eq rfl) (hb hby at_333) (fun _ _ => ⟨rfl, e4, (by decide : 2 + 0 ≤ _), (by decide : 8 + 0 ≤ _)⟩)
        dsimp only [Pt.U, Pt.locs, Pt.cells, Pt.slots] at X10 l10 y10 z10 st10 hQ10
        subst l10 y10 z10
        obtain ⟨rfl, N10q, eh10⟩ := hQ10
        have N10 := Fr.app N4 N10q
        refine own_via st10 ?_
        show own_Rch p.tables e below (T10.setTop (mkF m 336 #[.val (.long q1), .second, .val (.long q3), .second, .val (.int p4), .val (.int p5), .val (.int p6), .val (.int p7), .val (.ref b), .val (.int f9), .val (.int t10), .val (.int (3 : Int32)), .val (.int t12), .val (.int t13), .val (.int t14), .val (.int t15), .val (.int t16), .val (.ref b1), .val (.int (0 : Int32))] [(.int (own_n4_3 l_ [t12, t13, t14] f9 t10))])) _
        refine own_via (fun t k => XS.iload X10.here hx rfl (hb hby at_336) rfl k) ?_
        show own_Rch p.tables e below (T10.setTop (mkF m 338 #[.val (.long q1), .second, .val (.long q3), .second, .val (.int p4), .val (.int p5), .val (.int p6), .val (.int p7), .val (.ref b), .val (.int f9), .val (.int t10), .val (.int (3 : Int32)), .val (.int t12), .val (.int t13), .val (.int t14), .val (.int t15), .val (.int t16), .val (.ref b1), .val (.int (0 : Int32))] [(.int (0 : Int32)), (.int (own_n4_3 l_ [t12, t13, t14] f9 t10))])) _
        have a0_ : own_at [t12, t13, t14] (0 : Int32) = t12 := rfl
        have a1_ : own_at [t12, t13, t14] (1 : Int32) = t13 := rfl
        have a2_ : own_at [t12, t13, t14] (2 : Int32) = t14 := rfl
        have hq : (own_n4_3 l_ [t12, t13, t14] f9 t10) = (0 : Int32) := by simp only [own_n4_3, Int32.add_zero, a0_, a1_, a2_, if_pos c227, if_pos c243, if_neg c261]
        refine own_via (fun t k => XS.icmpNo X10.here hx rfl (hb hby at_338) rfl (teq hq).2 k) ?_
        show own_Rch p.tables e below (T10.setTop (mkF m 341 #[.val (.long q1), .second, .val (.long q3), .second, .val (.int p4), .val (.int p5), .val (.int p6), .val (.int p7), .val (.ref b), .val (.int f9), .val (.int t10), .val (.int (3 : Int32)), .val (.int t12), .val (.int t13), .val (.int t14), .val (.int t15), .val (.int t16), .val (.ref b1), .val (.int (0 : Int32))] [])) _
        refine own_via (fun t k => XS.iconst X10.here hx rfl (hb hby at_341) k) ?_
        show own_Rch p.tables e below (T10.setTop (mkF m 342 #[.val (.long q1), .second, .val (.long q3), .second, .val (.int p4), .val (.int p5), .val (.int p6), .val (.int p7), .val (.ref b), .val (.int f9), .val (.int t10), .val (.int (3 : Int32)), .val (.int t12), .val (.int t13), .val (.int t14), .val (.int t15), .val (.int t16), .val (.ref b1), .val (.int (0 : Int32))] [(.int (1 : Int32))])) _
        refine own_via (fun t k => XS.goto X10.here hx rfl (pc0 := 342) (pc' := 346) rfl (hb hby at_342) (by decide) (by decide) k) ?_
        show own_Rch p.tables e below (T10.setTop (mkF m 346 #[.val (.long q1), .second, .val (.long q3), .second, .val (.int p4), .val (.int p5), .val (.int p6), .val (.int p7), .val (.ref b), .val (.int f9), .val (.int t10), .val (.int (3 : Int32)), .val (.int t12), .val (.int t13), .val (.int t14), .val (.int t15), .val (.int t16), .val (.ref b1), .val (.int (0 : Int32))] [(.int (1 : Int32))])) _
        exact own_fin X10 hx (t := .boolean) (i := .ireturn) hret hlk rfl (Or.inl ⟨rfl, by simp, _, rfl⟩) (hb hby at_346) (by decide) (by decide) ⟨rfl, N10⟩
    · refine own_via (fun t k => XS.icmpYes X4.here hx rfl (pc0 := 243) (pc' := 322) rfl (hb hby at_243) rfl (feq c243).2 (by decide) (by decide) k) ?_
      show own_Rch p.tables e below (T4.setTop (mkF m 322 #[.val (.long q1), .second, .val (.long q3), .second, .val (.int p4), .val (.int p5), .val (.int p6), .val (.int p7), .val (.ref b), .val (.int f9), .val (.int t10), .val (.int (3 : Int32)), .val (.int t12), .val (.int t13), .val (.int t14), .val (.int t15), .val (.int t16), .val (.ref b1), .unset] [])) _
      refine own_via (fun t k => XS.iconst X4.here hx rfl (hb hby at_322) k) ?_
      show own_Rch p.tables e below (T4.setTop (mkF m 323 #[.val (.long q1), .second, .val (.long q3), .second, .val (.int p4), .val (.int p5), .val (.int p6), .val (.int p7), .val (.ref b), .val (.int f9), .val (.int t10), .val (.int (3 : Int32)), .val (.int t12), .val (.int t13), .val (.int t14), .val (.int t15), .val (.int t16), .val (.ref b1), .unset] [(.int (0 : Int32))])) _
      refine own_via (fun t k => XS.istore X4.here hx rfl (hb hby at_323) rfl (l' := #[.val (.long q1), .second, .val (.long q3), .second, .val (.int p4), .val (.int p5), .val (.int p6), .val (.int p7), .val (.ref b), .val (.int f9), .val (.int t10), .val (.int (3 : Int32)), .val (.int t12), .val (.int t13), .val (.int t14), .val (.int t15), .val (.int t16), .val (.ref b1), .val (.int (0 : Int32))]) rfl k) ?_
      show own_Rch p.tables e below (T4.setTop (mkF m 325 #[.val (.long q1), .second, .val (.long q3), .second, .val (.int p4), .val (.int p5), .val (.int p6), .val (.int p7), .val (.ref b), .val (.int f9), .val (.int t10), .val (.int (3 : Int32)), .val (.int t12), .val (.int t13), .val (.int t14), .val (.int t15), .val (.int t16), .val (.ref b1), .val (.int (0 : Int32))] [])) _
      refine own_via (fun t k => XS.aload X4.here hx rfl (hb hby at_325) rfl rfl k) ?_
      show own_Rch p.tables e below (T4.setTop (mkF m 327 #[.val (.long q1), .second, .val (.long q3), .second, .val (.int p4), .val (.int p5), .val (.int p6), .val (.int p7), .val (.ref b), .val (.int f9), .val (.int t10), .val (.int (3 : Int32)), .val (.int t12), .val (.int t13), .val (.int t14), .val (.int t15), .val (.int t16), .val (.ref b1), .val (.int (0 : Int32))] [(.ref b)])) _
      refine own_via (fun t k => XS.iload X4.here hx rfl (hb hby at_327) rfl k) ?_
      show own_Rch p.tables e below (T4.setTop (mkF m 329 #[.val (.long q1), .second, .val (.long q3), .second, .val (.int p4), .val (.int p5), .val (.int p6), .val (.int p7), .val (.ref b), .val (.int f9), .val (.int t10), .val (.int (3 : Int32)), .val (.int t12), .val (.int t13), .val (.int t14), .val (.int t15), .val (.int t16), .val (.ref b1), .val (.int (0 : Int32))] [(.int f9), (.ref b)])) _
      refine own_via (fun t k => XS.iload X4.here hx rfl (hb hby at_329) rfl k) ?_
      show own_Rch p.tables e below (T4.setTop (mkF m 331 #[.val (.long q1), .second, .val (.long q3), .second, .val (.int p4), .val (.int p5), .val (.int p6), .val (.int p7), .val (.ref b), .val (.int f9), .val (.int t10), .val (.int (3 : Int32)), .val (.int t12), .val (.int t13), .val (.int t14), .val (.int t15), .val (.int t16), .val (.ref b1), .val (.int (0 : Int32))] [(.int t10), (.int f9), (.ref b)])) _
      refine own_via (fun t k => XS.aload X4.here hx rfl (hb hby at_331) rfl rfl k) ?_
      show own_Rch p.tables e below (T4.setTop (mkF m 333 #[.val (.long q1), .second, .val (.long q3), .second, .val (.int p4), .val (.int p5), .val (.int p6), .val (.int p7), .val (.ref b), .val (.int f9), .val (.int t10), .val (.int (3 : Int32)), .val (.int t12), .val (.int t13), .val (.int t14), .val (.int t15), .val (.int t16), .val (.ref b1), .val (.int (0 : Int32))] [(.ref b1), (.int t10), (.int f9), (.ref b)])) _
      have Vt11 := V4'
      rw [hbt12, hbt13, hbt14] at Vt11
      obtain ⟨_, _, ⟨T11, L11, k11, n11⟩, -, X11, ⟨Lc11, hQ11, l11, y11, z11⟩, st11⟩ := Jvm.LawKit.callS X4 hx (y := (⟨"com/example/lastkey/lastkey/exec/TextFormat", "isNull", "([BII[B)Z"⟩ : MethodName)) hown (mvT hZ (hw _ (List.mem_of_getElem? (i := 6) rfl))) (mvT hZ (hw _ (List.mem_of_getElem? (i := 7) rfl))) (mvT hZ (hw _ (List.mem_of_getElem? (i := 8) rfl))) (mvT hZ (hw _ (List.mem_of_getElem? (i := 9) rfl))) (by decide) (backOf (W := 0) (rm2_3 l Z a0 hw [] b f9 t10 b1 l_ [t12, t13, t14] kb k1 h4 n0 ((((V.ext E1).other W2 (Nat.ne_of_lt (Nat.lt_of_lt_of_le V.lt (Nat.le_of_eq g1.symm)))).other W3 (Nat.ne_of_lt (Nat.lt_of_lt_of_le V.lt (Nat.le_of_eq g1.symm)))).other W4 (Nat.ne_of_lt (Nat.lt_of_lt_of_le V.lt (Nat.le_of_eq g1.symm)))) Vt11 i0 i1 i2) hZ (hw _ (List.mem_of_getElem? (i := 9) rfl)) (hw _ (List.mem_of_getElem? (i := 8) rfl)) (by decide) (by decide)) (g := (mkF m 333 #[.val (.long q1), .second, .val (.long q3), .second, .val (.int p4), .val (.int p5), .val (.int p6), .val (.int p7), .val (.ref b), .val (.int f9), .val (.int t10), .val (.int (3 : Int32)), .val (.int t12), .val (.int t13), .val (.int t14), .val (.int t15), .val (.int t16), .val (.ref b1), .val (.int (0 : Int32))] [(.ref b1), (.int t10), (.int f9), (.ref b)])) rfl (by rw [hml]; rfl) (argsL := [(.ref b), (.int f9), (.int t10), (.ref b1)]) (rest := []) (lenOf pd_0 rfl) rfl (by show 2 * 0 + _ ≤ _; exact Nat.le_of_eq rfl) (hb hby at_333) (fun _ _ => ⟨rfl, e4, (by decide : 2 + 0 ≤ _), (by decide : 8 + 0 ≤ _)⟩)
      dsimp only [Pt.U, Pt.locs, Pt.cells, Pt.slots] at X11 l11 y11 z11 st11 hQ11
      subst l11 y11 z11
      obtain ⟨rfl, N11q, eh11⟩ := hQ11
      have N11 := Fr.app N4 N11q
      refine own_via st11 ?_
      show own_Rch p.tables e below (T11.setTop (mkF m 336 #[.val (.long q1), .second, .val (.long q3), .second, .val (.int p4), .val (.int p5), .val (.int p6), .val (.int p7), .val (.ref b), .val (.int f9), .val (.int t10), .val (.int (3 : Int32)), .val (.int t12), .val (.int t13), .val (.int t14), .val (.int t15), .val (.int t16), .val (.ref b1), .val (.int (0 : Int32))] [(.int (own_n4_3 l_ [t12, t13, t14] f9 t10))])) _
      refine own_via (fun t k => XS.iload X11.here hx rfl (hb hby at_336) rfl k) ?_
      show own_Rch p.tables e below (T11.setTop (mkF m 338 #[.val (.long q1), .second, .val (.long q3), .second, .val (.int p4), .val (.int p5), .val (.int p6), .val (.int p7), .val (.ref b), .val (.int f9), .val (.int t10), .val (.int (3 : Int32)), .val (.int t12), .val (.int t13), .val (.int t14), .val (.int t15), .val (.int t16), .val (.ref b1), .val (.int (0 : Int32))] [(.int (0 : Int32)), (.int (own_n4_3 l_ [t12, t13, t14] f9 t10))])) _
      have a0_ : own_at [t12, t13, t14] (0 : Int32) = t12 := rfl
      have a1_ : own_at [t12, t13, t14] (1 : Int32) = t13 := rfl
      have a2_ : own_at [t12, t13, t14] (2 : Int32) = t14 := rfl
      have hq : (own_n4_3 l_ [t12, t13, t14] f9 t10) = (0 : Int32) := by simp only [own_n4_3, Int32.add_zero, a0_, a1_, a2_, if_pos c227, if_neg c243]
      refine own_via (fun t k => XS.icmpNo X11.here hx rfl (hb hby at_338) rfl (teq hq).2 k) ?_
      show own_Rch p.tables e below (T11.setTop (mkF m 341 #[.val (.long q1), .second, .val (.long q3), .second, .val (.int p4), .val (.int p5), .val (.int p6), .val (.int p7), .val (.ref b), .val (.int f9), .val (.int t10), .val (.int (3 : Int32)), .val (.int t12), .val (.int t13), .val (.int t14), .val (.int t15), .val (.int t16), .val (.ref b1), .val (.int (0 : Int32))] [])) _
      refine own_via (fun t k => XS.iconst X11.here hx rfl (hb hby at_341) k) ?_
      show own_Rch p.tables e below (T11.setTop (mkF m 342 #[.val (.long q1), .second, .val (.long q3), .second, .val (.int p4), .val (.int p5), .val (.int p6), .val (.int p7), .val (.ref b), .val (.int f9), .val (.int t10), .val (.int (3 : Int32)), .val (.int t12), .val (.int t13), .val (.int t14), .val (.int t15), .val (.int t16), .val (.ref b1), .val (.int (0 : Int32))] [(.int (1 : Int32))])) _
      refine own_via (fun t k => XS.goto X11.here hx rfl (pc0 := 342) (pc' := 346) rfl (hb hby at_342) (by decide) (by decide) k) ?_
      show own_Rch p.tables e below (T11.setTop (mkF m 346 #[.val (.long q1), .second, .val (.long q3), .second, .val (.int p4), .val (.int p5), .val (.int p6), .val (.int p7), .val (.ref b), .val (.int f9), .val (.int t10), .val (.int (3 : Int32)), .val (.int t12), .val (.int t13), .val (.int t14), .val (.int t15), .val (.int t16), .val (.ref b1), .val (.int (0 : Int32))] [(.int (1 : Int32))])) _
      exact own_fin X11 hx (t := .boolean) (i := .ireturn) hret hlk rfl (Or.inl ⟨rfl, by simp, _, rfl⟩) (hb hby at_346) (by decide) (by decide) ⟨rfl, N11⟩
  · refine own_via (fun t k => XS.icmpYes X4.here hx rfl (pc0 := 227) (pc' := 322) rfl (hb hby at_227) rfl (feq c227).2 (by decide) (by decide) k) ?_
    show own_Rch p.tables e below (T4.setTop (mkF m 322 #[.val (.long q1), .second, .val (.long q3), .second, .val (.int p4), .val (.int p5), .val (.int p6), .val (.int p7), .val (.ref b), .val (.int f9), .val (.int t10), .val (.int (3 : Int32)), .val (.int t12), .val (.int t13), .val (.int t14), .val (.int t15), .val (.int t16), .val (.ref b1), .unset] [])) _
    refine own_via (fun t k => XS.iconst X4.here hx rfl (hb hby at_322) k) ?_
    show own_Rch p.tables e below (T4.setTop (mkF m 323 #[.val (.long q1), .second, .val (.long q3), .second, .val (.int p4), .val (.int p5), .val (.int p6), .val (.int p7), .val (.ref b), .val (.int f9), .val (.int t10), .val (.int (3 : Int32)), .val (.int t12), .val (.int t13), .val (.int t14), .val (.int t15), .val (.int t16), .val (.ref b1), .unset] [(.int (0 : Int32))])) _
    refine own_via (fun t k => XS.istore X4.here hx rfl (hb hby at_323) rfl (l' := #[.val (.long q1), .second, .val (.long q3), .second, .val (.int p4), .val (.int p5), .val (.int p6), .val (.int p7), .val (.ref b), .val (.int f9), .val (.int t10), .val (.int (3 : Int32)), .val (.int t12), .val (.int t13), .val (.int t14), .val (.int t15), .val (.int t16), .val (.ref b1), .val (.int (0 : Int32))]) rfl k) ?_
    show own_Rch p.tables e below (T4.setTop (mkF m 325 #[.val (.long q1), .second, .val (.long q3), .second, .val (.int p4), .val (.int p5), .val (.int p6), .val (.int p7), .val (.ref b), .val (.int f9), .val (.int t10), .val (.int (3 : Int32)), .val (.int t12), .val (.int t13), .val (.int t14), .val (.int t15), .val (.int t16), .val (.ref b1), .val (.int (0 : Int32))] [])) _
    refine own_via (fun t k => XS.aload X4.here hx rfl (hb hby at_325) rfl rfl k) ?_
    show own_Rch p.tables e below (T4.setTop (mkF m 327 #[.val (.long q1), .second, .val (.long q3), .second, .val (.int p4), .val (.int p5), .val (.int p6), .val (.int p7), .val (.ref b), .val (.int f9), .val (.int t10), .val (.int (3 : Int32)), .val (.int t12), .val (.int t13), .val (.int t14), .val (.int t15), .val (.int t16), .val (.ref b1), .val (.int (0 : Int32))] [(.ref b)])) _
    refine own_via (fun t k => XS.iload X4.here hx rfl (hb hby at_327) rfl k) ?_
    show own_Rch p.tables e below (T4.setTop (mkF m 329 #[.val (.long q1), .second, .val (.long q3), .second, .val (.int p4), .val (.int p5), .val (.int p6), .val (.int p7), .val (.ref b), .val (.int f9), .val (.int t10), .val (.int (3 : Int32)), .val (.int t12), .val (.int t13), .val (.int t14), .val (.int t15), .val (.int t16), .val (.ref b1), .val (.int (0 : Int32))] [(.int f9), (.ref b)])) _
    refine own_via (fun t k => XS.iload X4.here hx rfl (hb hby at_329) rfl k) ?_
    show own_Rch p.tables e below (T4.setTop (mkF m 331 #[.val (.long q1), .second, .val (.long q3), .second, .val (.int p4), .val (.int p5), .val (.int p6), .val (.int p7), .val (.ref b), .val (.int f9), .val (.int t10), .val (.int (3 : Int32)), .val (.int t12), .val (.int t13), .val (.int t14), .val (.int t15), .val (.int t16), .val (.ref b1), .val (.int (0 : Int32))] [(.int t10), (.int f9), (.ref b)])) _
    refine own_via (fun t k => XS.aload X4.here hx rfl (hb hby at_331) rfl rfl k) ?_
    show own_Rch p.tables e below (T4.setTop (mkF m 333 #[.val (.long q1), .second, .val (.long q3), .second, .val (.int p4), .val (.int p5), .val (.int p6), .val (.int p7), .val (.ref b), .val (.int f9), .val (.int t10), .val (.int (3 : Int32)), .val (.int t12), .val (.int t13), .val (.int t14), .val (.int t15), .val (.int t16), .val (.ref b1), .val (.int (0 : Int32))] [(.ref b1), (.int t10), (.int f9), (.ref b)])) _
    have Vt12 := V4'
    rw [hbt12, hbt13, hbt14] at Vt12
    obtain ⟨_, _, ⟨T12, L12, k12, n12⟩, -, X12, ⟨Lc12, hQ12, l12, y12, z12⟩, st12⟩ := Jvm.LawKit.callS X4 hx (y := (⟨"com/example/lastkey/lastkey/exec/TextFormat", "isNull", "([BII[B)Z"⟩ : MethodName)) hown (mvT hZ (hw _ (List.mem_of_getElem? (i := 6) rfl))) (mvT hZ (hw _ (List.mem_of_getElem? (i := 7) rfl))) (mvT hZ (hw _ (List.mem_of_getElem? (i := 8) rfl))) (mvT hZ (hw _ (List.mem_of_getElem? (i := 9) rfl))) (by decide) (backOf (W := 0) (rm2_3 l Z a0 hw [] b f9 t10 b1 l_ [t12, t13, t14] kb k1 h4 n0 ((((V.ext E1).other W2 (Nat.ne_of_lt (Nat.lt_of_lt_of_le V.lt (Nat.le_of_eq g1.symm)))).other W3 (Nat.ne_of_lt (Nat.lt_of_lt_of_le V.lt (Nat.le_of_eq g1.symm)))).other W4 (Nat.ne_of_lt (Nat.lt_of_lt_of_le V.lt (Nat.le_of_eq g1.symm)))) Vt12 i0 i1 i2) hZ (hw _ (List.mem_of_getElem? (i := 9) rfl)) (hw _ (List.mem_of_getElem? (i := 8) rfl)) (by decide) (by decide)) (g := (mkF m 333 #[.val (.long q1), .second, .val (.long q3), .second, .val (.int p4), .val (.int p5), .val (.int p6), .val (.int p7), .val (.ref b), .val (.int f9), .val (.int t10), .val (.int (3 : Int32)), .val (.int t12), .val (.int t13), .val (.int t14), .val (.int t15), .val (.int t16), .val (.ref b1), .val (.int (0 : Int32))] [(.ref b1), (.int t10), (.int f9), (.ref b)])) rfl (by rw [hml]; rfl) (argsL := [(.ref b), (.int f9), (.int t10), (.ref b1)]) (rest := []) (lenOf pd_0 rfl) rfl (by show 2 * 0 + _ ≤ _; exact Nat.le_of_eq rfl) (hb hby at_333) (fun _ _ => ⟨rfl, e4, (by decide : 2 + 0 ≤ _), (by decide : 8 + 0 ≤ _)⟩)
    dsimp only [Pt.U, Pt.locs, Pt.cells, Pt.slots] at X12 l12 y12 z12 st12 hQ12
    subst l12 y12 z12
    obtain ⟨rfl, N12q, eh12⟩ := hQ12
    have N12 := Fr.app N4 N12q
    refine own_via st12 ?_
    show own_Rch p.tables e below (T12.setTop (mkF m 336 #[.val (.long q1), .second, .val (.long q3), .second, .val (.int p4), .val (.int p5), .val (.int p6), .val (.int p7), .val (.ref b), .val (.int f9), .val (.int t10), .val (.int (3 : Int32)), .val (.int t12), .val (.int t13), .val (.int t14), .val (.int t15), .val (.int t16), .val (.ref b1), .val (.int (0 : Int32))] [(.int (own_n4_3 l_ [t12, t13, t14] f9 t10))])) _
    refine own_via (fun t k => XS.iload X12.here hx rfl (hb hby at_336) rfl k) ?_
    show own_Rch p.tables e below (T12.setTop (mkF m 338 #[.val (.long q1), .second, .val (.long q3), .second, .val (.int p4), .val (.int p5), .val (.int p6), .val (.int p7), .val (.ref b), .val (.int f9), .val (.int t10), .val (.int (3 : Int32)), .val (.int t12), .val (.int t13), .val (.int t14), .val (.int t15), .val (.int t16), .val (.ref b1), .val (.int (0 : Int32))] [(.int (0 : Int32)), (.int (own_n4_3 l_ [t12, t13, t14] f9 t10))])) _
    have a0_ : own_at [t12, t13, t14] (0 : Int32) = t12 := rfl
    have a1_ : own_at [t12, t13, t14] (1 : Int32) = t13 := rfl
    have a2_ : own_at [t12, t13, t14] (2 : Int32) = t14 := rfl
    have hq : (own_n4_3 l_ [t12, t13, t14] f9 t10) = (0 : Int32) := by simp only [own_n4_3, Int32.add_zero, a0_, a1_, a2_, if_neg c227]
    refine own_via (fun t k => XS.icmpNo X12.here hx rfl (hb hby at_338) rfl (teq hq).2 k) ?_
    show own_Rch p.tables e below (T12.setTop (mkF m 341 #[.val (.long q1), .second, .val (.long q3), .second, .val (.int p4), .val (.int p5), .val (.int p6), .val (.int p7), .val (.ref b), .val (.int f9), .val (.int t10), .val (.int (3 : Int32)), .val (.int t12), .val (.int t13), .val (.int t14), .val (.int t15), .val (.int t16), .val (.ref b1), .val (.int (0 : Int32))] [])) _
    refine own_via (fun t k => XS.iconst X12.here hx rfl (hb hby at_341) k) ?_
    show own_Rch p.tables e below (T12.setTop (mkF m 342 #[.val (.long q1), .second, .val (.long q3), .second, .val (.int p4), .val (.int p5), .val (.int p6), .val (.int p7), .val (.ref b), .val (.int f9), .val (.int t10), .val (.int (3 : Int32)), .val (.int t12), .val (.int t13), .val (.int t14), .val (.int t15), .val (.int t16), .val (.ref b1), .val (.int (0 : Int32))] [(.int (1 : Int32))])) _
    refine own_via (fun t k => XS.goto X12.here hx rfl (pc0 := 342) (pc' := 346) rfl (hb hby at_342) (by decide) (by decide) k) ?_
    show own_Rch p.tables e below (T12.setTop (mkF m 346 #[.val (.long q1), .second, .val (.long q3), .second, .val (.int p4), .val (.int p5), .val (.int p6), .val (.int p7), .val (.ref b), .val (.int f9), .val (.int t10), .val (.int (3 : Int32)), .val (.int t12), .val (.int t13), .val (.int t14), .val (.int t15), .val (.int t16), .val (.ref b1), .val (.int (0 : Int32))] [(.int (1 : Int32))])) _
    exact own_fin X12 hx (t := .boolean) (i := .ireturn) hret hlk rfl (Or.inl ⟨rfl, by simp, _, rfl⟩) (hb hby at_346) (by decide) (by decide) ⟨rfl, N12⟩
set_option maxRecDepth 65536 in
set_option maxHeartbeats 40000000 in
theorem tl_4 {p : Program} {l : Launch} {e : Env} {s : State} {m : MethodId} {args : Array Value} {below : List Frame} {meth : Method} {c : Code} {T0 : State} {locs : List Loc} {Z : State} {a0 : Array Value} {h0 : Heap} {n0 : Nat} (q1 q3 : Int64) (p4 p5 p6 p7 : Int32) (b : Addr) (f9 t10 t12 t13 t14 t15 t16 : Int32) (l_ : List Int32) (kb : ClassId)
    (X0 : Stand p l e room_1 s m args below meth c T0 locs 1 5) (hx : p.tables.exec = Jvm.exec) (hZ : Z.Warmed39 s.vm) (hw : ∀ d ∈ tables_1, d.before a0 Z = true) (hby : c.code = code) (hml : c.maxLocals = 19) (hown : s.vm.findClass "com/example/lastkey/lastkey/exec/TextFormatIsNullPinLaw" = some m.cls) (hret : meth.sig.returnType = some .boolean) (hlk : meth.locks = false) (e0 : T0.heap = h0) (N0 : Fr n0 locs) (Z0 : n0 ≤ h0.size) (V : Arv Z h0 b kb .byte (5 : Int32) (l_.map Value.int) (.int 0)) (i0 : 0 ≤ f9.toInt) (i1 : t10.toInt ≤ (5 : Int32).toInt) (i2 : 0 ≤ t10.toInt) (hbt12 : t12.toInt8.toInt32 = t12) (hbt13 : t13.toInt8.toInt32 = t13) (hbt14 : t14.toInt8.toInt32 = t14) (hbt15 : t15.toInt8.toInt32 = t15) (hbt16 : t16.toInt8.toInt32 = t16) :
    own_Rch p.tables e below (T0.setTop (mkF m 155 #[.val (.long q1), .second, .val (.long q3), .second, .val (.int p4), .val (.int p5), .val (.int p6), .val (.int p7), .val (.ref b), .val (.int f9), .val (.int t10), .val (.int (4 : Int32)), .val (.int t12), .val (.int t13), .val (.int t14), .val (.int t15), .val (.int t16), .unset, .unset] [])) (own_End s (Q0 n0) room_1.cells room_1.slots) := by
  show own_Rch p.tables e below (T0.setTop (mkF m 155 #[.val (.long q1), .second, .val (.long q3), .second, .val (.int p4), .val (.int p5), .val (.int p6), .val (.int p7), .val (.ref b), .val (.int f9), .val (.int t10), .val (.int (4 : Int32)), .val (.int t12), .val (.int t13), .val (.int t14), .val (.int t15), .val (.int t16), .unset, .unset] [])) _
  refine own_via (fun t k => XS.iload X0.here hx rfl (hb hby at_155) rfl k) ?_
  show own_Rch p.tables e below (T0.setTop (mkF m 157 #[.val (.long q1), .second, .val (.long q3), .second, .val (.int p4), .val (.int p5), .val (.int p6), .val (.int p7), .val (.ref b), .val (.int f9), .val (.int t10), .val (.int (4 : Int32)), .val (.int t12), .val (.int t13), .val (.int t14), .val (.int t15), .val (.int t16), .unset, .unset] [(.int (4 : Int32))])) _
  obtain ⟨T1, h1, k1, X1, e1, E1, A1, st1⟩ := newP X0 hx hZ (hw _ (List.mem_of_getElem? (i := 0) rfl)) e0 (g := (mkF m 157 #[.val (.long q1), .second, .val (.long q3), .second, .val (.int p4), .val (.int p5), .val (.int p6), .val (.int p7), .val (.ref b), .val (.int f9), .val (.int t10), .val (.int (4 : Int32)), .val (.int t12), .val (.int t13), .val (.int t14), .val (.int t15), .val (.int t16), .unset, .unset] [(.int (4 : Int32))])) rfl (hb hby at_157) rfl (by decide) (cap := 4) (by decide) (by decide) (by decide) (by decide)
  obtain ⟨b1, g1⟩ : ∃ z, z = h0.size := ⟨_, rfl⟩
  rw [← g1] at A1 st1
  have g_b1 : n0 ≤ b1 := Nat.le_trans Z0 (Nat.le_of_eq g1.symm)
  have V1 : Arv Z h1 b1 k1 .byte (4 : Int32) [(.int (0 : Int32)), (.int (0 : Int32)), (.int (0 : Int32)), (.int (0 : Int32))] (.int (0 : Int32)) := (Arv.new A1 (by decide)).pad (pad_rep [] (.int (0 : Int32)) 4)
  refine own_via st1 ?_
  show own_Rch p.tables e below (T1.setTop (mkF m 159 #[.val (.long q1), .second, .val (.long q3), .second, .val (.int p4), .val (.int p5), .val (.int p6), .val (.int p7), .val (.ref b), .val (.int f9), .val (.int t10), .val (.int (4 : Int32)), .val (.int t12), .val (.int t13), .val (.int t14), .val (.int t15), .val (.int t16), .unset, .unset] [(.ref b1)])) _
  refine own_via (fun t k => XS.astore X1.here hx rfl (hb hby at_159) rfl rfl (l' := #[.val (.long q1), .second, .val (.long q3), .second, .val (.int p4), .val (.int p5), .val (.int p6), .val (.int p7), .val (.ref b), .val (.int f9), .val (.int t10), .val (.int (4 : Int32)), .val (.int t12), .val (.int t13), .val (.int t14), .val (.int t15), .val (.int t16), .val (.ref b1), .unset]) rfl k) ?_
  show own_Rch p.tables e below (T1.setTop (mkF m 161 #[.val (.long q1), .second, .val (.long q3), .second, .val (.int p4), .val (.int p5), .val (.int p6), .val (.int p7), .val (.ref b), .val (.int f9), .val (.int t10), .val (.int (4 : Int32)), .val (.int t12), .val (.int t13), .val (.int t14), .val (.int t15), .val (.int t16), .val (.ref b1), .unset] [])) _
  refine own_via (fun t k => XS.iload X1.here hx rfl (hb hby at_161) rfl k) ?_
  show own_Rch p.tables e below (T1.setTop (mkF m 163 #[.val (.long q1), .second, .val (.long q3), .second, .val (.int p4), .val (.int p5), .val (.int p6), .val (.int p7), .val (.ref b), .val (.int f9), .val (.int t10), .val (.int (4 : Int32)), .val (.int t12), .val (.int t13), .val (.int t14), .val (.int t15), .val (.int t16), .val (.ref b1), .unset] [(.int (4 : Int32))])) _
  refine own_via (fun t k => XS.ifNo X1.here hx rfl (hb hby at_163) rfl ((if0 _ _).trans (tlt (by decide : (0 : Int32) < (4 : Int32))).2.2.2) k) ?_
  show own_Rch p.tables e below (T1.setTop (mkF m 166 #[.val (.long q1), .second, .val (.long q3), .second, .val (.int p4), .val (.int p5), .val (.int p6), .val (.int p7), .val (.ref b), .val (.int f9), .val (.int t10), .val (.int (4 : Int32)), .val (.int t12), .val (.int t13), .val (.int t14), .val (.int t15), .val (.int t16), .val (.ref b1), .unset] [])) _
  refine own_via (fun t k => XS.aload X1.here hx rfl (hb hby at_166) rfl rfl k) ?_
  show own_Rch p.tables e below (T1.setTop (mkF m 168 #[.val (.long q1), .second, .val (.long q3), .second, .val (.int p4), .val (.int p5), .val (.int p6), .val (.int p7), .val (.ref b), .val (.int f9), .val (.int t10), .val (.int (4 : Int32)), .val (.int t12), .val (.int t13), .val (.int t14), .val (.int t15), .val (.int t16), .val (.ref b1), .unset] [(.ref b1)])) _
  refine own_via (fun t k => XS.iconst X1.here hx rfl (hb hby at_168) k) ?_
  show own_Rch p.tables e below (T1.setTop (mkF m 169 #[.val (.long q1), .second, .val (.long q3), .second, .val (.int p4), .val (.int p5), .val (.int p6), .val (.int p7), .val (.ref b), .val (.int f9), .val (.int t10), .val (.int (4 : Int32)), .val (.int t12), .val (.int t13), .val (.int t14), .val (.int t15), .val (.int t16), .val (.ref b1), .unset] [(.int (0 : Int32)), (.ref b1)])) _
  refine own_via (fun t k => XS.iload X1.here hx rfl (hb hby at_169) rfl k) ?_
  show own_Rch p.tables e below (T1.setTop (mkF m 171 #[.val (.long q1), .second, .val (.long q3), .second, .val (.int p4), .val (.int p5), .val (.int p6), .val (.int p7), .val (.ref b), .val (.int f9), .val (.int t10), .val (.int (4 : Int32)), .val (.int t12), .val (.int t13), .val (.int t14), .val (.int t15), .val (.int t16), .val (.ref b1), .unset] [(.int t12), (.int (0 : Int32)), (.ref b1)])) _
  obtain ⟨cl2, Ar2, cq_2, S2, M2, H2, G2⟩ := V1
  have hin2 : ¬ ((0 : Int32) < 0 ∨ cl2.slots.size ≤ ((0 : Int32)).toNatClampNeg) := inb_of S2 ⟨by decide, by decide⟩
  obtain ⟨T2, h2, X2, e2, W2, st2⟩ := stB X1 hx hZ e1 Ar2 (j := (0 : Int32)) hin2 (g := (mkF m 171 #[.val (.long q1), .second, .val (.long q3), .second, .val (.int p4), .val (.int p5), .val (.int p6), .val (.int p7), .val (.ref b), .val (.int f9), .val (.int t10), .val (.int (4 : Int32)), .val (.int t12), .val (.int t13), .val (.int t14), .val (.int t15), .val (.int t16), .val (.ref b1), .unset] [(.int t12), (.int (0 : Int32)), (.ref b1)])) rfl rfl (hb hby at_171)
  have V2 := Arv.set Ar2 cq_2 S2 M2 H2 G2 (fits_nar_byte _) W2 0 rfl (Nat.le_of_ble_eq_true rfl)
  have V2' : Arv Z h2 b1 k1 .byte (4 : Int32) [(.int (t12.toInt8.toInt32)), (.int (0 : Int32)), (.int (0 : Int32)), (.int (0 : Int32))] (.int (0 : Int32)) := V2
  have N2 := Fr.snoc X2 N0 g_b1
  refine own_via st2 ?_
  show own_Rch p.tables e below (T2.setTop (mkF m 172 #[.val (.long q1), .second, .val (.long q3), .second, .val (.int p4), .val (.int p5), .val (.int p6), .val (.int p7), .val (.ref b), .val (.int f9), .val (.int t10), .val (.int (4 : Int32)), .val (.int t12), .val (.int t13), .val (.int t14), .val (.int t15), .val (.int t16), .val (.ref b1), .unset] [])) _
  refine own_via (fun t k => XS.iload X2.here hx rfl (hb hby at_172) rfl k) ?_
  show own_Rch p.tables e below (T2.setTop (mkF m 174 #[.val (.long q1), .second, .val (.long q3), .second, .val (.int p4), .val (.int p5), .val (.int p6), .val (.int p7), .val (.ref b), .val (.int f9), .val (.int t10), .val (.int (4 : Int32)), .val (.int t12), .val (.int t13), .val (.int t14), .val (.int t15), .val (.int t16), .val (.ref b1), .unset] [(.int (4 : Int32))])) _
  refine own_via (fun t k => XS.iconst X2.here hx rfl (hb hby at_174) k) ?_
  show own_Rch p.tables e below (T2.setTop (mkF m 175 #[.val (.long q1), .second, .val (.long q3), .second, .val (.int p4), .val (.int p5), .val (.int p6), .val (.int p7), .val (.ref b), .val (.int f9), .val (.int t10), .val (.int (4 : Int32)), .val (.int t12), .val (.int t13), .val (.int t14), .val (.int t15), .val (.int t16), .val (.ref b1), .unset] [(.int (1 : Int32)), (.int (4 : Int32))])) _
  refine own_via (fun t k => XS.icmpNo X2.here hx rfl (hb hby at_175) rfl (tlt (by decide : (1 : Int32) < (4 : Int32))).2.2.2 k) ?_
  show own_Rch p.tables e below (T2.setTop (mkF m 178 #[.val (.long q1), .second, .val (.long q3), .second, .val (.int p4), .val (.int p5), .val (.int p6), .val (.int p7), .val (.ref b), .val (.int f9), .val (.int t10), .val (.int (4 : Int32)), .val (.int t12), .val (.int t13), .val (.int t14), .val (.int t15), .val (.int t16), .val (.ref b1), .unset] [])) _
  refine own_via (fun t k => XS.aload X2.here hx rfl (hb hby at_178) rfl rfl k) ?_
  show own_Rch p.tables e below (T2.setTop (mkF m 180 #[.val (.long q1), .second, .val (.long q3), .second, .val (.int p4), .val (.int p5), .val (.int p6), .val (.int p7), .val (.ref b), .val (.int f9), .val (.int t10), .val (.int (4 : Int32)), .val (.int t12), .val (.int t13), .val (.int t14), .val (.int t15), .val (.int t16), .val (.ref b1), .unset] [(.ref b1)])) _
  refine own_via (fun t k => XS.iconst X2.here hx rfl (hb hby at_180) k) ?_
  show own_Rch p.tables e below (T2.setTop (mkF m 181 #[.val (.long q1), .second, .val (.long q3), .second, .val (.int p4), .val (.int p5), .val (.int p6), .val (.int p7), .val (.ref b), .val (.int f9), .val (.int t10), .val (.int (4 : Int32)), .val (.int t12), .val (.int t13), .val (.int t14), .val (.int t15), .val (.int t16), .val (.ref b1), .unset] [(.int (1 : Int32)), (.ref b1)])) _
  refine own_via (fun t k => XS.iload X2.here hx rfl (hb hby at_181) rfl k) ?_
  show own_Rch p.tables e below (T2.setTop (mkF m 183 #[.val (.long q1), .second, .val (.long q3), .second, .val (.int p4), .val (.int p5), .val (.int p6), .val (.int p7), .val (.ref b), .val (.int f9), .val (.int t10), .val (.int (4 : Int32)), .val (.int t12), .val (.int t13), .val (.int t14), .val (.int t15), .val (.int t16), .val (.ref b1), .unset] [(.int t13), (.int (1 : Int32)), (.ref b1)])) _
  obtain ⟨cl3, Ar3, cq_3, S3, M3, H3, G3⟩ := V2'
  have hin3 : ¬ ((1 : Int32) < 0 ∨ cl3.slots.size ≤ ((1 : Int32)).toNatClampNeg) := inb_of S3 ⟨by decide, by decide⟩
  obtain ⟨T3, h3, X3, e3, W3, st3⟩ := stB X2 hx hZ e2 Ar3 (j := (1 : Int32)) hin3 (g := (mkF m 183 #[.val (.long q1), .second, .val (.long q3), .second, .val (.int p4), .val (.int p5), .val (.int p6), .val (.int p7), .val (.ref b), .val (.int f9), .val (.int t10), .val (.int (4 : Int32)), .val (.int t12), .val (.int t13), .val (.int t14), .val (.int t15), .val (.int t16), .val (.ref b1), .unset] [(.int t13), (.int (1 : Int32)), (.ref b1)])) rfl rfl (hb hby at_183)
  have V3 := Arv.set Ar3 cq_3 S3 M3 H3 G3 (fits_nar_byte _) W3 1 rfl (Nat.le_of_ble_eq_true rfl)
  have V3' : Arv Z h3 b1 k1 .byte (4 : Int32) [(.int (t12.toInt8.toInt32)), (.int (t13.toInt8.toInt32)), (.int (0 : Int32)), (.int (0 : Int32))] (.int (0 : Int32)) := V3
  have N3 := Fr.snoc X3 N2 g_b1
  refine own_via st3 ?_
  show own_Rch p.tables e below (T3.setTop (mkF m 184 #[.val (.long q1), .second, .val (.long q3), .second, .val (.int p4), .val (.int p5), .val (.int p6), .val (.int p7), .val (.ref b), .val (.int f9), .val (.int t10), .val (.int (4 : Int32)), .val (.int t12), .val (.int t13), .val (.int t14), .val (.int t15), .val (.int t16), .val (.ref b1), .unset] [])) _
  refine own_via (fun t k => XS.iload X3.here hx rfl (hb hby at_184) rfl k) ?_
  show own_Rch p.tables e below (T3.setTop (mkF m 186 #[.val (.long q1), .second, .val (.long q3), .second, .val (.int p4), .val (.int p5), .val (.int p6), .val (.int p7), .val (.ref b), .val (.int f9), .val (.int t10), .val (.int (4 : Int32)), .val (.int t12), .val (.int t13), .val (.int t14), .val (.int t15), .val (.int t16), .val (.ref b1), .unset] [(.int (4 : Int32))])) _
  refine own_via (fun t k => XS.iconst X3.here hx rfl (hb hby at_186) k) ?_
  show own_Rch p.tables e below (T3.setTop (mkF m 187 #[.val (.long q1), .second, .val (.long q3), .second, .val (.int p4), .val (.int p5), .val (.int p6), .val (.int p7), .val (.ref b), .val (.int f9), .val (.int t10), .val (.int (4 : Int32)), .val (.int t12), .val (.int t13), .val (.int t14), .val (.int t15), .val (.int t16), .val (.ref b1), .unset] [(.int (2 : Int32)), (.int (4 : Int32))])) _
  refine own_via (fun t k => XS.icmpNo X3.here hx rfl (hb hby at_187) rfl (tlt (by decide : (2 : Int32) < (4 : Int32))).2.2.2 k) ?_
  show own_Rch p.tables e below (T3.setTop (mkF m 190 #[.val (.long q1), .second, .val (.long q3), .second, .val (.int p4), .val (.int p5), .val (.int p6), .val (.int p7), .val (.ref b), .val (.int f9), .val (.int t10), .val (.int (4 : Int32)), .val (.int t12), .val (.int t13), .val (.int t14), .val (.int t15), .val (.int t16), .val (.ref b1), .unset] [])) _
  refine own_via (fun t k => XS.aload X3.here hx rfl (hb hby at_190) rfl rfl k) ?_
  show own_Rch p.tables e below (T3.setTop (mkF m 192 #[.val (.long q1), .second, .val (.long q3), .second, .val (.int p4), .val (.int p5), .val (.int p6), .val (.int p7), .val (.ref b), .val (.int f9), .val (.int t10), .val (.int (4 : Int32)), .val (.int t12), .val (.int t13), .val (.int t14), .val (.int t15), .val (.int t16), .val (.ref b1), .unset] [(.ref b1)])) _
  refine own_via (fun t k => XS.iconst X3.here hx rfl (hb hby at_192) k) ?_
  show own_Rch p.tables e below (T3.setTop (mkF m 193 #[.val (.long q1), .second, .val (.long q3), .second, .val (.int p4), .val (.int p5), .val (.int p6), .val (.int p7), .val (.ref b), .val (.int f9), .val (.int t10), .val (.int (4 : Int32)), .val (.int t12), .val (.int t13), .val (.int t14), .val (.int t15), .val (.int t16), .val (.ref b1), .unset] [(.int (2 : Int32)), (.ref b1)])) _
  refine own_via (fun t k => XS.iload X3.here hx rfl (hb hby at_193) rfl k) ?_
  show own_Rch p.tables e below (T3.setTop (mkF m 195 #[.val (.long q1), .second, .val (.long q3), .second, .val (.int p4), .val (.int p5), .val (.int p6), .val (.int p7), .val (.ref b), .val (.int f9), .val (.int t10), .val (.int (4 : Int32)), .val (.int t12), .val (.int t13), .val (.int t14), .val (.int t15), .val (.int t16), .val (.ref b1), .unset] [(.int t14), (.int (2 : Int32)), (.ref b1)])) _
  obtain ⟨cl4, Ar4, cq_4, S4, M4, H4, G4⟩ := V3'
  have hin4 : ¬ ((2 : Int32) < 0 ∨ cl4.slots.size ≤ ((2 : Int32)).toNatClampNeg) := inb_of S4 ⟨by decide, by decide⟩
  obtain ⟨T4, h4, X4, e4, W4, st4⟩ := stB X3 hx hZ e3 Ar4 (j := (2 : Int32)) hin4 (g := (mkF m 195 #[.val (.long q1), .second, .val (.long q3), .second, .val (.int p4), .val (.int p5), .val (.int p6), .val (.int p7), .val (.ref b), .val (.int f9), .val (.int t10), .val (.int (4 : Int32)), .val (.int t12), .val (.int t13), .val (.int t14), .val (.int t15), .val (.int t16), .val (.ref b1), .unset] [(.int t14), (.int (2 : Int32)), (.ref b1)])) rfl rfl (hb hby at_195)
  have V4 := Arv.set Ar4 cq_4 S4 M4 H4 G4 (fits_nar_byte _) W4 2 rfl (Nat.le_of_ble_eq_true rfl)
  have V4' : Arv Z h4 b1 k1 .byte (4 : Int32) [(.int (t12.toInt8.toInt32)), (.int (t13.toInt8.toInt32)), (.int (t14.toInt8.toInt32)), (.int (0 : Int32))] (.int (0 : Int32)) := V4
  have N4 := Fr.snoc X4 N3 g_b1
  refine own_via st4 ?_
  show own_Rch p.tables e below (T4.setTop (mkF m 196 #[.val (.long q1), .second, .val (.long q3), .second, .val (.int p4), .val (.int p5), .val (.int p6), .val (.int p7), .val (.ref b), .val (.int f9), .val (.int t10), .val (.int (4 : Int32)), .val (.int t12), .val (.int t13), .val (.int t14), .val (.int t15), .val (.int t16), .val (.ref b1), .unset] [])) _
  refine own_via (fun t k => XS.iload X4.here hx rfl (hb hby at_196) rfl k) ?_
  show own_Rch p.tables e below (T4.setTop (mkF m 198 #[.val (.long q1), .second, .val (.long q3), .second, .val (.int p4), .val (.int p5), .val (.int p6), .val (.int p7), .val (.ref b), .val (.int f9), .val (.int t10), .val (.int (4 : Int32)), .val (.int t12), .val (.int t13), .val (.int t14), .val (.int t15), .val (.int t16), .val (.ref b1), .unset] [(.int (4 : Int32))])) _
  refine own_via (fun t k => XS.iconst X4.here hx rfl (hb hby at_198) k) ?_
  show own_Rch p.tables e below (T4.setTop (mkF m 199 #[.val (.long q1), .second, .val (.long q3), .second, .val (.int p4), .val (.int p5), .val (.int p6), .val (.int p7), .val (.ref b), .val (.int f9), .val (.int t10), .val (.int (4 : Int32)), .val (.int t12), .val (.int t13), .val (.int t14), .val (.int t15), .val (.int t16), .val (.ref b1), .unset] [(.int (3 : Int32)), (.int (4 : Int32))])) _
  refine own_via (fun t k => XS.icmpNo X4.here hx rfl (hb hby at_199) rfl (tlt (by decide : (3 : Int32) < (4 : Int32))).2.2.2 k) ?_
  show own_Rch p.tables e below (T4.setTop (mkF m 202 #[.val (.long q1), .second, .val (.long q3), .second, .val (.int p4), .val (.int p5), .val (.int p6), .val (.int p7), .val (.ref b), .val (.int f9), .val (.int t10), .val (.int (4 : Int32)), .val (.int t12), .val (.int t13), .val (.int t14), .val (.int t15), .val (.int t16), .val (.ref b1), .unset] [])) _
  refine own_via (fun t k => XS.aload X4.here hx rfl (hb hby at_202) rfl rfl k) ?_
  show own_Rch p.tables e below (T4.setTop (mkF m 204 #[.val (.long q1), .second, .val (.long q3), .second, .val (.int p4), .val (.int p5), .val (.int p6), .val (.int p7), .val (.ref b), .val (.int f9), .val (.int t10), .val (.int (4 : Int32)), .val (.int t12), .val (.int t13), .val (.int t14), .val (.int t15), .val (.int t16), .val (.ref b1), .unset] [(.ref b1)])) _
  refine own_via (fun t k => XS.iconst X4.here hx rfl (hb hby at_204) k) ?_
  show own_Rch p.tables e below (T4.setTop (mkF m 205 #[.val (.long q1), .second, .val (.long q3), .second, .val (.int p4), .val (.int p5), .val (.int p6), .val (.int p7), .val (.ref b), .val (.int f9), .val (.int t10), .val (.int (4 : Int32)), .val (.int t12), .val (.int t13), .val (.int t14), .val (.int t15), .val (.int t16), .val (.ref b1), .unset] [(.int (3 : Int32)), (.ref b1)])) _
  refine own_via (fun t k => XS.iload X4.here hx rfl (hb hby at_205) rfl k) ?_
  show own_Rch p.tables e below (T4.setTop (mkF m 207 #[.val (.long q1), .second, .val (.long q3), .second, .val (.int p4), .val (.int p5), .val (.int p6), .val (.int p7), .val (.ref b), .val (.int f9), .val (.int t10), .val (.int (4 : Int32)), .val (.int t12), .val (.int t13), .val (.int t14), .val (.int t15), .val (.int t16), .val (.ref b1), .unset] [(.int t15), (.int (3 : Int32)), (.ref b1)])) _
  obtain ⟨cl5, Ar5, cq_5, S5, M5, H5, G5⟩ := V4'
  have hin5 : ¬ ((3 : Int32) < 0 ∨ cl5.slots.size ≤ ((3 : Int32)).toNatClampNeg) := inb_of S5 ⟨by decide, by decide⟩
  obtain ⟨T5, h5, X5, e5, W5, st5⟩ := stB X4 hx hZ e4 Ar5 (j := (3 : Int32)) hin5 (g := (mkF m 207 #[.val (.long q1), .second, .val (.long q3), .second, .val (.int p4), .val (.int p5), .val (.int p6), .val (.int p7), .val (.ref b), .val (.int f9), .val (.int t10), .val (.int (4 : Int32)), .val (.int t12), .val (.int t13), .val (.int t14), .val (.int t15), .val (.int t16), .val (.ref b1), .unset] [(.int t15), (.int (3 : Int32)), (.ref b1)])) rfl rfl (hb hby at_207)
  have V5 := Arv.set Ar5 cq_5 S5 M5 H5 G5 (fits_nar_byte _) W5 3 rfl (Nat.le_of_ble_eq_true rfl)
  have V5' : Arv Z h5 b1 k1 .byte (4 : Int32) [(.int (t12.toInt8.toInt32)), (.int (t13.toInt8.toInt32)), (.int (t14.toInt8.toInt32)), (.int (t15.toInt8.toInt32))] (.int (0 : Int32)) := V5
  have N5 := Fr.snoc X5 N4 g_b1
  refine own_via st5 ?_
  show own_Rch p.tables e below (T5.setTop (mkF m 208 #[.val (.long q1), .second, .val (.long q3), .second, .val (.int p4), .val (.int p5), .val (.int p6), .val (.int p7), .val (.ref b), .val (.int f9), .val (.int t10), .val (.int (4 : Int32)), .val (.int t12), .val (.int t13), .val (.int t14), .val (.int t15), .val (.int t16), .val (.ref b1), .unset] [])) _
  refine own_via (fun t k => XS.iload X5.here hx rfl (hb hby at_208) rfl k) ?_
  show own_Rch p.tables e below (T5.setTop (mkF m 210 #[.val (.long q1), .second, .val (.long q3), .second, .val (.int p4), .val (.int p5), .val (.int p6), .val (.int p7), .val (.ref b), .val (.int f9), .val (.int t10), .val (.int (4 : Int32)), .val (.int t12), .val (.int t13), .val (.int t14), .val (.int t15), .val (.int t16), .val (.ref b1), .unset] [(.int (4 : Int32))])) _
  refine own_via (fun t k => XS.iconst X5.here hx rfl (hb hby at_210) k) ?_
  show own_Rch p.tables e below (T5.setTop (mkF m 211 #[.val (.long q1), .second, .val (.long q3), .second, .val (.int p4), .val (.int p5), .val (.int p6), .val (.int p7), .val (.ref b), .val (.int f9), .val (.int t10), .val (.int (4 : Int32)), .val (.int t12), .val (.int t13), .val (.int t14), .val (.int t15), .val (.int t16), .val (.ref b1), .unset] [(.int (4 : Int32)), (.int (4 : Int32))])) _
  refine own_via (fun t k => XS.icmpYes X5.here hx rfl (pc0 := 211) (pc' := 220) rfl (hb hby at_211) rfl (flt (by decide : ¬ ((4 : Int32) < (4 : Int32)))).2.2.2 (by decide) (by decide) k) ?_
  show own_Rch p.tables e below (T5.setTop (mkF m 220 #[.val (.long q1), .second, .val (.long q3), .second, .val (.int p4), .val (.int p5), .val (.int p6), .val (.int p7), .val (.ref b), .val (.int f9), .val (.int t10), .val (.int (4 : Int32)), .val (.int t12), .val (.int t13), .val (.int t14), .val (.int t15), .val (.int t16), .val (.ref b1), .unset] [])) _
  refine own_via (fun t k => XS.iload X5.here hx rfl (hb hby at_220) rfl k) ?_
  show own_Rch p.tables e below (T5.setTop (mkF m 222 #[.val (.long q1), .second, .val (.long q3), .second, .val (.int p4), .val (.int p5), .val (.int p6), .val (.int p7), .val (.ref b), .val (.int f9), .val (.int t10), .val (.int (4 : Int32)), .val (.int t12), .val (.int t13), .val (.int t14), .val (.int t15), .val (.int t16), .val (.ref b1), .unset] [(.int t10)])) _
  refine own_via (fun t k => XS.iload X5.here hx rfl (hb hby at_222) rfl k) ?_
  show own_Rch p.tables e below (T5.setTop (mkF m 224 #[.val (.long q1), .second, .val (.long q3), .second, .val (.int p4), .val (.int p5), .val (.int p6), .val (.int p7), .val (.ref b), .val (.int f9), .val (.int t10), .val (.int (4 : Int32)), .val (.int t12), .val (.int t13), .val (.int t14), .val (.int t15), .val (.int t16), .val (.ref b1), .unset] [(.int f9), (.int t10)])) _
  refine own_via (fun t k => XS.isub X5.here hx rfl (hb hby at_224) rfl k) ?_
  show own_Rch p.tables e below (T5.setTop (mkF m 225 #[.val (.long q1), .second, .val (.long q3), .second, .val (.int p4), .val (.int p5), .val (.int p6), .val (.int p7), .val (.ref b), .val (.int f9), .val (.int t10), .val (.int (4 : Int32)), .val (.int t12), .val (.int t13), .val (.int t14), .val (.int t15), .val (.int t16), .val (.ref b1), .unset] [(.int (t10 - f9))])) _
  refine own_via (fun t k => XS.iload X5.here hx rfl (hb hby at_225) rfl k) ?_
  show own_Rch p.tables e below (T5.setTop (mkF m 227 #[.val (.long q1), .second, .val (.long q3), .second, .val (.int p4), .val (.int p5), .val (.int p6), .val (.int p7), .val (.ref b), .val (.int f9), .val (.int t10), .val (.int (4 : Int32)), .val (.int t12), .val (.int t13), .val (.int t14), .val (.int t15), .val (.int t16), .val (.ref b1), .unset] [(.int (4 : Int32)), (.int (t10 - f9))])) _
  by_cases c227 : (t10 - f9) = (4 : Int32)
  · refine own_via (fun t k => XS.icmpNo X5.here hx rfl (hb hby at_227) rfl (teq c227).2 k) ?_
    show own_Rch p.tables e below (T5.setTop (mkF m 230 #[.val (.long q1), .second, .val (.long q3), .second, .val (.int p4), .val (.int p5), .val (.int p6), .val (.int p7), .val (.ref b), .val (.int f9), .val (.int t10), .val (.int (4 : Int32)), .val (.int t12), .val (.int t13), .val (.int t14), .val (.int t15), .val (.int t16), .val (.ref b1), .unset] [])) _
    refine own_via (fun t k => XS.iload X5.here hx rfl (hb hby at_230) rfl k) ?_
    show own_Rch p.tables e below (T5.setTop (mkF m 232 #[.val (.long q1), .second, .val (.long q3), .second, .val (.int p4), .val (.int p5), .val (.int p6), .val (.int p7), .val (.ref b), .val (.int f9), .val (.int t10), .val (.int (4 : Int32)), .val (.int t12), .val (.int t13), .val (.int t14), .val (.int t15), .val (.int t16), .val (.ref b1), .unset] [(.int (4 : Int32))])) _
    refine own_via (fun t k => XS.iconst X5.here hx rfl (hb hby at_232) k) ?_
    show own_Rch p.tables e below (T5.setTop (mkF m 233 #[.val (.long q1), .second, .val (.long q3), .second, .val (.int p4), .val (.int p5), .val (.int p6), .val (.int p7), .val (.ref b), .val (.int f9), .val (.int t10), .val (.int (4 : Int32)), .val (.int t12), .val (.int t13), .val (.int t14), .val (.int t15), .val (.int t16), .val (.ref b1), .unset] [(.int (1 : Int32)), (.int (4 : Int32))])) _
    refine own_via (fun t k => XS.icmpNo X5.here hx rfl (hb hby at_233) rfl (flt (by decide : ¬ ((4 : Int32) < (1 : Int32)))).1 k) ?_
    show own_Rch p.tables e below (T5.setTop (mkF m 236 #[.val (.long q1), .second, .val (.long q3), .second, .val (.int p4), .val (.int p5), .val (.int p6), .val (.int p7), .val (.ref b), .val (.int f9), .val (.int t10), .val (.int (4 : Int32)), .val (.int t12), .val (.int t13), .val (.int t14), .val (.int t15), .val (.int t16), .val (.ref b1), .unset] [])) _
    refine own_via (fun t k => XS.aload X5.here hx rfl (hb hby at_236) rfl rfl k) ?_
    show own_Rch p.tables e below (T5.setTop (mkF m 238 #[.val (.long q1), .second, .val (.long q3), .second, .val (.int p4), .val (.int p5), .val (.int p6), .val (.int p7), .val (.ref b), .val (.int f9), .val (.int t10), .val (.int (4 : Int32)), .val (.int t12), .val (.int t13), .val (.int t14), .val (.int t15), .val (.int t16), .val (.ref b1), .unset] [(.ref b)])) _
    refine own_via (fun t k => XS.iload X5.here hx rfl (hb hby at_238) rfl k) ?_
    show own_Rch p.tables e below (T5.setTop (mkF m 240 #[.val (.long q1), .second, .val (.long q3), .second, .val (.int p4), .val (.int p5), .val (.int p6), .val (.int p7), .val (.ref b), .val (.int f9), .val (.int t10), .val (.int (4 : Int32)), .val (.int t12), .val (.int t13), .val (.int t14), .val (.int t15), .val (.int t16), .val (.ref b1), .unset] [(.int f9), (.ref b)])) _
    obtain ⟨cl6, Ar6, -, S6, M6, H6, -⟩ := id (((((V.ext E1).other W2 (Nat.ne_of_lt (Nat.lt_of_lt_of_le V.lt (Nat.le_of_eq g1.symm)))).other W3 (Nat.ne_of_lt (Nat.lt_of_lt_of_le V.lt (Nat.le_of_eq g1.symm)))).other W4 (Nat.ne_of_lt (Nat.lt_of_lt_of_le V.lt (Nat.le_of_eq g1.symm)))).other W5 (Nat.ne_of_lt (Nat.lt_of_lt_of_le V.lt (Nat.le_of_eq g1.symm))))
    have hin6 : ¬ (f9 < 0 ∨ cl6.slots.size ≤ (f9).toNatClampNeg) := inb_of S6 (own_inz f9 t10 (4 : Int32) (5 : Int32) i0 i1 i2 c227 (by decide))
    have hat6 : cl6.slots[(f9).toNatClampNeg]? = some (.int (own_at l_ f9)) := Has.at H6 hin6 (own_getI l_ _)
    refine own_via (X5.baloadBytes hx (j := f9) (v := (.int (own_at l_ f9))) (by rw [e5]; exact Ar6.1) (State.isArrayOf_alike hZ.alike Ar6.2.1) Ar6.2.2 hin6 hat6 (g := (mkF m 240 #[.val (.long q1), .second, .val (.long q3), .second, .val (.int p4), .val (.int p5), .val (.int p6), .val (.int p7), .val (.ref b), .val (.int f9), .val (.int t10), .val (.int (4 : Int32)), .val (.int t12), .val (.int t13), .val (.int t14), .val (.int t15), .val (.int t16), .val (.ref b1), .unset] [(.int f9), (.ref b)])) rfl rfl (hb hby at_240)) ?_
    show own_Rch p.tables e below (T5.setTop (mkF m 241 #[.val (.long q1), .second, .val (.long q3), .second, .val (.int p4), .val (.int p5), .val (.int p6), .val (.int p7), .val (.ref b), .val (.int f9), .val (.int t10), .val (.int (4 : Int32)), .val (.int t12), .val (.int t13), .val (.int t14), .val (.int t15), .val (.int t16), .val (.ref b1), .unset] [(.int (own_at l_ f9))])) _
    refine own_via (fun t k => XS.iload X5.here hx rfl (hb hby at_241) rfl k) ?_
    show own_Rch p.tables e below (T5.setTop (mkF m 243 #[.val (.long q1), .second, .val (.long q3), .second, .val (.int p4), .val (.int p5), .val (.int p6), .val (.int p7), .val (.ref b), .val (.int f9), .val (.int t10), .val (.int (4 : Int32)), .val (.int t12), .val (.int t13), .val (.int t14), .val (.int t15), .val (.int t16), .val (.ref b1), .unset] [(.int t12), (.int (own_at l_ f9))])) _
    by_cases c243 : (own_at l_ f9) = t12
    · refine own_via (fun t k => XS.icmpNo X5.here hx rfl (hb hby at_243) rfl (teq c243).2 k) ?_
      show own_Rch p.tables e below (T5.setTop (mkF m 246 #[.val (.long q1), .second, .val (.long q3), .second, .val (.int p4), .val (.int p5), .val (.int p6), .val (.int p7), .val (.ref b), .val (.int f9), .val (.int t10), .val (.int (4 : Int32)), .val (.int t12), .val (.int t13), .val (.int t14), .val (.int t15), .val (.int t16), .val (.ref b1), .unset] [])) _
      refine own_via (fun t k => XS.iload X5.here hx rfl (hb hby at_246) rfl k) ?_
      show own_Rch p.tables e below (T5.setTop (mkF m 248 #[.val (.long q1), .second, .val (.long q3), .second, .val (.int p4), .val (.int p5), .val (.int p6), .val (.int p7), .val (.ref b), .val (.int f9), .val (.int t10), .val (.int (4 : Int32)), .val (.int t12), .val (.int t13), .val (.int t14), .val (.int t15), .val (.int t16), .val (.ref b1), .unset] [(.int (4 : Int32))])) _
      refine own_via (fun t k => XS.iconst X5.here hx rfl (hb hby at_248) k) ?_
      show own_Rch p.tables e below (T5.setTop (mkF m 249 #[.val (.long q1), .second, .val (.long q3), .second, .val (.int p4), .val (.int p5), .val (.int p6), .val (.int p7), .val (.ref b), .val (.int f9), .val (.int t10), .val (.int (4 : Int32)), .val (.int t12), .val (.int t13), .val (.int t14), .val (.int t15), .val (.int t16), .val (.ref b1), .unset] [(.int (2 : Int32)), (.int (4 : Int32))])) _
      refine own_via (fun t k => XS.icmpNo X5.here hx rfl (hb hby at_249) rfl (flt (by decide : ¬ ((4 : Int32) < (2 : Int32)))).1 k) ?_
      show own_Rch p.tables e below (T5.setTop (mkF m 252 #[.val (.long q1), .second, .val (.long q3), .second, .val (.int p4), .val (.int p5), .val (.int p6), .val (.int p7), .val (.ref b), .val (.int f9), .val (.int t10), .val (.int (4 : Int32)), .val (.int t12), .val (.int t13), .val (.int t14), .val (.int t15), .val (.int t16), .val (.ref b1), .unset] [])) _
      refine own_via (fun t k => XS.aload X5.here hx rfl (hb hby at_252) rfl rfl k) ?_
      show own_Rch p.tables e below (T5.setTop (mkF m 254 #[.val (.long q1), .second, .val (.long q3), .second, .val (.int p4), .val (.int p5), .val (.int p6), .val (.int p7), .val (.ref b), .val (.int f9), .val (.int t10), .val (.int (4 : Int32)), .val (.int t12), .val (.int t13), .val (.int t14), .val (.int t15), .val (.int t16), .val (.ref b1), .unset] [(.ref b)])) _
      refine own_via (fun t k => XS.iload X5.here hx rfl (hb hby at_254) rfl k) ?_
      show own_Rch p.tables e below (T5.setTop (mkF m 256 #[.val (.long q1), .second, .val (.long q3), .second, .val (.int p4), .val (.int p5), .val (.int p6), .val (.int p7), .val (.ref b), .val (.int f9), .val (.int t10), .val (.int (4 : Int32)), .val (.int t12), .val (.int t13), .val (.int t14), .val (.int t15), .val (.int t16), .val (.ref b1), .unset] [(.int f9), (.ref b)])) _
      refine own_via (fun t k => XS.iconst X5.here hx rfl (hb hby at_256) k) ?_
      show own_Rch p.tables e below (T5.setTop (mkF m 257 #[.val (.long q1), .second, .val (.long q3), .second, .val (.int p4), .val (.int p5), .val (.int p6), .val (.int p7), .val (.ref b), .val (.int f9), .val (.int t10), .val (.int (4 : Int32)), .val (.int t12), .val (.int t13), .val (.int t14), .val (.int t15), .val (.int t16), .val (.ref b1), .unset] [(.int (1 : Int32)), (.int f9), (.ref b)])) _
      refine own_via (fun t k => XS.iadd X5.here hx rfl (hb hby at_257) rfl k) ?_
      show own_Rch p.tables e below (T5.setTop (mkF m 258 #[.val (.long q1), .second, .val (.long q3), .second, .val (.int p4), .val (.int p5), .val (.int p6), .val (.int p7), .val (.ref b), .val (.int f9), .val (.int t10), .val (.int (4 : Int32)), .val (.int t12), .val (.int t13), .val (.int t14), .val (.int t15), .val (.int t16), .val (.ref b1), .unset] [(.int (f9 + (1 : Int32))), (.ref b)])) _
      obtain ⟨cl7, Ar7, -, S7, M7, H7, -⟩ := id (((((V.ext E1).other W2 (Nat.ne_of_lt (Nat.lt_of_lt_of_le V.lt (Nat.le_of_eq g1.symm)))).other W3 (Nat.ne_of_lt (Nat.lt_of_lt_of_le V.lt (Nat.le_of_eq g1.symm)))).other W4 (Nat.ne_of_lt (Nat.lt_of_lt_of_le V.lt (Nat.le_of_eq g1.symm)))).other W5 (Nat.ne_of_lt (Nat.lt_of_lt_of_le V.lt (Nat.le_of_eq g1.symm))))
      have hin7 : ¬ ((f9 + (1 : Int32)) < 0 ∨ cl7.slots.size ≤ ((f9 + (1 : Int32))).toNatClampNeg) := inb_of S7 (own_in f9 t10 (4 : Int32) (1 : Int32) (5 : Int32) i0 i1 i2 c227 (by decide) (by decide))
      have hat7 : cl7.slots[((f9 + (1 : Int32))).toNatClampNeg]? = some (.int (own_at l_ (f9 + (1 : Int32)))) := Has.at H7 hin7 (own_getI l_ _)
      refine own_via (X5.baloadBytes hx (j := (f9 + (1 : Int32))) (v := (.int (own_at l_ (f9 + (1 : Int32))))) (by rw [e5]; exact Ar7.1) (State.isArrayOf_alike hZ.alike Ar7.2.1) Ar7.2.2 hin7 hat7 (g := (mkF m 258 #[.val (.long q1), .second, .val (.long q3), .second, .val (.int p4), .val (.int p5), .val (.int p6), .val (.int p7), .val (.ref b), .val (.int f9), .val (.int t10), .val (.int (4 : Int32)), .val (.int t12), .val (.int t13), .val (.int t14), .val (.int t15), .val (.int t16), .val (.ref b1), .unset] [(.int (f9 + (1 : Int32))), (.ref b)])) rfl rfl (hb hby at_258)) ?_
      show own_Rch p.tables e below (T5.setTop (mkF m 259 #[.val (.long q1), .second, .val (.long q3), .second, .val (.int p4), .val (.int p5), .val (.int p6), .val (.int p7), .val (.ref b), .val (.int f9), .val (.int t10), .val (.int (4 : Int32)), .val (.int t12), .val (.int t13), .val (.int t14), .val (.int t15), .val (.int t16), .val (.ref b1), .unset] [(.int (own_at l_ (f9 + (1 : Int32))))])) _
      refine own_via (fun t k => XS.iload X5.here hx rfl (hb hby at_259) rfl k) ?_
      show own_Rch p.tables e below (T5.setTop (mkF m 261 #[.val (.long q1), .second, .val (.long q3), .second, .val (.int p4), .val (.int p5), .val (.int p6), .val (.int p7), .val (.ref b), .val (.int f9), .val (.int t10), .val (.int (4 : Int32)), .val (.int t12), .val (.int t13), .val (.int t14), .val (.int t15), .val (.int t16), .val (.ref b1), .unset] [(.int t13), (.int (own_at l_ (f9 + (1 : Int32))))])) _
      by_cases c261 : (own_at l_ (f9 + (1 : Int32))) = t13
      · refine own_via (fun t k => XS.icmpNo X5.here hx rfl (hb hby at_261) rfl (teq c261).2 k) ?_
        show own_Rch p.tables e below (T5.setTop (mkF m 264 #[.val (.long q1), .second, .val (.long q3), .second, .val (.int p4), .val (.int p5), .val (.int p6), .val (.int p7), .val (.ref b), .val (.int f9), .val (.int t10), .val (.int (4 : Int32)), .val (.int t12), .val (.int t13), .val (.int t14), .val (.int t15), .val (.int t16), .val (.ref b1), .unset] [])) _
        refine own_via (fun t k => XS.iload X5.here hx rfl (hb hby at_264) rfl k) ?_
        show own_Rch p.tables e below (T5.setTop (mkF m 266 #[.val (.long q1), .second, .val (.long q3), .second, .val (.int p4), .val (.int p5), .val (.int p6), .val (.int p7), .val (.ref b), .val (.int f9), .val (.int t10), .val (.int (4 : Int32)), .val (.int t12), .val (.int t13), .val (.int t14), .val (.int t15), .val (.int t16), .val (.ref b1), .unset] [(.int (4 : Int32))])) _
        refine own_via (fun t k => XS.iconst X5.here hx rfl (hb hby at_266) k) ?_
        show own_Rch p.tables e below (T5.setTop (mkF m 267 #[.val (.long q1), .second, .val (.long q3), .second, .val (.int p4), .val (.int p5), .val (.int p6), .val (.int p7), .val (.ref b), .val (.int f9), .val (.int t10), .val (.int (4 : Int32)), .val (.int t12), .val (.int t13), .val (.int t14), .val (.int t15), .val (.int t16), .val (.ref b1), .unset] [(.int (3 : Int32)), (.int (4 : Int32))])) _
        refine own_via (fun t k => XS.icmpNo X5.here hx rfl (hb hby at_267) rfl (flt (by decide : ¬ ((4 : Int32) < (3 : Int32)))).1 k) ?_
        show own_Rch p.tables e below (T5.setTop (mkF m 270 #[.val (.long q1), .second, .val (.long q3), .second, .val (.int p4), .val (.int p5), .val (.int p6), .val (.int p7), .val (.ref b), .val (.int f9), .val (.int t10), .val (.int (4 : Int32)), .val (.int t12), .val (.int t13), .val (.int t14), .val (.int t15), .val (.int t16), .val (.ref b1), .unset] [])) _
        refine own_via (fun t k => XS.aload X5.here hx rfl (hb hby at_270) rfl rfl k) ?_
        show own_Rch p.tables e below (T5.setTop (mkF m 272 #[.val (.long q1), .second, .val (.long q3), .second, .val (.int p4), .val (.int p5), .val (.int p6), .val (.int p7), .val (.ref b), .val (.int f9), .val (.int t10), .val (.int (4 : Int32)), .val (.int t12), .val (.int t13), .val (.int t14), .val (.int t15), .val (.int t16), .val (.ref b1), .unset] [(.ref b)])) _
        refine own_via (fun t k => XS.iload X5.here hx rfl (hb hby at_272) rfl k) ?_
        show own_Rch p.tables e below (T5.setTop (mkF m 274 #[.val (.long q1), .second, .val (.long q3), .second, .val (.int p4), .val (.int p5), .val (.int p6), .val (.int p7), .val (.ref b), .val (.int f9), .val (.int t10), .val (.int (4 : Int32)), .val (.int t12), .val (.int t13), .val (.int t14), .val (.int t15), .val (.int t16), .val (.ref b1), .unset] [(.int f9), (.ref b)])) _
        refine own_via (fun t k => XS.iconst X5.here hx rfl (hb hby at_274) k) ?_
        show own_Rch p.tables e below (T5.setTop (mkF m 275 #[.val (.long q1), .second, .val (.long q3), .second, .val (.int p4), .val (.int p5), .val (.int p6), .val (.int p7), .val (.ref b), .val (.int f9), .val (.int t10), .val (.int (4 : Int32)), .val (.int t12), .val (.int t13), .val (.int t14), .val (.int t15), .val (.int t16), .val (.ref b1), .unset] [(.int (2 : Int32)), (.int f9), (.ref b)])) _
        refine own_via (fun t k => XS.iadd X5.here hx rfl (hb hby at_275) rfl k) ?_
        show own_Rch p.tables e below (T5.setTop (mkF m 276 #[.val (.long q1), .second, .val (.long q3), .second, .val (.int p4), .val (.int p5), .val (.int p6), .val (.int p7), .val (.ref b), .val (.int f9), .val (.int t10), .val (.int (4 : Int32)), .val (.int t12), .val (.int t13), .val (.int t14), .val (.int t15), .val (.int t16), .val (.ref b1), .unset] [(.int (f9 + (2 : Int32))), (.ref b)])) _
        obtain ⟨cl8, Ar8, -, S8, M8, H8, -⟩ := id (((((V.ext E1).other W2 (Nat.ne_of_lt (Nat.lt_of_lt_of_le V.lt (Nat.le_of_eq g1.symm)))).other W3 (Nat.ne_of_lt (Nat.lt_of_lt_of_le V.lt (Nat.le_of_eq g1.symm)))).other W4 (Nat.ne_of_lt (Nat.lt_of_lt_of_le V.lt (Nat.le_of_eq g1.symm)))).other W5 (Nat.ne_of_lt (Nat.lt_of_lt_of_le V.lt (Nat.le_of_eq g1.symm))))
        have hin8 : ¬ ((f9 + (2 : Int32)) < 0 ∨ cl8.slots.size ≤ ((f9 + (2 : Int32))).toNatClampNeg) := inb_of S8 (own_in f9 t10 (4 : Int32) (2 : Int32) (5 : Int32) i0 i1 i2 c227 (by decide) (by decide))
        have hat8 : cl8.slots[((f9 + (2 : Int32))).toNatClampNeg]? = some (.int (own_at l_ (f9 + (2 : Int32)))) := Has.at H8 hin8 (own_getI l_ _)
        refine own_via (X5.baloadBytes hx (j := (f9 + (2 : Int32))) (v := (.int (own_at l_ (f9 + (2 : Int32))))) (by rw [e5]; exact Ar8.1) (State.isArrayOf_alike hZ.alike Ar8.2.1) Ar8.2.2 hin8 hat8 (g := (mkF m 276 #[.val (.long q1), .second, .val (.long q3), .second, .val (.int p4), .val (.int p5), .val (.int p6), .val (.int p7), .val (.ref b), .val (.int f9), .val (.int t10), .val (.int (4 : Int32)), .val (.int t12), .val (.int t13), .val (.int t14), .val (.int t15), .val (.int t16), .val (.ref b1), .unset] [(.int (f9 + (2 : Int32))), (.ref b)])) rfl rfl (hb hby at_276)) ?_
        show own_Rch p.tables e below (T5.setTop (mkF m 277 #[.val (.long q1), .second, .val (.long q3), .second, .val (.int p4), .val (.int p5), .val (.int p6), .val (.int p7), .val (.ref b), .val (.int f9), .val (.int t10), .val (.int (4 : Int32)), .val (.int t12), .val (.int t13), .val (.int t14), .val (.int t15), .val (.int t16), .val (.ref b1), .unset] [(.int (own_at l_ (f9 + (2 : Int32))))])) _
        refine own_via (fun t k => XS.iload X5.here hx rfl (hb hby at_277) rfl k) ?_
        show own_Rch p.tables e below (T5.setTop (mkF m 279 #[.val (.long q1), .second, .val (.long q3), .second, .val (.int p4), .val (.int p5), .val (.int p6), .val (.int p7), .val (.ref b), .val (.int f9), .val (.int t10), .val (.int (4 : Int32)), .val (.int t12), .val (.int t13), .val (.int t14), .val (.int t15), .val (.int t16), .val (.ref b1), .unset] [(.int t14), (.int (own_at l_ (f9 + (2 : Int32))))])) _
        by_cases c279 : (own_at l_ (f9 + (2 : Int32))) = t14
        · refine own_via (fun t k => XS.icmpNo X5.here hx rfl (hb hby at_279) rfl (teq c279).2 k) ?_
          show own_Rch p.tables e below (T5.setTop (mkF m 282 #[.val (.long q1), .second, .val (.long q3), .second, .val (.int p4), .val (.int p5), .val (.int p6), .val (.int p7), .val (.ref b), .val (.int f9), .val (.int t10), .val (.int (4 : Int32)), .val (.int t12), .val (.int t13), .val (.int t14), .val (.int t15), .val (.int t16), .val (.ref b1), .unset] [])) _
          refine own_via (fun t k => XS.iload X5.here hx rfl (hb hby at_282) rfl k) ?_
          show own_Rch p.tables e below (T5.setTop (mkF m 284 #[.val (.long q1), .second, .val (.long q3), .second, .val (.int p4), .val (.int p5), .val (.int p6), .val (.int p7), .val (.ref b), .val (.int f9), .val (.int t10), .val (.int (4 : Int32)), .val (.int t12), .val (.int t13), .val (.int t14), .val (.int t15), .val (.int t16), .val (.ref b1), .unset] [(.int (4 : Int32))])) _
          refine own_via (fun t k => XS.iconst X5.here hx rfl (hb hby at_284) k) ?_
          show own_Rch p.tables e below (T5.setTop (mkF m 285 #[.val (.long q1), .second, .val (.long q3), .second, .val (.int p4), .val (.int p5), .val (.int p6), .val (.int p7), .val (.ref b), .val (.int f9), .val (.int t10), .val (.int (4 : Int32)), .val (.int t12), .val (.int t13), .val (.int t14), .val (.int t15), .val (.int t16), .val (.ref b1), .unset] [(.int (4 : Int32)), (.int (4 : Int32))])) _
          refine own_via (fun t k => XS.icmpNo X5.here hx rfl (hb hby at_285) rfl (flt (by decide : ¬ ((4 : Int32) < (4 : Int32)))).1 k) ?_
          show own_Rch p.tables e below (T5.setTop (mkF m 288 #[.val (.long q1), .second, .val (.long q3), .second, .val (.int p4), .val (.int p5), .val (.int p6), .val (.int p7), .val (.ref b), .val (.int f9), .val (.int t10), .val (.int (4 : Int32)), .val (.int t12), .val (.int t13), .val (.int t14), .val (.int t15), .val (.int t16), .val (.ref b1), .unset] [])) _
          refine own_via (fun t k => XS.aload X5.here hx rfl (hb hby at_288) rfl rfl k) ?_
          show own_Rch p.tables e below (T5.setTop (mkF m 290 #[.val (.long q1), .second, .val (.long q3), .second, .val (.int p4), .val (.int p5), .val (.int p6), .val (.int p7), .val (.ref b), .val (.int f9), .val (.int t10), .val (.int (4 : Int32)), .val (.int t12), .val (.int t13), .val (.int t14), .val (.int t15), .val (.int t16), .val (.ref b1), .unset] [(.ref b)])) _
          refine own_via (fun t k => XS.iload X5.here hx rfl (hb hby at_290) rfl k) ?_
          show own_Rch p.tables e below (T5.setTop (mkF m 292 #[.val (.long q1), .second, .val (.long q3), .second, .val (.int p4), .val (.int p5), .val (.int p6), .val (.int p7), .val (.ref b), .val (.int f9), .val (.int t10), .val (.int (4 : Int32)), .val (.int t12), .val (.int t13), .val (.int t14), .val (.int t15), .val (.int t16), .val (.ref b1), .unset] [(.int f9), (.ref b)])) _
          refine own_via (fun t k => XS.iconst X5.here hx rfl (hb hby at_292) k) ?_
          show own_Rch p.tables e below (T5.setTop (mkF m 293 #[.val (.long q1), .second, .val (.long q3), .second, .val (.int p4), .val (.int p5), .val (.int p6), .val (.int p7), .val (.ref b), .val (.int f9), .val (.int t10), .val (.int (4 : Int32)), .val (.int t12), .val (.int t13), .val (.int t14), .val (.int t15), .val (.int t16), .val (.ref b1), .unset] [(.int (3 : Int32)), (.int f9), (.ref b)])) _
          refine own_via (fun t k => XS.iadd X5.here hx rfl (hb hby at_293) rfl k) ?_
          show own_Rch p.tables e below (T5.setTop (mkF m 294 #[.val (.long q1), .second, .val (.long q3), .second, .val (.int p4), .val (.int p5), .val (.int p6), .val (.int p7), .val (.ref b), .val (.int f9), .val (.int t10), .val (.int (4 : Int32)), .val (.int t12), .val (.int t13), .val (.int t14), .val (.int t15), .val (.int t16), .val (.ref b1), .unset] [(.int (f9 + (3 : Int32))), (.ref b)])) _
          obtain ⟨cl9, Ar9, -, S9, M9, H9, -⟩ := id (((((V.ext E1).other W2 (Nat.ne_of_lt (Nat.lt_of_lt_of_le V.lt (Nat.le_of_eq g1.symm)))).other W3 (Nat.ne_of_lt (Nat.lt_of_lt_of_le V.lt (Nat.le_of_eq g1.symm)))).other W4 (Nat.ne_of_lt (Nat.lt_of_lt_of_le V.lt (Nat.le_of_eq g1.symm)))).other W5 (Nat.ne_of_lt (Nat.lt_of_lt_of_le V.lt (Nat.le_of_eq g1.symm))))
          have hin9 : ¬ ((f9 + (3 : Int32)) < 0 ∨ cl9.slots.size ≤ ((f9 + (3 : Int32))).toNatClampNeg) := inb_of S9 (own_in f9 t10 (4 : Int32) (3 : Int32) (5 : Int32) i0 i1 i2 c227 (by decide) (by decide))
          have hat9 : cl9.slots[((f9 + (3 : Int32))).toNatClampNeg]? = some (.int (own_at l_ (f9 + (3 : Int32)))) := Has.at H9 hin9 (own_getI l_ _)
          refine own_via (X5.baloadBytes hx (j := (f9 + (3 : Int32))) (v := (.int (own_at l_ (f9 + (3 : Int32))))) (by rw [e5]; exact Ar9.1) (State.isArrayOf_alike hZ.alike Ar9.2.1) Ar9.2.2 hin9 hat9 (g := (mkF m 294 #[.val (.long q1), .second, .val (.long q3), .second, .val (.int p4), .val (.int p5), .val (.int p6), .val (.int p7), .val (.ref b), .val (.int f9), .val (.int t10), .val (.int (4 : Int32)), .val (.int t12), .val (.int t13), .val (.int t14), .val (.int t15), .val (.int t16), .val (.ref b1), .unset] [(.int (f9 + (3 : Int32))), (.ref b)])) rfl rfl (hb hby at_294)) ?_
          show own_Rch p.tables e below (T5.setTop (mkF m 295 #[.val (.long q1), .second, .val (.long q3), .second, .val (.int p4), .val (.int p5), .val (.int p6), .val (.int p7), .val (.ref b), .val (.int f9), .val (.int t10), .val (.int (4 : Int32)), .val (.int t12), .val (.int t13), .val (.int t14), .val (.int t15), .val (.int t16), .val (.ref b1), .unset] [(.int (own_at l_ (f9 + (3 : Int32))))])) _
          refine own_via (fun t k => XS.iload X5.here hx rfl (hb hby at_295) rfl k) ?_
          show own_Rch p.tables e below (T5.setTop (mkF m 297 #[.val (.long q1), .second, .val (.long q3), .second, .val (.int p4), .val (.int p5), .val (.int p6), .val (.int p7), .val (.ref b), .val (.int f9), .val (.int t10), .val (.int (4 : Int32)), .val (.int t12), .val (.int t13), .val (.int t14), .val (.int t15), .val (.int t16), .val (.ref b1), .unset] [(.int t15), (.int (own_at l_ (f9 + (3 : Int32))))])) _
          by_cases c297 : (own_at l_ (f9 + (3 : Int32))) = t15
          · refine own_via (fun t k => XS.icmpNo X5.here hx rfl (hb hby at_297) rfl (teq c297).2 k) ?_
            show own_Rch p.tables e below (T5.setTop (mkF m 300 #[.val (.long q1), .second, .val (.long q3), .second, .val (.int p4), .val (.int p5), .val (.int p6), .val (.int p7), .val (.ref b), .val (.int f9), .val (.int t10), .val (.int (4 : Int32)), .val (.int t12), .val (.int t13), .val (.int t14), .val (.int t15), .val (.int t16), .val (.ref b1), .unset] [])) _
            refine own_via (fun t k => XS.iload X5.here hx rfl (hb hby at_300) rfl k) ?_
            show own_Rch p.tables e below (T5.setTop (mkF m 302 #[.val (.long q1), .second, .val (.long q3), .second, .val (.int p4), .val (.int p5), .val (.int p6), .val (.int p7), .val (.ref b), .val (.int f9), .val (.int t10), .val (.int (4 : Int32)), .val (.int t12), .val (.int t13), .val (.int t14), .val (.int t15), .val (.int t16), .val (.ref b1), .unset] [(.int (4 : Int32))])) _
            refine own_via (fun t k => XS.iconst X5.here hx rfl (hb hby at_302) k) ?_
            show own_Rch p.tables e below (T5.setTop (mkF m 303 #[.val (.long q1), .second, .val (.long q3), .second, .val (.int p4), .val (.int p5), .val (.int p6), .val (.int p7), .val (.ref b), .val (.int f9), .val (.int t10), .val (.int (4 : Int32)), .val (.int t12), .val (.int t13), .val (.int t14), .val (.int t15), .val (.int t16), .val (.ref b1), .unset] [(.int (5 : Int32)), (.int (4 : Int32))])) _
            refine own_via (fun t k => XS.icmpYes X5.here hx rfl (pc0 := 303) (pc' := 318) rfl (hb hby at_303) rfl (tlt (by decide : (4 : Int32) < (5 : Int32))).1 (by decide) (by decide) k) ?_
            show own_Rch p.tables e below (T5.setTop (mkF m 318 #[.val (.long q1), .second, .val (.long q3), .second, .val (.int p4), .val (.int p5), .val (.int p6), .val (.int p7), .val (.ref b), .val (.int f9), .val (.int t10), .val (.int (4 : Int32)), .val (.int t12), .val (.int t13), .val (.int t14), .val (.int t15), .val (.int t16), .val (.ref b1), .unset] [])) _
            refine own_via (fun t k => XS.iconst X5.here hx rfl (hb hby at_318) k) ?_
            show own_Rch p.tables e below (T5.setTop (mkF m 319 #[.val (.long q1), .second, .val (.long q3), .second, .val (.int p4), .val (.int p5), .val (.int p6), .val (.int p7), .val (.ref b), .val (.int f9), .val (.int t10), .val (.int (4 : Int32)), .val (.int t12), .val (.int t13), .val (.int t14), .val (.int t15), .val (.int t16), .val (.ref b1), .unset] [(.int (1 : Int32))])) _
            refine own_via (fun t k => XS.goto X5.here hx rfl (pc0 := 319) (pc' := 323) rfl (hb hby at_319) (by decide) (by decide) k) ?_
            show own_Rch p.tables e below (T5.setTop (mkF m 323 #[.val (.long q1), .second, .val (.long q3), .second, .val (.int p4), .val (.int p5), .val (.int p6), .val (.int p7), .val (.ref b), .val (.int f9), .val (.int t10), .val (.int (4 : Int32)), .val (.int t12), .val (.int t13), .val (.int t14), .val (.int t15), .val (.int t16), .val (.ref b1), .unset] [(.int (1 : Int32))])) _
            refine own_via (fun t k => XS.istore X5.here hx rfl (hb hby at_323) rfl (l' := #[.val (.long q1), .second, .val (.long q3), .second, .val (.int p4), .val (.int p5), .val (.int p6), .val (.int p7), .val (.ref b), .val (.int f9), .val (.int t10), .val (.int (4 : Int32)), .val (.int t12), .val (.int t13), .val (.int t14), .val (.int t15), .val (.int t16), .val (.ref b1), .val (.int (1 : Int32))]) rfl k) ?_
            show own_Rch p.tables e below (T5.setTop (mkF m 325 #[.val (.long q1), .second, .val (.long q3), .second, .val (.int p4), .val (.int p5), .val (.int p6), .val (.int p7), .val (.ref b), .val (.int f9), .val (.int t10), .val (.int (4 : Int32)), .val (.int t12), .val (.int t13), .val (.int t14), .val (.int t15), .val (.int t16), .val (.ref b1), .val (.int (1 : Int32))] [])) _
            refine own_via (fun t k => XS.aload X5.here hx rfl (hb hby at_325) rfl rfl k) ?_
            show own_Rch p.tables e below (T5.setTop (mkF m 327 #[.val (.long q1), .second, .val (.long q3), .second, .val (.int p4), .val (.int p5), .val (.int p6), .val (.int p7), .val (.ref b), .val (.int f9), .val (.int t10), .val (.int (4 : Int32)), .val (.int t12), .val (.int t13), .val (.int t14), .val (.int t15), .val (.int t16), .val (.ref b1), .val (.int (1 : Int32))] [(.ref b)])) _
            refine own_via (fun t k => XS.iload X5.here hx rfl (hb hby at_327) rfl k) ?_
            show own_Rch p.tables e below (T5.setTop (mkF m 329 #[.val (.long q1), .second, .val (.long q3), .second, .val (.int p4), .val (.int p5), .val (.int p6), .val (.int p7), .val (.ref b), .val (.int f9), .val (.int t10), .val (.int (4 : Int32)), .val (.int t12), .val (.int t13), .val (.int t14), .val (.int t15), .val (.int t16), .val (.ref b1), .val (.int (1 : Int32))] [(.int f9), (.ref b)])) _
            refine own_via (fun t k => XS.iload X5.here hx rfl (hb hby at_329) rfl k) ?_
            show own_Rch p.tables e below (T5.setTop (mkF m 331 #[.val (.long q1), .second, .val (.long q3), .second, .val (.int p4), .val (.int p5), .val (.int p6), .val (.int p7), .val (.ref b), .val (.int f9), .val (.int t10), .val (.int (4 : Int32)), .val (.int t12), .val (.int t13), .val (.int t14), .val (.int t15), .val (.int t16), .val (.ref b1), .val (.int (1 : Int32))] [(.int t10), (.int f9), (.ref b)])) _
            refine own_via (fun t k => XS.aload X5.here hx rfl (hb hby at_331) rfl rfl k) ?_
            show own_Rch p.tables e below (T5.setTop (mkF m 333 #[.val (.long q1), .second, .val (.long q3), .second, .val (.int p4), .val (.int p5), .val (.int p6), .val (.int p7), .val (.ref b), .val (.int f9), .val (.int t10), .val (.int (4 : Int32)), .val (.int t12), .val (.int t13), .val (.int t14), .val (.int t15), .val (.int t16), .val (.ref b1), .val (.int (1 : Int32))] [(.ref b1), (.int t10), (.int f9), (.ref b)])) _
            have Vt10 := V5'
            rw [hbt12, hbt13, hbt14, hbt15] at Vt10
            obtain ⟨_, _, ⟨T10, L10, k10, n10⟩, -, X10, ⟨Lc10, hQ10, l10, y10, z10⟩, st10⟩ := Jvm.LawKit.callS X5 hx (y := (⟨"com/example/lastkey/lastkey/exec/TextFormat", "isNull", "([BII[B)Z"⟩ : MethodName)) hown (mvT hZ (hw _ (List.mem_of_getElem? (i := 6) rfl))) (mvT hZ (hw _ (List.mem_of_getElem? (i := 7) rfl))) (mvT hZ (hw _ (List.mem_of_getElem? (i := 8) rfl))) (mvT hZ (hw _ (List.mem_of_getElem? (i := 9) rfl))) (by decide) (backOf (W := 0) (rm2_4 l Z a0 hw [] b f9 t10 b1 l_ [t12, t13, t14, t15] kb k1 h5 n0 (((((V.ext E1).other W2 (Nat.ne_of_lt (Nat.lt_of_lt_of_le V.lt (Nat.le_of_eq g1.symm)))).other W3 (Nat.ne_of_lt (Nat.lt_of_lt_of_le V.lt (Nat.le_of_eq g1.symm)))).other W4 (Nat.ne_of_lt (Nat.lt_of_lt_of_le V.lt (Nat.le_of_eq g1.symm)))).other W5 (Nat.ne_of_lt (Nat.lt_of_lt_of_le V.lt (Nat.le_of_eq g1.symm)))) Vt10 i0 i1 i2) hZ (hw _ (List.mem_of_getElem? (i := 9) rfl)) (hw _ (List.mem_of_getElem? (i := 8) rfl)) (by decide) (by decide)) (g := (mkF m 333 #[.val (.long q1), .second, .val (.long q3), .second, .val (.int p4), .val (.int p5), .val (.int p6), .val (.int p7), .val (.ref b), .val (.int f9), .val (.int t10), .val (.int (4 : Int32)), .val (.int t12), .val (.int t13), .val (.int t14), .val (.int t15), .val (.int t16), .val (.ref b1), .val (.int (1 : Int32))] [(.ref b1), (.int t10), (.int f9), (.ref b)])) rfl (by rw [hml]; rfl) (argsL := [(.ref b), (.int f9), (.int t10), (.ref b1)]) (rest := []) (lenOf pd_0 rfl) rfl (by show 2 * 0 + _ ≤ _; exact Nat.le_of_eq rfl) (hb hby at_333) (fun _ _ => ⟨rfl, e5, (by decide : 2 + 0 ≤ _), (by decide : 9 + 0 ≤ _)⟩)
            dsimp only [Pt.U, Pt.locs, Pt.cells, Pt.slots] at X10 l10 y10 z10 st10 hQ10
            subst l10 y10 z10
            obtain ⟨rfl, N10q, eh10⟩ := hQ10
            have N10 := Fr.app N5 N10q
            refine own_via st10 ?_
            show own_Rch p.tables e below (T10.setTop (mkF m 336 #[.val (.long q1), .second, .val (.long q3), .second, .val (.int p4), .val (.int p5), .val (.int p6), .val (.int p7), .val (.ref b), .val (.int f9), .val (.int t10), .val (.int (4 : Int32)), .val (.int t12), .val (.int t13), .val (.int t14), .val (.int t15), .val (.int t16), .val (.ref b1), .val (.int (1 : Int32))] [(.int (own_n4_4 l_ [t12, t13, t14, t15] f9 t10))])) _
            refine own_via (fun t k => XS.iload X10.here hx rfl (hb hby at_336) rfl k) ?_
            show own_Rch p.tables e below (T10.setTop (mkF m 338 #[.val (.long q1), .second, .val (.long q3), .second, .val (.int p4), .val (.int p5), .val (.int p6), .val (.int p7), .val (.ref b), .val (.int f9), .val (.int t10), .val (.int (4 : Int32)), .val (.int t12), .val (.int t13), .val (.int t14), .val (.int t15), .val (.int t16), .val (.ref b1), .val (.int (1 : Int32))] [(.int (1 : Int32)), (.int (own_n4_4 l_ [t12, t13, t14, t15] f9 t10))])) _
            have a0_ : own_at [t12, t13, t14, t15] (0 : Int32) = t12 := rfl
            have a1_ : own_at [t12, t13, t14, t15] (1 : Int32) = t13 := rfl
            have a2_ : own_at [t12, t13, t14, t15] (2 : Int32) = t14 := rfl
            have a3_ : own_at [t12, t13, t14, t15] (3 : Int32) = t15 := rfl
            have hq : (own_n4_4 l_ [t12, t13, t14, t15] f9 t10) = (1 : Int32) := by simp only [own_n4_4, Int32.add_zero, a0_, a1_, a2_, a3_, if_pos c227, if_pos c243, if_pos c261, if_pos c279, if_pos c297]
            refine own_via (fun t k => XS.icmpNo X10.here hx rfl (hb hby at_338) rfl (teq hq).2 k) ?_
            show own_Rch p.tables e below (T10.setTop (mkF m 341 #[.val (.long q1), .second, .val (.long q3), .second, .val (.int p4), .val (.int p5), .val (.int p6), .val (.int p7), .val (.ref b), .val (.int f9), .val (.int t10), .val (.int (4 : Int32)), .val (.int t12), .val (.int t13), .val (.int t14), .val (.int t15), .val (.int t16), .val (.ref b1), .val (.int (1 : Int32))] [])) _
            refine own_via (fun t k => XS.iconst X10.here hx rfl (hb hby at_341) k) ?_
            show own_Rch p.tables e below (T10.setTop (mkF m 342 #[.val (.long q1), .second, .val (.long q3), .second, .val (.int p4), .val (.int p5), .val (.int p6), .val (.int p7), .val (.ref b), .val (.int f9), .val (.int t10), .val (.int (4 : Int32)), .val (.int t12), .val (.int t13), .val (.int t14), .val (.int t15), .val (.int t16), .val (.ref b1), .val (.int (1 : Int32))] [(.int (1 : Int32))])) _
            refine own_via (fun t k => XS.goto X10.here hx rfl (pc0 := 342) (pc' := 346) rfl (hb hby at_342) (by decide) (by decide) k) ?_
            show own_Rch p.tables e below (T10.setTop (mkF m 346 #[.val (.long q1), .second, .val (.long q3), .second, .val (.int p4), .val (.int p5), .val (.int p6), .val (.int p7), .val (.ref b), .val (.int f9), .val (.int t10), .val (.int (4 : Int32)), .val (.int t12), .val (.int t13), .val (.int t14), .val (.int t15), .val (.int t16), .val (.ref b1), .val (.int (1 : Int32))] [(.int (1 : Int32))])) _
            exact own_fin X10 hx (t := .boolean) (i := .ireturn) hret hlk rfl (Or.inl ⟨rfl, by simp, _, rfl⟩) (hb hby at_346) (by decide) (by decide) ⟨rfl, N10⟩
          · refine own_via (fun t k => XS.icmpYes X5.here hx rfl (pc0 := 297) (pc' := 322) rfl (hb hby at_297) rfl (feq c297).2 (by decide) (by decide) k) ?_
            show own_Rch p.tables e below (T5.setTop (mkF m 322 #[.val (.long q1), .second, .val (.long q3), .second, .val (.int p4), .val (.int p5), .val (.int p6), .val (.int p7), .val (.ref b), .val (.int f9), .val (.int t10), .val (.int (4 : Int32)), .val (.int t12), .val (.int t13), .val (.int t14), .val (.int t15), .val (.int t16), .val (.ref b1), .unset] [])) _
            refine own_via (fun t k => XS.iconst X5.here hx rfl (hb hby at_322) k) ?_
            show own_Rch p.tables e below (T5.setTop (mkF m 323 #[.val (.long q1), .second, .val (.long q3), .second, .val (.int p4), .val (.int p5), .val (.int p6), .val (.int p7), .val (.ref b), .val (.int f9), .val (.int t10), .val (.int (4 : Int32)), .val (.int t12), .val (.int t13), .val (.int t14), .val (.int t15), .val (.int t16), .val (.ref b1), .unset] [(.int (0 : Int32))])) _
            refine own_via (fun t k => XS.istore X5.here hx rfl (hb hby at_323) rfl (l' := #[.val (.long q1), .second, .val (.long q3), .second, .val (.int p4), .val (.int p5), .val (.int p6), .val (.int p7), .val (.ref b), .val (.int f9), .val (.int t10), .val (.int (4 : Int32)), .val (.int t12), .val (.int t13), .val (.int t14), .val (.int t15), .val (.int t16), .val (.ref b1), .val (.int (0 : Int32))]) rfl k) ?_
            show own_Rch p.tables e below (T5.setTop (mkF m 325 #[.val (.long q1), .second, .val (.long q3), .second, .val (.int p4), .val (.int p5), .val (.int p6), .val (.int p7), .val (.ref b), .val (.int f9), .val (.int t10), .val (.int (4 : Int32)), .val (.int t12), .val (.int t13), .val (.int t14), .val (.int t15), .val (.int t16), .val (.ref b1), .val (.int (0 : Int32))] [])) _
            refine own_via (fun t k => XS.aload X5.here hx rfl (hb hby at_325) rfl rfl k) ?_
            show own_Rch p.tables e below (T5.setTop (mkF m 327 #[.val (.long q1), .second, .val (.long q3), .second, .val (.int p4), .val (.int p5), .val (.int p6), .val (.int p7), .val (.ref b), .val (.int f9), .val (.int t10), .val (.int (4 : Int32)), .val (.int t12), .val (.int t13), .val (.int t14), .val (.int t15), .val (.int t16), .val (.ref b1), .val (.int (0 : Int32))] [(.ref b)])) _
            refine own_via (fun t k => XS.iload X5.here hx rfl (hb hby at_327) rfl k) ?_
            show own_Rch p.tables e below (T5.setTop (mkF m 329 #[.val (.long q1), .second, .val (.long q3), .second, .val (.int p4), .val (.int p5), .val (.int p6), .val (.int p7), .val (.ref b), .val (.int f9), .val (.int t10), .val (.int (4 : Int32)), .val (.int t12), .val (.int t13), .val (.int t14), .val (.int t15), .val (.int t16), .val (.ref b1), .val (.int (0 : Int32))] [(.int f9), (.ref b)])) _
            refine own_via (fun t k => XS.iload X5.here hx rfl (hb hby at_329) rfl k) ?_
            show own_Rch p.tables e below (T5.setTop (mkF m 331 #[.val (.long q1), .second, .val (.long q3), .second, .val (.int p4), .val (.int p5), .val (.int p6), .val (.int p7), .val (.ref b), .val (.int f9), .val (.int t10), .val (.int (4 : Int32)), .val (.int t12), .val (.int t13), .val (.int t14), .val (.int t15), .val (.int t16), .val (.ref b1), .val (.int (0 : Int32))] [(.int t10), (.int f9), (.ref b)])) _
            refine own_via (fun t k => XS.aload X5.here hx rfl (hb hby at_331) rfl rfl k) ?_
            show own_Rch p.tables e below (T5.setTop (mkF m 333 #[.val (.long q1), .second, .val (.long q3), .second, .val (.int p4), .val (.int p5), .val (.int p6), .val (.int p7), .val (.ref b), .val (.int f9), .val (.int t10), .val (.int (4 : Int32)), .val (.int t12), .val (.int t13), .val (.int t14), .val (.int t15), .val (.int t16), .val (.ref b1), .val (.int (0 : Int32))] [(.ref b1), (.int t10), (.int f9), (.ref b)])) _
            have Vt11 := V5'
            rw [hbt12, hbt13, hbt14, hbt15] at Vt11
            obtain ⟨_, _, ⟨T11, L11, k11, n11⟩, -, X11, ⟨Lc11, hQ11, l11, y11, z11⟩, st11⟩ := Jvm.LawKit.callS X5 hx (y := (⟨"com/example/lastkey/lastkey/exec/TextFormat", "isNull", "([BII[B)Z"⟩ : MethodName)) hown (mvT hZ (hw _ (List.mem_of_getElem? (i := 6) rfl))) (mvT hZ (hw _ (List.mem_of_getElem? (i := 7) rfl))) (mvT hZ (hw _ (List.mem_of_getElem? (i := 8) rfl))) (mvT hZ (hw _ (List.mem_of_getElem? (i := 9) rfl))) (by decide) (backOf (W := 0) (rm2_4 l Z a0 hw [] b f9 t10 b1 l_ [t12, t13, t14, t15] kb k1 h5 n0 (((((V.ext E1).other W2 (Nat.ne_of_lt (Nat.lt_of_lt_of_le V.lt (Nat.le_of_eq g1.symm)))).other W3 (Nat.ne_of_lt (Nat.lt_of_lt_of_le V.lt (Nat.le_of_eq g1.symm)))).other W4 (Nat.ne_of_lt (Nat.lt_of_lt_of_le V.lt (Nat.le_of_eq g1.symm)))).other W5 (Nat.ne_of_lt (Nat.lt_of_lt_of_le V.lt (Nat.le_of_eq g1.symm)))) Vt11 i0 i1 i2) hZ (hw _ (List.mem_of_getElem? (i := 9) rfl)) (hw _ (List.mem_of_getElem? (i := 8) rfl)) (by decide) (by decide)) (g := (mkF m 333 #[.val (.long q1), .second, .val (.long q3), .second, .val (.int p4), .val (.int p5), .val (.int p6), .val (.int p7), .val (.ref b), .val (.int f9), .val (.int t10), .val (.int (4 : Int32)), .val (.int t12), .val (.int t13), .val (.int t14), .val (.int t15), .val (.int t16), .val (.ref b1), .val (.int (0 : Int32))] [(.ref b1), (.int t10), (.int f9), (.ref b)])) rfl (by rw [hml]; rfl) (argsL := [(.ref b), (.int f9), (.int t10), (.ref b1)]) (rest := []) (lenOf pd_0 rfl) rfl (by show 2 * 0 + _ ≤ _; exact Nat.le_of_eq rfl) (hb hby at_333) (fun _ _ => ⟨rfl, e5, (by decide : 2 + 0 ≤ _), (by decide : 9 + 0 ≤ _)⟩)
            dsimp only [Pt.U, Pt.locs, Pt.cells, Pt.slots] at X11 l11 y11 z11 st11 hQ11
            subst l11 y11 z11
            obtain ⟨rfl, N11q, eh11⟩ := hQ11
            have N11 := Fr.app N5 N11q
            refine own_via st11 ?_
            show own_Rch p.tables e below (T11.setTop (mkF m 336 #[.val (.long q1), .second, .val (.long q3), .second, .val (.int p4), .val (.int p5), .val (.int p6), .val (.int p7), .val (.ref b), .val (.int f9), .val (.int t10), .val (.int (4 : Int32)), .val (.int t12), .val (.int t13), .val (.int t14), .val (.int t15), .val (.int t16), .val (.ref b1), .val (.int (0 : Int32))] [(.int (own_n4_4 l_ [t12, t13, t14, t15] f9 t10))])) _
            refine own_via (fun t k => XS.iload X11.here hx rfl (hb hby at_336) rfl k) ?_
            show own_Rch p.tables e below (T11.setTop (mkF m 338 #[.val (.long q1), .second, .val (.long q3), .second, .val (.int p4), .val (.int p5), .val (.int p6), .val (.int p7), .val (.ref b), .val (.int f9), .val (.int t10), .val (.int (4 : Int32)), .val (.int t12), .val (.int t13), .val (.int t14), .val (.int t15), .val (.int t16), .val (.ref b1), .val (.int (0 : Int32))] [(.int (0 : Int32)), (.int (own_n4_4 l_ [t12, t13, t14, t15] f9 t10))])) _
            have a0_ : own_at [t12, t13, t14, t15] (0 : Int32) = t12 := rfl
            have a1_ : own_at [t12, t13, t14, t15] (1 : Int32) = t13 := rfl
            have a2_ : own_at [t12, t13, t14, t15] (2 : Int32) = t14 := rfl
            have a3_ : own_at [t12, t13, t14, t15] (3 : Int32) = t15 := rfl
            have hq : (own_n4_4 l_ [t12, t13, t14, t15] f9 t10) = (0 : Int32) := by simp only [own_n4_4, Int32.add_zero, a0_, a1_, a2_, a3_, if_pos c227, if_pos c243, if_pos c261, if_pos c279, if_neg c297]
            refine own_via (fun t k => XS.icmpNo X11.here hx rfl (hb hby at_338) rfl (teq hq).2 k) ?_
            show own_Rch p.tables e below (T11.setTop (mkF m 341 #[.val (.long q1), .second, .val (.long q3), .second, .val (.int p4), .val (.int p5), .val (.int p6), .val (.int p7), .val (.ref b), .val (.int f9), .val (.int t10), .val (.int (4 : Int32)), .val (.int t12), .val (.int t13), .val (.int t14), .val (.int t15), .val (.int t16), .val (.ref b1), .val (.int (0 : Int32))] [])) _
            refine own_via (fun t k => XS.iconst X11.here hx rfl (hb hby at_341) k) ?_
            show own_Rch p.tables e below (T11.setTop (mkF m 342 #[.val (.long q1), .second, .val (.long q3), .second, .val (.int p4), .val (.int p5), .val (.int p6), .val (.int p7), .val (.ref b), .val (.int f9), .val (.int t10), .val (.int (4 : Int32)), .val (.int t12), .val (.int t13), .val (.int t14), .val (.int t15), .val (.int t16), .val (.ref b1), .val (.int (0 : Int32))] [(.int (1 : Int32))])) _
            refine own_via (fun t k => XS.goto X11.here hx rfl (pc0 := 342) (pc' := 346) rfl (hb hby at_342) (by decide) (by decide) k) ?_
            show own_Rch p.tables e below (T11.setTop (mkF m 346 #[.val (.long q1), .second, .val (.long q3), .second, .val (.int p4), .val (.int p5), .val (.int p6), .val (.int p7), .val (.ref b), .val (.int f9), .val (.int t10), .val (.int (4 : Int32)), .val (.int t12), .val (.int t13), .val (.int t14), .val (.int t15), .val (.int t16), .val (.ref b1), .val (.int (0 : Int32))] [(.int (1 : Int32))])) _
            exact own_fin X11 hx (t := .boolean) (i := .ireturn) hret hlk rfl (Or.inl ⟨rfl, by simp, _, rfl⟩) (hb hby at_346) (by decide) (by decide) ⟨rfl, N11⟩
        · refine own_via (fun t k => XS.icmpYes X5.here hx rfl (pc0 := 279) (pc' := 322) rfl (hb hby at_279) rfl (feq c279).2 (by decide) (by decide) k) ?_
          show own_Rch p.tables e below (T5.setTop (mkF m 322 #[.val (.long q1), .second, .val (.long q3), .second, .val (.int p4), .val (.int p5), .val (.int p6), .val (.int p7), .val (.ref b), .val (.int f9), .val (.int t10), .val (.int (4 : Int32)), .val (.int t12), .val (.int t13), .val (.int t14), .val (.int t15), .val (.int t16), .val (.ref b1), .unset] [])) _
          refine own_via (fun t k => XS.iconst X5.here hx rfl (hb hby at_322) k) ?_
          show own_Rch p.tables e below (T5.setTop (mkF m 323 #[.val (.long q1), .second, .val (.long q3), .second, .val (.int p4), .val (.int p5), .val (.int p6), .val (.int p7), .val (.ref b), .val (.int f9), .val (.int t10), .val (.int (4 : Int32)), .val (.int t12), .val (.int t13), .val (.int t14), .val (.int t15), .val (.int t16), .val (.ref b1), .unset] [(.int (0 : Int32))])) _
          refine own_via (fun t k => XS.istore X5.here hx rfl (hb hby at_323) rfl (l' := #[.val (.long q1), .second, .val (.long q3), .second, .val (.int p4), .val (.int p5), .val (.int p6), .val (.int p7), .val (.ref b), .val (.int f9), .val (.int t10), .val (.int (4 : Int32)), .val (.int t12), .val (.int t13), .val (.int t14), .val (.int t15), .val (.int t16), .val (.ref b1), .val (.int (0 : Int32))]) rfl k) ?_
          show own_Rch p.tables e below (T5.setTop (mkF m 325 #[.val (.long q1), .second, .val (.long q3), .second, .val (.int p4), .val (.int p5), .val (.int p6), .val (.int p7), .val (.ref b), .val (.int f9), .val (.int t10), .val (.int (4 : Int32)), .val (.int t12), .val (.int t13), .val (.int t14), .val (.int t15), .val (.int t16), .val (.ref b1), .val (.int (0 : Int32))] [])) _
          refine own_via (fun t k => XS.aload X5.here hx rfl (hb hby at_325) rfl rfl k) ?_
          show own_Rch p.tables e below (T5.setTop (mkF m 327 #[.val (.long q1), .second, .val (.long q3), .second, .val (.int p4), .val (.int p5), .val (.int p6), .val (.int p7), .val (.ref b), .val (.int f9), .val (.int t10), .val (.int (4 : Int32)), .val (.int t12), .val (.int t13), .val (.int t14), .val (.int t15), .val (.int t16), .val (.ref b1), .val (.int (0 : Int32))] [(.ref b)])) _
          refine own_via (fun t k => XS.iload X5.here hx rfl (hb hby at_327) rfl k) ?_
          show own_Rch p.tables e below (T5.setTop (mkF m 329 #[.val (.long q1), .second, .val (.long q3), .second, .val (.int p4), .val (.int p5), .val (.int p6), .val (.int p7), .val (.ref b), .val (.int f9), .val (.int t10), .val (.int (4 : Int32)), .val (.int t12), .val (.int t13), .val (.int t14), .val (.int t15), .val (.int t16), .val (.ref b1), .val (.int (0 : Int32))] [(.int f9), (.ref b)])) _
          refine own_via (fun t k => XS.iload X5.here hx rfl (hb hby at_329) rfl k) ?_
          show own_Rch p.tables e below (T5.setTop (mkF m 331 #[.val (.long q1), .second, .val (.long q3), .second, .val (.int p4), .val (.int p5), .val (.int p6), .val (.int p7), .val (.ref b), .val (.int f9), .val (.int t10), .val (.int (4 : Int32)), .val (.int t12), .val (.int t13), .val (.int t14), .val (.int t15), .val (.int t16), .val (.ref b1), .val (.int (0 : Int32))] [(.int t10), (.int f9), (.ref b)])) _
          refine own_via (fun t k => XS.aload X5.here hx rfl (hb hby at_331) rfl rfl k) ?_
          show own_Rch p.tables e below (T5.setTop (mkF m 333 #[.val (.long q1), .second, .val (.long q3), .second, .val (.int p4), .val (.int p5), .val (.int p6), .val (.int p7), .val (.ref b), .val (.int f9), .val (.int t10), .val (.int (4 : Int32)), .val (.int t12), .val (.int t13), .val (.int t14), .val (.int t15), .val (.int t16), .val (.ref b1), .val (.int (0 : Int32))] [(.ref b1), (.int t10), (.int f9), (.ref b)])) _
          have Vt12 := V5'
          rw [hbt12, hbt13, hbt14, hbt15] at Vt12
          obtain ⟨_, _, ⟨T12, L12, k12, n12⟩, -, X12, ⟨Lc12, hQ12, l12, y12, z12⟩, st12⟩ := Jvm.LawKit.callS X5 hx (y := (⟨"com/example/lastkey/lastkey/exec/TextFormat", "isNull", "([BII[B)Z"⟩ : MethodName)) hown (mvT hZ (hw _ (List.mem_of_getElem? (i := 6) rfl))) (mvT hZ (hw _ (List.mem_of_getElem? (i := 7) rfl))) (mvT hZ (hw _ (List.mem_of_getElem? (i := 8) rfl))) (mvT hZ (hw _ (List.mem_of_getElem? (i := 9) rfl))) (by decide) (backOf (W := 0) (rm2_4 l Z a0 hw [] b f9 t10 b1 l_ [t12, t13, t14, t15] kb k1 h5 n0 (((((V.ext E1).other W2 (Nat.ne_of_lt (Nat.lt_of_lt_of_le V.lt (Nat.le_of_eq g1.symm)))).other W3 (Nat.ne_of_lt (Nat.lt_of_lt_of_le V.lt (Nat.le_of_eq g1.symm)))).other W4 (Nat.ne_of_lt (Nat.lt_of_lt_of_le V.lt (Nat.le_of_eq g1.symm)))).other W5 (Nat.ne_of_lt (Nat.lt_of_lt_of_le V.lt (Nat.le_of_eq g1.symm)))) Vt12 i0 i1 i2) hZ (hw _ (List.mem_of_getElem? (i := 9) rfl)) (hw _ (List.mem_of_getElem? (i := 8) rfl)) (by decide) (by decide)) (g := (mkF m 333 #[.val (.long q1), .second, .val (.long q3), .second, .val (.int p4), .val (.int p5), .val (.int p6), .val (.int p7), .val (.ref b), .val (.int f9), .val (.int t10), .val (.int (4 : Int32)), .val (.int t12), .val (.int t13), .val (.int t14), .val (.int t15), .val (.int t16), .val (.ref b1), .val (.int (0 : Int32))] [(.ref b1), (.int t10), (.int f9), (.ref b)])) rfl (by rw [hml]; rfl) (argsL := [(.ref b), (.int f9), (.int t10), (.ref b1)]) (rest := []) (lenOf pd_0 rfl) rfl (by show 2 * 0 + _ ≤ _; exact Nat.le_of_eq rfl) (hb hby at_333) (fun _ _ => ⟨rfl, e5, (by decide : 2 + 0 ≤ _), (by decide : 9 + 0 ≤ _)⟩)
          dsimp only [Pt.U, Pt.locs, Pt.cells, Pt.slots] at X12 l12 y12 z12 st12 hQ12
          subst l12 y12 z12
          obtain ⟨rfl, N12q, eh12⟩ := hQ12
          have N12 := Fr.app N5 N12q
          refine own_via st12 ?_
          show own_Rch p.tables e below (T12.setTop (mkF m 336 #[.val (.long q1), .second, .val (.long q3), .second, .val (.int p4), .val (.int p5), .val (.int p6), .val (.int p7), .val (.ref b), .val (.int f9), .val (.int t10), .val (.int (4 : Int32)), .val (.int t12), .val (.int t13), .val (.int t14), .val (.int t15), .val (.int t16), .val (.ref b1), .val (.int (0 : Int32))] [(.int (own_n4_4 l_ [t12, t13, t14, t15] f9 t10))])) _
          refine own_via (fun t k => XS.iload X12.here hx rfl (hb hby at_336) rfl k) ?_
          show own_Rch p.tables e below (T12.setTop (mkF m 338 #[.val (.long q1), .second, .val (.long q3), .second, .val (.int p4), .val (.int p5), .val (.int p6), .val (.int p7), .val (.ref b), .val (.int f9), .val (.int t10), .val (.int (4 : Int32)), .val (.int t12), .val (.int t13), .val (.int t14), .val (.int t15), .val (.int t16), .val (.ref b1), .val (.int (0 : Int32))] [(.int (0 : Int32)), (.int (own_n4_4 l_ [t12, t13, t14, t15] f9 t10))])) _
          have a0_ : own_at [t12, t13, t14, t15] (0 : Int32) = t12 := rfl
          have a1_ : own_at [t12, t13, t14, t15] (1 : Int32) = t13 := rfl
          have a2_ : own_at [t12, t13, t14, t15] (2 : Int32) = t14 := rfl
          have a3_ : own_at [t12, t13, t14, t15] (3 : Int32) = t15 := rfl
          have hq : (own_n4_4 l_ [t12, t13, t14, t15] f9 t10) = (0 : Int32) := by simp only [own_n4_4, Int32.add_zero, a0_, a1_, a2_, a3_, if_pos c227, if_pos c243, if_pos c261, if_neg c279]
          refine own_via (fun t k => XS.icmpNo X12.here hx rfl (hb hby at_338) rfl (teq hq).2 k) ?_
          show own_Rch p.tables e below (T12.setTop (mkF m 341 #[.val (.long q1), .second, .val (.long q3), .second, .val (.int p4), .val (.int p5), .val (.int p6), .val (.int p7), .val (.ref b), .val (.int f9), .val (.int t10), .val (.int (4 : Int32)), .val (.int t12), .val (.int t13), .val (.int t14), .val (.int t15), .val (.int t16), .val (.ref b1), .val (.int (0 : Int32))] [])) _
          refine own_via (fun t k => XS.iconst X12.here hx rfl (hb hby at_341) k) ?_
          show own_Rch p.tables e below (T12.setTop (mkF m 342 #[.val (.long q1), .second, .val (.long q3), .second, .val (.int p4), .val (.int p5), .val (.int p6), .val (.int p7), .val (.ref b), .val (.int f9), .val (.int t10), .val (.int (4 : Int32)), .val (.int t12), .val (.int t13), .val (.int t14), .val (.int t15), .val (.int t16), .val (.ref b1), .val (.int (0 : Int32))] [(.int (1 : Int32))])) _
          refine own_via (fun t k => XS.goto X12.here hx rfl (pc0 := 342) (pc' := 346) rfl (hb hby at_342) (by decide) (by decide) k) ?_
          show own_Rch p.tables e below (T12.setTop (mkF m 346 #[.val (.long q1), .second, .val (.long q3), .second, .val (.int p4), .val (.int p5), .val (.int p6), .val (.int p7), .val (.ref b), .val (.int f9), .val (.int t10), .val (.int (4 : Int32)), .val (.int t12), .val (.int t13), .val (.int t14), .val (.int t15), .val (.int t16), .val (.ref b1), .val (.int (0 : Int32))] [(.int (1 : Int32))])) _
          exact own_fin X12 hx (t := .boolean) (i := .ireturn) hret hlk rfl (Or.inl ⟨rfl, by simp, _, rfl⟩) (hb hby at_346) (by decide) (by decide) ⟨rfl, N12⟩
      · refine own_via (fun t k => XS.icmpYes X5.here hx rfl (pc0 := 261) (pc' := 322) rfl (hb hby at_261) rfl (feq c261).2 (by decide) (by decide) k) ?_
        show own_Rch p.tables e below (T5.setTop (mkF m 322 #[.val (.long q1), .second, .val (.long q3), .second, .val (.int p4), .val (.int p5), .val (.int p6), .val (.int p7), .val (.ref b), .val (.int f9), .val (.int t10), .val (.int (4 : Int32)), .val (.int t12), .val (.int t13), .val (.int t14), .val (.int t15), .val (.int t16), .val (.ref b1), .unset] [])) _
        refine own_via (fun t k => XS.iconst X5.here hx rfl (hb hby at_322) k) ?_
        show own_Rch p.tables e below (T5.setTop (mkF m 323 #[.val (.long q1), .second, .val (.long q3), .second, .val (.int p4), .val (.int p5), .val (.int p6), .val (.int p7), .val (.ref b), .val (.int f9), .val (.int t10), .val (.int (4 : Int32)), .val (.int t12), .val (.int t13), .val (.int t14), .val (.int t15), .val (.int t16), .val (.ref b1), .unset] [(.int (0 : Int32))])) _
        refine own_via (fun t k => XS.istore X5.here hx rfl (hb hby at_323) rfl (l' := #[.val (.long q1), .second, .val (.long q3), .second, .val (.int p4), .val (.int p5), .val (.int p6), .val (.int p7), .val (.ref b), .val (.int f9), .val (.int t10), .val (.int (4 : Int32)), .val (.int t12), .val (.int t13), .val (.int t14), .val (.int t15), .val (.int t16), .val (.ref b1), .val (.int (0 : Int32))]) rfl k) ?_
        show own_Rch p.tables e below (T5.setTop (mkF m 325 #[.val (.long q1), .second, .val (.long q3), .second, .val (.int p4), .val (.int p5), .val (.int p6), .val (.int p7), .val (.ref b), .val (.int f9), .val (.int t10), .val (.int (4 : Int32)), .val (.int t12), .val (.int t13), .val (.int t14), .val (.int t15), .val (.int t16), .val (.ref b1), .val (.int (0 : Int32))] [])) _
        refine own_via (fun t k => XS.aload X5.here hx rfl (hb hby at_325) rfl rfl k) ?_
        show own_Rch p.tables e below (T5.setTop (mkF m 327 #[.val (.long q1), .second, .val (.long q3), .second, .val (.int p4), .val (.int p5), .val (.int p6), .val (.int p7), .val (.ref b), .val (.int f9), .val (.int t10), .val (.int (4 : Int32)), .val (.int t12), .val (.int t13), .val (.int t14), .val (.int t15), .val (.int t16), .val (.ref b1), .val (.int (0 : Int32))] [(.ref b)])) _
        refine own_via (fun t k => XS.iload X5.here hx rfl (hb hby at_327) rfl k) ?_
        show own_Rch p.tables e below (T5.setTop (mkF m 329 #[.val (.long q1), .second, .val (.long q3), .second, .val (.int p4), .val (.int p5), .val (.int p6), .val (.int p7), .val (.ref b), .val (.int f9), .val (.int t10), .val (.int (4 : Int32)), .val (.int t12), .val (.int t13), .val (.int t14), .val (.int t15), .val (.int t16), .val (.ref b1), .val (.int (0 : Int32))] [(.int f9), (.ref b)])) _
        refine own_via (fun t k => XS.iload X5.here hx rfl (hb hby at_329) rfl k) ?_
        show own_Rch p.tables e below (T5.setTop (mkF m 331 #[.val (.long q1), .second, .val (.long q3), .second, .val (.int p4), .val (.int p5), .val (.int p6), .val (.int p7), .val (.ref b), .val (.int f9), .val (.int t10), .val (.int (4 : Int32)), .val (.int t12), .val (.int t13), .val (.int t14), .val (.int t15), .val (.int t16), .val (.ref b1), .val (.int (0 : Int32))] [(.int t10), (.int f9), (.ref b)])) _
        refine own_via (fun t k => XS.aload X5.here hx rfl (hb hby at_331) rfl rfl k) ?_
        show own_Rch p.tables e below (T5.setTop (mkF m 333 #[.val (.long q1), .second, .val (.long q3), .second, .val (.int p4), .val (.int p5), .val (.int p6), .val (.int p7), .val (.ref b), .val (.int f9), .val (.int t10), .val (.int (4 : Int32)), .val (.int t12), .val (.int t13), .val (.int t14), .val (.int t15), .val (.int t16), .val (.ref b1), .val (.int (0 : Int32))] [(.ref b1), (.int t10), (.int f9), (.ref b)])) _
        have Vt13 := V5'
        rw [hbt12, hbt13, hbt14, hbt15] at Vt13
        obtain ⟨_, _, ⟨T13, L13, k13, n13⟩, -, X13, ⟨Lc13, hQ13, l13, y13, z13⟩, st13⟩ := Jvm.LawKit.callS X5 hx (y := (⟨"com/example/lastkey/lastkey/exec/TextFormat", "isNull", "([BII[B)Z"⟩ : MethodName)) hown (mvT hZ (hw _ (List.mem_of_getElem? (i := 6) rfl))) (mvT hZ (hw _ (List.mem_of_getElem? (i := 7) rfl))) (mvT hZ (hw _ (List.mem_of_getElem? (i := 8) rfl))) (mvT hZ (hw _ (List.mem_of_getElem? (i := 9) rfl))) (by decide) (backOf (W := 0) (rm2_4 l Z a0 hw [] b f9 t10 b1 l_ [t12, t13, t14, t15] kb k1 h5 n0 (((((V.ext E1).other W2 (Nat.ne_of_lt (Nat.lt_of_lt_of_le V.lt (Nat.le_of_eq g1.symm)))).other W3 (Nat.ne_of_lt (Nat.lt_of_lt_of_le V.lt (Nat.le_of_eq g1.symm)))).other W4 (Nat.ne_of_lt (Nat.lt_of_lt_of_le V.lt (Nat.le_of_eq g1.symm)))).other W5 (Nat.ne_of_lt (Nat.lt_of_lt_of_le V.lt (Nat.le_of_eq g1.symm)))) Vt13 i0 i1 i2) hZ (hw _ (List.mem_of_getElem? (i := 9) rfl)) (hw _ (List.mem_of_getElem? (i := 8) rfl)) (by decide) (by decide)) (g := (mkF m 333 #[.val (.long q1), .second, .val (.long q3), .second, .val (.int p4), .val (.int p5), .val (.int p6), .val (.int p7), .val (.ref b), .val (.int f9), .val (.int t10), .val (.int (4 : Int32)), .val (.int t12), .val (.int t13), .val (.int t14), .val (.int t15), .val (.int t16), .val (.ref b1), .val (.int (0 : Int32))] [(.ref b1), (.int t10), (.int f9), (.ref b)])) rfl (by rw [hml]; rfl) (argsL := [(.ref b), (.int f9), (.int t10), (.ref b1)]) (rest := []) (lenOf pd_0 rfl) rfl (by show 2 * 0 + _ ≤ _; exact Nat.le_of_eq rfl) (hb hby at_333) (fun _ _ => ⟨rfl, e5, (by decide : 2 + 0 ≤ _), (by decide : 9 + 0 ≤ _)⟩)
        dsimp only [Pt.U, Pt.locs, Pt.cells, Pt.slots] at X13 l13 y13 z13 st13 hQ13
        subst l13 y13 z13
        obtain ⟨rfl, N13q, eh13⟩ := hQ13
        have N13 := Fr.app N5 N13q
        refine own_via st13 ?_
        show own_Rch p.tables e below (T13.setTop (mkF m 336 #[.val (.long q1), .second, .val (.long q3), .second, .val (.int p4), .val (.int p5), .val (.int p6), .val (.int p7), .val (.ref b), .val (.int f9), .val (.int t10), .val (.int (4 : Int32)), .val (.int t12), .val (.int t13), .val (.int t14), .val (.int t15), .val (.int t16), .val (.ref b1), .val (.int (0 : Int32))] [(.int (own_n4_4 l_ [t12, t13, t14, t15] f9 t10))])) _
        refine own_via (fun t k => XS.iload X13.here hx rfl (hb hby at_336) rfl k) ?_
        show own_Rch p.tables e below (T13.setTop (mkF m 338 #[.val (.long q1), .second, .val (.long q3), .second, .val (.int p4), .val (.int p5), .val (.int p6), .val (.int p7), .val (.ref b), .val (.int f9), .val (.int t10), .val (.int (4 : Int32)), .val (.int t12), .val (.int t13), .val (.int t14), .val (.int t15), .val (.int t16), .val (.ref b1), .val (.int (0 : Int32))] [(.int (0 : Int32)), (.int (own_n4_4 l_ [t12, t13, t14, t15] f9 t10))])) _
        have a0_ : own_at [t12, t13, t14, t15] (0 : Int32) = t12 := rfl
        have a1_ : own_at [t12, t13, t14, t15] (1 : Int32) = t13 := rfl
        have a2_ : own_at [t12, t13, t14, t15] (2 : Int32) = t14 := rfl
        have a3_ : own_at [t12, t13, t14, t15] (3 : Int32) = t15 := rfl
        have hq : (own_n4_4 l_ [t12, t13, t14, t15] f9 t10) = (0 : Int32) := by simp only [own_n4_4, Int32.add_zero, a0_, a1_, a2_, a3_, if_pos c227, if_pos c243, if_neg c261]
        refine own_via (fun t k => XS.icmpNo X13.here hx rfl (hb hby at_338) rfl (teq hq).2 k) ?_
        show own_Rch p.tables e below (T13.setTop (mkF m 341 #[.val (.long q1), .second, .val (.long q3), .second, .val (.int p4), .val (.int p5), .val (.int p6), .val (.int p7), .val (.ref b), .val (.int f9), .val (.int t10), .val (.int (4 : Int32)), .val (.int t12), .val (.int t13), .val (.int t14), .val (.int t15), .val (.int t16), .val (.ref b1), .val (.int (0 : Int32))] [])) _
        refine own_via (fun t k => XS.iconst X13.here hx rfl (hb hby at_341) k) ?_
        show own_Rch p.tables e below (T13.setTop (mkF m 342 #[.val (.long q1), .second, .val (.long q3), .second, .val (.int p4), .val (.int p5), .val (.int p6), .val (.int p7), .val (.ref b), .val (.int f9), .val (.int t10), .val (.int (4 : Int32)), .val (.int t12), .val (.int t13), .val (.int t14), .val (.int t15), .val (.int t16), .val (.ref b1), .val (.int (0 : Int32))] [(.int (1 : Int32))])) _
        refine own_via (fun t k => XS.goto X13.here hx rfl (pc0 := 342) (pc' := 346) rfl (hb hby at_342) (by decide) (by decide) k) ?_
        show own_Rch p.tables e below (T13.setTop (mkF m 346 #[.val (.long q1), .second, .val (.long q3), .second, .val (.int p4), .val (.int p5), .val (.int p6), .val (.int p7), .val (.ref b), .val (.int f9), .val (.int t10), .val (.int (4 : Int32)), .val (.int t12), .val (.int t13), .val (.int t14), .val (.int t15), .val (.int t16), .val (.ref b1), .val (.int (0 : Int32))] [(.int (1 : Int32))])) _
        exact own_fin X13 hx (t := .boolean) (i := .ireturn) hret hlk rfl (Or.inl ⟨rfl, by simp, _, rfl⟩) (hb hby at_346) (by decide) (by decide) ⟨rfl, N13⟩
    · refine own_via (fun t k => XS.icmpYes X5.here hx rfl (pc0 := 243) (pc' := 322) rfl (hb hby at_243) rfl (feq c243).2 (by decide) (by decide) k) ?_
      show own_Rch p.tables e below (T5.setTop (mkF m 322 #[.val (.long q1), .second, .val (.long q3), .second, .val (.int p4), .val (.int p5), .val (.int p6), .val (.int p7), .val (.ref b), .val (.int f9), .val (.int t10), .val (.int (4 : Int32)), .val (.int t12), .val (.int t13), .val (.int t14), .val (.int t15), .val (.int t16), .val (.ref b1), .unset] [])) _
      refine own_via (fun t k => XS.iconst X5.here hx rfl (hb hby at_322) k) ?_
      show own_Rch p.tables e below (T5.setTop (mkF m 323 #[.val (.long q1), .second, .val (.long q3), .second, .val (.int p4), .val (.int p5), .val (.int p6), .val (.int p7), .val (.ref b), .val (.int f9), .val (.int t10), .val (.int (4 : Int32)), .val (.int t12), .val (.int t13), .val (.int t14), .val (.int t15), .val (.int t16), .val (.ref b1), .unset] [(.int (0 : Int32))])) _
      refine own_via (fun t k => XS.istore X5.here hx rfl (hb hby at_323) rfl (l' := #[.val (.long q1), .second, .val (.long q3), .second, .val (.int p4), .val (.int p5), .val (.int p6), .val (.int p7), .val (.ref b), .val (.int f9), .val (.int t10), .val (.int (4 : Int32)), .val (.int t12), .val (.int t13), .val (.int t14), .val (.int t15), .val (.int t16), .val (.ref b1), .val (.int (0 : Int32))]) rfl k) ?_
      show own_Rch p.tables e below (T5.setTop (mkF m 325 #[.val (.long q1), .second, .val (.long q3), .second, .val (.int p4), .val (.int p5), .val (.int p6), .val (.int p7), .val (.ref b), .val (.int f9), .val (.int t10), .val (.int (4 : Int32)), .val (.int t12), .val (.int t13), .val (.int t14), .val (.int t15), .val (.int t16), .val (.ref b1), .val (.int (0 : Int32))] [])) _
      refine own_via (fun t k => XS.aload X5.here hx rfl (hb hby at_325) rfl rfl k) ?_
      show own_Rch p.tables e below (T5.setTop (mkF m 327 #[.val (.long q1), .second, .val (.long q3), .second, .val (.int p4), .val (.int p5), .val (.int p6), .val (.int p7), .val (.ref b), .val (.int f9), .val (.int t10), .val (.int (4 : Int32)), .val (.int t12), .val (.int t13), .val (.int t14), .val (.int t15), .val (.int t16), .val (.ref b1), .val (.int (0 : Int32))] [(.ref b)])) _
      refine own_via (fun t k => XS.iload X5.here hx rfl (hb hby at_327) rfl k) ?_
      show own_Rch p.tables e below (T5.setTop (mkF m 329 #[.val (.long q1), .second, .val (.long q3), .second, .val (.int p4), .val (.int p5), .val (.int p6), .val (.int p7), .val (.ref b), .val (.int f9), .val (.int t10), .val (.int (4 : Int32)), .val (.int t12), .val (.int t13), .val (.int t14), .val (.int t15), .val (.int t16), .val (.ref b1), .val (.int (0 : Int32))] [(.int f9), (.ref b)])) _
      refine own_via (fun t k => XS.iload X5.here hx rfl (hb hby at_329) rfl k) ?_
      show own_Rch p.tables e below (T5.setTop (mkF m 331 #[.val (.long q1), .second, .val (.long q3), .second, .val (.int p4), .val (.int p5), .val (.int p6), .val (.int p7), .val (.ref b), .val (.int f9), .val (.int t10), .val (.int (4 : Int32)), .val (.int t12), .val (.int t13), .val (.int t14), .val (.int t15), .val (.int t16), .val (.ref b1), .val (.int (0 : Int32))] [(.int t10), (.int f9), (.ref b)])) _
      refine own_via (fun t k => XS.aload X5.here hx rfl (hb hby at_331) rfl rfl k) ?_
      show own_Rch p.tables e below (T5.setTop (mkF m 333 #[.val (.long q1), .second, .val (.long q3), .second, .val (.int p4), .val (.int p5), .val (.int p6), .val (.int p7), .val (.ref b), .val (.int f9), .val (.int t10), .val (.int (4 : Int32)), .val (.int t12), .val (.int t13), .val (.int t14), .val (.int t15), .val (.int t16), .val (.ref b1), .val (.int (0 : Int32))] [(.ref b1), (.int t10), (.int f9), (.ref b)])) _
      have Vt14 := V5'
      rw [hbt12, hbt13, hbt14, hbt15] at Vt14
      obtain ⟨_, _, ⟨T14, L14, k14, n14⟩, -, X14, ⟨Lc14, hQ14, l14, y14, z14⟩, st14⟩ := Jvm.LawKit.callS X5 hx (y := (⟨"com/example/lastkey/lastkey/exec/TextFormat", "isNull", "([BII[B)Z"⟩ : MethodName)) hown (mvT hZ (hw _ (List.mem_of_getElem? (i := 6) rfl))) (mvT hZ (hw _ (List.mem_of_getElem? (i := 7) rfl))) (mvT hZ (hw _ (List.mem_of_getElem? (i := 8) rfl))) (mvT hZ (hw _ (List.mem_of_getElem? (i := 9) rfl))) (by decide) (backOf (W := 0) (rm2_4 l Z a0 hw [] b f9 t10 b1 l_ [t12, t13, t14, t15] kb k1 h5 n0 (((((V.ext E1).other W2 (Nat.ne_of_lt (Nat.lt_of_lt_of_le V.lt (Nat.le_of_eq g1.symm)))).other W3 (Nat.ne_of_lt (Nat.lt_of_lt_of_le V.lt (Nat.le_of_eq g1.symm)))).other W4 (Nat.ne_of_lt (Nat.lt_of_lt_of_le V.lt (Nat.le_of_eq g1.symm)))).other W5 (Nat.ne_of_lt (Nat.lt_of_lt_of_le V.lt (Nat.le_of_eq g1.symm)))) Vt14 i0 i1 i2) hZ (hw _ (List.mem_of_getElem? (i := 9) rfl)) (hw _ (List.mem_of_getElem? (i := 8) rfl)) (by decide) (by decide)) (g := (mkF m 333 #[.val (.long q1), .second, .val (.long q3), .second, .val (.int p4), .val (.int p5), .val (.int p6), .val (.int p7), .val (.ref b), .val (.int f9), .val (.int t10), .val (.int (4 : Int32)), .val (.int t12), .val (.int t13), .val (.int t14), .val (.int t15), .val (.int t16), .val (.ref b1), .val (.int (0 : Int32))] [(.ref b1), (.int t10), (.int f9), (.ref b)])) rfl (by rw [hml]; rfl) (argsL := [(.ref b), (.int f9), (.int t10), (.ref b1)]) (rest := []) (lenOf pd_0 rfl) rfl (by show 2 * 0 + _ ≤ _; exact Nat.le_of_eq rfl) (hb hby at_333) (fun _ _ => ⟨rfl, e5, (by decide : 2 + 0 ≤ _), (by decide : 9 + 0 ≤ _)⟩)
      dsimp only [Pt.U, Pt.locs, Pt.cells, Pt.slots] at X14 l14 y14 z14 st14 hQ14
      subst l14 y14 z14
      obtain ⟨rfl, N14q, eh14⟩ := hQ14
      have N14 := Fr.app N5 N14q
      refine own_via st14 ?_
      show own_Rch p.tables e below (T14.setTop (mkF m 336 #[.val (.long q1), .second, .val (.long q3), .second, .val (.int p4), .val (.int p5), .val (.int p6), .val (.int p7), .val (.ref b), .val (.int f9), .val (.int t10), .val (.int (4 : Int32)), .val (.int t12), .val (.int t13), .val (.int t14), .val (.int t15), .val (.int t16), .val (.ref b1), .val (.int (0 : Int32))] [(.int (own_n4_4 l_ [t12, t13, t14, t15] f9 t10))])) _
      refine own_via (fun t k => XS.iload X14.here hx rfl (hb hby at_336) rfl k) ?_
      show own_Rch p.tables e below (T14.setTop (mkF m 338 #[.val (.long q1), .second, .val (.long q3), .second, .val (.int p4), .val (.int p5), .val (.int p6), .val (.int p7), .val (.ref b), .val (.int f9), .val (.int t10), .val (.int (4 : Int32)), .val (.int t12), .val (.int t13), .val (.int t14), .val (.int t15), .val (.int t16), .val (.ref b1), .val (.int (0 : Int32))] [(.int (0 : Int32)), (.int (own_n4_4 l_ [t12, t13, t14, t15] f9 t10))])) _
      have a0_ : own_at [t12, t13, t14, t15] (0 : Int32) = t12 := rfl
      have a1_ : own_at [t12, t13, t14, t15] (1 : Int32) = t13 := rfl
      have a2_ : own_at [t12, t13, t14, t15] (2 : Int32) = t14 := rfl
      have a3_ : own_at [t12, t13, t14, t15] (3 : Int32) = t15 := rfl
      have hq : (own_n4_4 l_ [t12, t13, t14, t15] f9 t10) = (0 : Int32) := by simp only [own_n4_4, Int32.add_zero, a0_, a1_, a2_, a3_, if_pos c227, if_neg c243]
      refine own_via (fun t k => XS.icmpNo X14.here hx rfl (hb hby at_338) rfl (teq hq).2 k) ?_
      show own_Rch p.tables e below (T14.setTop (mkF m 341 #[.val (.long q1), .second, .val (.long q3), .second, .val (.int p4), .val (.int p5), .val (.int p6), .val (.int p7), .val (.ref b), .val (.int f9), .val (.int t10), .val (.int (4 : Int32)), .val (.int t12), .val (.int t13), .val (.int t14), .val (.int t15), .val (.int t16), .val (.ref b1), .val (.int (0 : Int32))] [])) _
      refine own_via (fun t k => XS.iconst X14.here hx rfl (hb hby at_341) k) ?_
      show own_Rch p.tables e below (T14.setTop (mkF m 342 #[.val (.long q1), .second, .val (.long q3), .second, .val (.int p4), .val (.int p5), .val (.int p6), .val (.int p7), .val (.ref b), .val (.int f9), .val (.int t10), .val (.int (4 : Int32)), .val (.int t12), .val (.int t13), .val (.int t14), .val (.int t15), .val (.int t16), .val (.ref b1), .val (.int (0 : Int32))] [(.int (1 : Int32))])) _
      refine own_via (fun t k => XS.goto X14.here hx rfl (pc0 := 342) (pc' := 346) rfl (hb hby at_342) (by decide) (by decide) k) ?_
      show own_Rch p.tables e below (T14.setTop (mkF m 346 #[.val (.long q1), .second, .val (.long q3), .second, .val (.int p4), .val (.int p5), .val (.int p6), .val (.int p7), .val (.ref b), .val (.int f9), .val (.int t10), .val (.int (4 : Int32)), .val (.int t12), .val (.int t13), .val (.int t14), .val (.int t15), .val (.int t16), .val (.ref b1), .val (.int (0 : Int32))] [(.int (1 : Int32))])) _
      exact own_fin X14 hx (t := .boolean) (i := .ireturn) hret hlk rfl (Or.inl ⟨rfl, by simp, _, rfl⟩) (hb hby at_346) (by decide) (by decide) ⟨rfl, N14⟩
  · refine own_via (fun t k => XS.icmpYes X5.here hx rfl (pc0 := 227) (pc' := 322) rfl (hb hby at_227) rfl (feq c227).2 (by decide) (by decide) k) ?_
    show own_Rch p.tables e below (T5.setTop (mkF m 322 #[.val (.long q1), .second, .val (.long q3), .second, .val (.int p4), .val (.int p5), .val (.int p6), .val (.int p7), .val (.ref b), .val (.int f9), .val (.int t10), .val (.int (4 : Int32)), .val (.int t12), .val (.int t13), .val (.int t14), .val (.int t15), .val (.int t16), .val (.ref b1), .unset] [])) _
    refine own_via (fun t k => XS.iconst X5.here hx rfl (hb hby at_322) k) ?_
    show own_Rch p.tables e below (T5.setTop (mkF m 323 #[.val (.long q1), .second, .val (.long q3), .second, .val (.int p4), .val (.int p5), .val (.int p6), .val (.int p7), .val (.ref b), .val (.int f9), .val (.int t10), .val (.int (4 : Int32)), .val (.int t12), .val (.int t13), .val (.int t14), .val (.int t15), .val (.int t16), .val (.ref b1), .unset] [(.int (0 : Int32))])) _
    refine own_via (fun t k => XS.istore X5.here hx rfl (hb hby at_323) rfl (l' := #[.val (.long q1), .second, .val (.long q3), .second, .val (.int p4), .val (.int p5), .val (.int p6), .val (.int p7), .val (.ref b), .val (.int f9), .val (.int t10), .val (.int (4 : Int32)), .val (.int t12), .val (.int t13), .val (.int t14), .val (.int t15), .val (.int t16), .val (.ref b1), .val (.int (0 : Int32))]) rfl k) ?_
    show own_Rch p.tables e below (T5.setTop (mkF m 325 #[.val (.long q1), .second, .val (.long q3), .second, .val (.int p4), .val (.int p5), .val (.int p6), .val (.int p7), .val (.ref b), .val (.int f9), .val (.int t10), .val (.int (4 : Int32)), .val (.int t12), .val (.int t13), .val (.int t14), .val (.int t15), .val (.int t16), .val (.ref b1), .val (.int (0 : Int32))] [])) _
    refine own_via (fun t k => XS.aload X5.here hx rfl (hb hby at_325) rfl rfl k) ?_
    show own_Rch p.tables e below (T5.setTop (mkF m 327 #[.val (.long q1), .second, .val (.long q3), .second, .val (.int p4), .val (.int p5), .val (.int p6), .val (.int p7), .val (.ref b), .val (.int f9), .val (.int t10), .val (.int (4 : Int32)), .val (.int t12), .val (.int t13), .val (.int t14), .val (.int t15), .val (.int t16), .val (.ref b1), .val (.int (0 : Int32))] [(.ref b)])) _
    refine own_via (fun t k => XS.iload X5.here hx rfl (hb hby at_327) rfl k) ?_
    show own_Rch p.tables e below (T5.setTop (mkF m 329 #[.val (.long q1), .second, .val (.long q3), .second, .val (.int p4), .val (.int p5), .val (.int p6), .val (.int p7), .val (.ref b), .val (.int f9), .val (.int t10), .val (.int (4 : Int32)), .val (.int t12), .val (.int t13), .val (.int t14), .val (.int t15), .val (.int t16), .val (.ref b1), .val (.int (0 : Int32))] [(.int f9), (.ref b)])) _
    refine own_via (fun t k => XS.iload X5.here hx rfl (hb hby at_329) rfl k) ?_
    show own_Rch p.tables e below (T5.setTop (mkF m 331 #[.val (.long q1), .second, .val (.long q3), .second, .val (.int p4), .val (.int p5), .val (.int p6), .val (.int p7), .val (.ref b), .val (.int f9), .val (.int t10), .val (.int (4 : Int32)), .val (.int t12), .val (.int t13), .val (.int t14), .val (.int t15), .val (.int t16), .val (.ref b1), .val (.int (0 : Int32))] [(.int t10), (.int f9), (.ref b)])) _
    refine own_via (fun t k => XS.aload X5.here hx rfl (hb hby at_331) rfl rfl k) ?_
    show own_Rch p.tables e below (T5.setTop (mkF m 333 #[.val (.long q1), .second, .val (.long q3), .second, .val (.int p4), .val (.int p5), .val (.int p6), .val (.int p7), .val (.ref b), .val (.int f9), .val (.int t10), .val (.int (4 : Int32)), .val (.int t12), .val (.int t13), .val (.int t14), .val (.int t15), .val (.int t16), .val (.ref b1), .val (.int (0 : Int32))] [(.ref b1), (.int t10), (.int f9), (.ref b)])) _
    have Vt15 := V5'
    rw [hbt12, hbt13, hbt14, hbt15] at Vt15
    obtain ⟨_, _, ⟨T15, L15, k15, n15⟩, -, X15, ⟨Lc15, hQ15, l15, y15, z15⟩, st15⟩ := Jvm.LawKit.callS X5 hx (y := (⟨"com/example/lastkey/lastkey/exec/TextFormat", "isNull", "([BII[B)Z"⟩ : MethodName)) hown (mvT hZ (hw _ (List.mem_of_getElem? (i := 6) rfl))) (mvT hZ (hw _ (List.mem_of_getElem? (i := 7) rfl))) (mvT hZ (hw _ (List.mem_of_getElem? (i := 8) rfl))) (mvT hZ (hw _ (List.mem_of_getElem? (i := 9) rfl))) (by decide) (backOf (W := 0) (rm2_4 l Z a0 hw [] b f9 t10 b1 l_ [t12, t13, t14, t15] kb k1 h5 n0 (((((V.ext E1).other W2 (Nat.ne_of_lt (Nat.lt_of_lt_of_le V.lt (Nat.le_of_eq g1.symm)))).other W3 (Nat.ne_of_lt (Nat.lt_of_lt_of_le V.lt (Nat.le_of_eq g1.symm)))).other W4 (Nat.ne_of_lt (Nat.lt_of_lt_of_le V.lt (Nat.le_of_eq g1.symm)))).other W5 (Nat.ne_of_lt (Nat.lt_of_lt_of_le V.lt (Nat.le_of_eq g1.symm)))) Vt15 i0 i1 i2) hZ (hw _ (List.mem_of_getElem? (i := 9) rfl)) (hw _ (List.mem_of_getElem? (i := 8) rfl)) (by decide) (by decide)) (g := (mkF m 333 #[.val (.long q1), .second, .val (.long q3), .second, .val (.int p4), .val (.int p5), .val (.int p6), .val (.int p7), .val (.ref b), .val (.int f9), .val (.int t10), .val (.int (4 : Int32)), .val (.int t12), .val (.int t13), .val (.int t14), .val (.int t15), .val (.int t16), .val (.ref b1), .val (.int (0 : Int32))] [(.ref b1), (.int t10), (.int f9), (.ref b)])) rfl (by rw [hml]; rfl) (argsL := [(.ref b), (.int f9), (.int t10), (.ref b1)]) (rest := []) (lenOf pd_0 rfl) rfl (by show 2 * 0 + _ ≤ _; exact Nat.le_of_eq rfl) (hb hby at_333) (fun _ _ => ⟨rfl, e5, (by decide : 2 + 0 ≤ _), (by decide : 9 + 0 ≤ _)⟩)
    dsimp only [Pt.U, Pt.locs, Pt.cells, Pt.slots] at X15 l15 y15 z15 st15 hQ15
    subst l15 y15 z15
    obtain ⟨rfl, N15q, eh15⟩ := hQ15
    have N15 := Fr.app N5 N15q
    refine own_via st15 ?_
    show own_Rch p.tables e below (T15.setTop (mkF m 336 #[.val (.long q1), .second, .val (.long q3), .second, .val (.int p4), .val (.int p5), .val (.int p6), .val (.int p7), .val (.ref b), .val (.int f9), .val (.int t10), .val (.int (4 : Int32)), .val (.int t12), .val (.int t13), .val (.int t14), .val (.int t15), .val (.int t16), .val (.ref b1), .val (.int (0 : Int32))] [(.int (own_n4_4 l_ [t12, t13, t14, t15] f9 t10))])) _
    refine own_via (fun t k => XS.iload X15.here hx rfl (hb hby at_336) rfl k) ?_
    show own_Rch p.tables e below (T15.setTop (mkF m 338 #[.val (.long q1), .second, .val (.long q3), .second, .val (.int p4), .val (.int p5), .val (.int p6), .val (.int p7), .val (.ref b), .val (.int f9), .val (.int t10), .val (.int (4 : Int32)), .val (.int t12), .val (.int t13), .val (.int t14), .val (.int t15), .val (.int t16), .val (.ref b1), .val (.int (0 : Int32))] [(.int (0 : Int32)), (.int (own_n4_4 l_ [t12, t13, t14, t15] f9 t10))])) _
    have a0_ : own_at [t12, t13, t14, t15] (0 : Int32) = t12 := rfl
    have a1_ : own_at [t12, t13, t14, t15] (1 : Int32) = t13 := rfl
    have a2_ : own_at [t12, t13, t14, t15] (2 : Int32) = t14 := rfl
    have a3_ : own_at [t12, t13, t14, t15] (3 : Int32) = t15 := rfl
    have hq : (own_n4_4 l_ [t12, t13, t14, t15] f9 t10) = (0 : Int32) := by simp only [own_n4_4, Int32.add_zero, a0_, a1_, a2_, a3_, if_neg c227]
    refine own_via (fun t k => XS.icmpNo X15.here hx rfl (hb hby at_338) rfl (teq hq).2 k) ?_
    show own_Rch p.tables e below (T15.setTop (mkF m 341 #[.val (.long q1), .second, .val (.long q3), .second, .val (.int p4), .val (.int p5), .val (.int p6), .val (.int p7), .val (.ref b), .val (.int f9), .val (.int t10), .val (.int (4 : Int32)), .val (.int t12), .val (.int t13), .val (.int t14), .val (.int t15), .val (.int t16), .val (.ref b1), .val (.int (0 : Int32))] [])) _
    refine own_via (fun t k => XS.iconst X15.here hx rfl (hb hby at_341) k) ?_
    show own_Rch p.tables e below (T15.setTop (mkF m 342 #[.val (.long q1), .second, .val (.long q3), .second, .val (.int p4), .val (.int p5), .val (.int p6), .val (.int p7), .val (.ref b), .val (.int f9), .val (.int t10), .val (.int (4 : Int32)), .val (.int t12), .val (.int t13), .val (.int t14), .val (.int t15), .val (.int t16), .val (.ref b1), .val (.int (0 : Int32))] [(.int (1 : Int32))])) _
    refine own_via (fun t k => XS.goto X15.here hx rfl (pc0 := 342) (pc' := 346) rfl (hb hby at_342) (by decide) (by decide) k) ?_
    show own_Rch p.tables e below (T15.setTop (mkF m 346 #[.val (.long q1), .second, .val (.long q3), .second, .val (.int p4), .val (.int p5), .val (.int p6), .val (.int p7), .val (.ref b), .val (.int f9), .val (.int t10), .val (.int (4 : Int32)), .val (.int t12), .val (.int t13), .val (.int t14), .val (.int t15), .val (.int t16), .val (.ref b1), .val (.int (0 : Int32))] [(.int (1 : Int32))])) _
    exact own_fin X15 hx (t := .boolean) (i := .ireturn) hret hlk rfl (Or.inl ⟨rfl, by simp, _, rfl⟩) (hb hby at_346) (by decide) (by decide) ⟨rfl, N15⟩
set_option maxRecDepth 65536 in
set_option maxHeartbeats 40000000 in
theorem tl_5 {p : Program} {l : Launch} {e : Env} {s : State} {m : MethodId} {args : Array Value} {below : List Frame} {meth : Method} {c : Code} {T0 : State} {locs : List Loc} {Z : State} {a0 : Array Value} {h0 : Heap} {n0 : Nat} (q1 q3 : Int64) (p4 p5 p6 p7 : Int32) (b : Addr) (f9 t10 t12 t13 t14 t15 t16 : Int32) (l_ : List Int32) (kb : ClassId)
    (X0 : Stand p l e room_1 s m args below meth c T0 locs 1 5) (hx : p.tables.exec = Jvm.exec) (hZ : Z.Warmed39 s.vm) (hw : ∀ d ∈ tables_1, d.before a0 Z = true) (hby : c.code = code) (hml : c.maxLocals = 19) (hown : s.vm.findClass "com/example/lastkey/lastkey/exec/TextFormatIsNullPinLaw" = some m.cls) (hret : meth.sig.returnType = some .boolean) (hlk : meth.locks = false) (e0 : T0.heap = h0) (N0 : Fr n0 locs) (Z0 : n0 ≤ h0.size) (V : Arv Z h0 b kb .byte (5 : Int32) (l_.map Value.int) (.int 0)) (i0 : 0 ≤ f9.toInt) (i1 : t10.toInt ≤ (5 : Int32).toInt) (i2 : 0 ≤ t10.toInt) (hbt12 : t12.toInt8.toInt32 = t12) (hbt13 : t13.toInt8.toInt32 = t13) (hbt14 : t14.toInt8.toInt32 = t14) (hbt15 : t15.toInt8.toInt32 = t15) (hbt16 : t16.toInt8.toInt32 = t16) :
    own_Rch p.tables e below (T0.setTop (mkF m 155 #[.val (.long q1), .second, .val (.long q3), .second, .val (.int p4), .val (.int p5), .val (.int p6), .val (.int p7), .val (.ref b), .val (.int f9), .val (.int t10), .val (.int (5 : Int32)), .val (.int t12), .val (.int t13), .val (.int t14), .val (.int t15), .val (.int t16), .unset, .unset] [])) (own_End s (Q0 n0) room_1.cells room_1.slots) := by
  show own_Rch p.tables e below (T0.setTop (mkF m 155 #[.val (.long q1), .second, .val (.long q3), .second, .val (.int p4), .val (.int p5), .val (.int p6), .val (.int p7), .val (.ref b), .val (.int f9), .val (.int t10), .val (.int (5 : Int32)), .val (.int t12), .val (.int t13), .val (.int t14), .val (.int t15), .val (.int t16), .unset, .unset] [])) _
  refine own_via (fun t k => XS.iload X0.here hx rfl (hb hby at_155) rfl k) ?_
  show own_Rch p.tables e below (T0.setTop (mkF m 157 #[.val (.long q1), .second, .val (.long q3), .second, .val (.int p4), .val (.int p5), .val (.int p6), .val (.int p7), .val (.ref b), .val (.int f9), .val (.int t10), .val (.int (5 : Int32)), .val (.int t12), .val (.int t13), .val (.int t14), .val (.int t15), .val (.int t16), .unset, .unset] [(.int (5 : Int32))])) _
  obtain ⟨T1, h1, k1, X1, e1, E1, A1, st1⟩ := newP X0 hx hZ (hw _ (List.mem_of_getElem? (i := 0) rfl)) e0 (g := (mkF m 157 #[.val (.long q1), .second, .val (.long q3), .second, .val (.int p4), .val (.int p5), .val (.int p6), .val (.int p7), .val (.ref b), .val (.int f9), .val (.int t10), .val (.int (5 : Int32)), .val (.int t12), .val (.int t13), .val (.int t14), .val (.int t15), .val (.int t16), .unset, .unset] [(.int (5 : Int32))])) rfl (hb hby at_157) rfl (by decide) (cap := 5) (by decide) (by decide) (by decide) (by decide)
  obtain ⟨b1, g1⟩ : ∃ z, z = h0.size := ⟨_, rfl⟩
  rw [← g1] at A1 st1
  have g_b1 : n0 ≤ b1 := Nat.le_trans Z0 (Nat.le_of_eq g1.symm)
  have V1 : Arv Z h1 b1 k1 .byte (5 : Int32) [(.int (0 : Int32)), (.int (0 : Int32)), (.int (0 : Int32)), (.int (0 : Int32)), (.int (0 : Int32))] (.int (0 : Int32)) := (Arv.new A1 (by decide)).pad (pad_rep [] (.int (0 : Int32)) 5)
  refine own_via st1 ?_
  show own_Rch p.tables e below (T1.setTop (mkF m 159 #[.val (.long q1), .second, .val (.long q3), .second, .val (.int p4), .val (.int p5), .val (.int p6), .val (.int p7), .val (.ref b), .val (.int f9), .val (.int t10), .val (.int (5 : Int32)), .val (.int t12), .val (.int t13), .val (.int t14), .val (.int t15), .val (.int t16), .unset, .unset] [(.ref b1)])) _
  refine own_via (fun t k => XS.astore X1.here hx rfl (hb hby at_159) rfl rfl (l' := #[.val (.long q1), .second, .val (.long q3), .second, .val (.int p4), .val (.int p5), .val (.int p6), .val (.int p7), .val (.ref b), .val (.int f9), .val (.int t10), .val (.int (5 : Int32)), .val (.int t12), .val (.int t13), .val (.int t14), .val (.int t15), .val (.int t16), .val (.ref b1), .unset]) rfl k) ?_
  show own_Rch p.tables e below (T1.setTop (mkF m 161 #[.val (.long q1), .second, .val (.long q3), .second, .val (.int p4), .val (.int p5), .val (.int p6), .val (.int p7), .val (.ref b), .val (.int f9), .val (.int t10), .val (.int (5 : Int32)), .val (.int t12), .val (.int t13), .val (.int t14), .val (.int t15), .val (.int t16), .val (.ref b1), .unset] [])) _
  refine own_via (fun t k => XS.iload X1.here hx rfl (hb hby at_161) rfl k) ?_
  show own_Rch p.tables e below (T1.setTop (mkF m 163 #[.val (.long q1), .second, .val (.long q3), .second, .val (.int p4), .val (.int p5), .val (.int p6), .val (.int p7), .val (.ref b), .val (.int f9), .val (.int t10), .val (.int (5 : Int32)), .val (.int t12), .val (.int t13), .val (.int t14), .val (.int t15), .val (.int t16), .val (.ref b1), .unset] [(.int (5 : Int32))])) _
  refine own_via (fun t k => XS.ifNo X1.here hx rfl (hb hby at_163) rfl ((if0 _ _).trans (tlt (by decide : (0 : Int32) < (5 : Int32))).2.2.2) k) ?_
  show own_Rch p.tables e below (T1.setTop (mkF m 166 #[.val (.long q1), .second, .val (.long q3), .second, .val (.int p4), .val (.int p5), .val (.int p6), .val (.int p7), .val (.ref b), .val (.int f9), .val (.int t10), .val (.int (5 : Int32)), .val (.int t12), .val (.int t13), .val (.int t14), .val (.int t15), .val (.int t16), .val (.ref b1), .unset] [])) _
  refine own_via (fun t k => XS.aload X1.here hx rfl (hb hby at_166) rfl rfl k) ?_
  show own_Rch p.tables e below (T1.setTop (mkF m 168 #[.val (.long q1), .second, .val (.long q3), .second, .val (.int p4), .val (.int p5), .val (.int p6), .val (.int p7), .val (.ref b), .val (.int f9), .val (.int t10), .val (.int (5 : Int32)), .val (.int t12), .val (.int t13), .val (.int t14), .val (.int t15), .val (.int t16), .val (.ref b1), .unset] [(.ref b1)])) _
  refine own_via (fun t k => XS.iconst X1.here hx rfl (hb hby at_168) k) ?_
  show own_Rch p.tables e below (T1.setTop (mkF m 169 #[.val (.long q1), .second, .val (.long q3), .second, .val (.int p4), .val (.int p5), .val (.int p6), .val (.int p7), .val (.ref b), .val (.int f9), .val (.int t10), .val (.int (5 : Int32)), .val (.int t12), .val (.int t13), .val (.int t14), .val (.int t15), .val (.int t16), .val (.ref b1), .unset] [(.int (0 : Int32)), (.ref b1)])) _
  refine own_via (fun t k => XS.iload X1.here hx rfl (hb hby at_169) rfl k) ?_
  show own_Rch p.tables e below (T1.setTop (mkF m 171 #[.val (.long q1), .second, .val (.long q3), .second, .val (.int p4), .val (.int p5), .val (.int p6), .val (.int p7), .val (.ref b), .val (.int f9), .val (.int t10), .val (.int (5 : Int32)), .val (.int t12), .val (.int t13), .val (.int t14), .val (.int t15), .val (.int t16), .val (.ref b1), .unset] [(.int t12), (.int (0 : Int32)), (.ref b1)])) _
  obtain ⟨cl2, Ar2, cq_2, S2, M2, H2, G2⟩ := V1
  have hin2 : ¬ ((0 : Int32) < 0 ∨ cl2.slots.size ≤ ((0 : Int32)).toNatClampNeg) := inb_of S2 ⟨by decide, by decide⟩
  obtain ⟨T2, h2, X2, e2, W2, st2⟩ := stB X1 hx hZ e1 Ar2 (j := (0 : Int32)) hin2 (g := (mkF m 171 #[.val (.long q1), .second, .val (.long q3), .second, .val (.int p4), .val (.int p5), .val (.int p6), .val (.int p7), .val (.ref b), .val (.int f9), .val (.int t10), .val (.int (5 : Int32)), .val (.int t12), .val (.int t13), .val (.int t14), .val (.int t15), .val (.int t16), .val (.ref b1), .unset] [(.int t12), (.int (0 : Int32)), (.ref b1)])) rfl rfl (hb hby at_171)
  have V2 := Arv.set Ar2 cq_2 S2 M2 H2 G2 (fits_nar_byte _) W2 0 rfl (Nat.le_of_ble_eq_true rfl)
  have V2' : Arv Z h2 b1 k1 .byte (5 : Int32) [(.int (t12.toInt8.toInt32)), (.int (0 : Int32)), (.int (0 : Int32)), (.int (0 : Int32)), (.int (0 : Int32))] (.int (0 : Int32)) := V2
  have N2 := Fr.snoc X2 N0 g_b1
  refine own_via st2 ?_
  show own_Rch p.tables e below (T2.setTop (mkF m 172 #[.val (.long q1), .second, .val (.long q3), .second, .val (.int p4), .val (.int p5), .val (.int p6), .val (.int p7), .val (.ref b), .val (.int f9), .val (.int t10), .val (.int (5 : Int32)), .val (.int t12), .val (.int t13), .val (.int t14), .val (.int t15), .val (.int t16), .val (.ref b1), .unset] [])) _
  refine own_via (fun t k => XS.iload X2.here hx rfl (hb hby at_172) rfl k) ?_
  show own_Rch p.tables e below (T2.setTop (mkF m 174 #[.val (.long q1), .second, .val (.long q3), .second, .val (.int p4), .val (.int p5), .val (.int p6), .val (.int p7), .val (.ref b), .val (.int f9), .val (.int t10), .val (.int (5 : Int32)), .val (.int t12), .val (.int t13), .val (.int t14), .val (.int t15), .val (.int t16), .val (.ref b1), .unset] [(.int (5 : Int32))])) _
  refine own_via (fun t k => XS.iconst X2.here hx rfl (hb hby at_174) k) ?_
  show own_Rch p.tables e below (T2.setTop (mkF m 175 #[.val (.long q1), .second, .val (.long q3), .second, .val (.int p4), .val (.int p5), .val (.int p6), .val (.int p7), .val (.ref b), .val (.int f9), .val (.int t10), .val (.int (5 : Int32)), .val (.int t12), .val (.int t13), .val (.int t14), .val (.int t15), .val (.int t16), .val (.ref b1), .unset] [(.int (1 : Int32)), (.int (5 : Int32))])) _
  refine own_via (fun t k => XS.icmpNo X2.here hx rfl (hb hby at_175) rfl (tlt (by decide : (1 : Int32) < (5 : Int32))).2.2.2 k) ?_
  show own_Rch p.tables e below (T2.setTop (mkF m 178 #[.val (.long q1), .second, .val (.long q3), .second, .val (.int p4), .val (.int p5), .val (.int p6), .val (.int p7), .val (.ref b), .val (.int f9), .val (.int t10), .val (.int (5 : Int32)), .val (.int t12), .val (.int t13), .val (.int t14), .val (.int t15), .val (.int t16), .val (.ref b1), .unset] [])) _
  refine own_via (fun t k => XS.aload X2.here hx rfl (hb hby at_178) rfl rfl k) ?_
  show own_Rch p.tables e below (T2.setTop (mkF m 180 #[.val (.long q1), .second, .val (.long q3), .second, .val (.int p4), .val (.int p5), .val (.int p6), .val (.int p7), .val (.ref b), .val (.int f9), .val (.int t10), .val (.int (5 : Int32)), .val (.int t12), .val (.int t13), .val (.int t14), .val (.int t15), .val (.int t16), .val (.ref b1), .unset] [(.ref b1)])) _
  refine own_via (fun t k => XS.iconst X2.here hx rfl (hb hby at_180) k) ?_
  show own_Rch p.tables e below (T2.setTop (mkF m 181 #[.val (.long q1), .second, .val (.long q3), .second, .val (.int p4), .val (.int p5), .val (.int p6), .val (.int p7), .val (.ref b), .val (.int f9), .val (.int t10), .val (.int (5 : Int32)), .val (.int t12), .val (.int t13), .val (.int t14), .val (.int t15), .val (.int t16), .val (.ref b1), .unset] [(.int (1 : Int32)), (.ref b1)])) _
  refine own_via (fun t k => XS.iload X2.here hx rfl (hb hby at_181) rfl k) ?_
  show own_Rch p.tables e below (T2.setTop (mkF m 183 #[.val (.long q1), .second, .val (.long q3), .second, .val (.int p4), .val (.int p5), .val (.int p6), .val (.int p7), .val (.ref b), .val (.int f9), .val (.int t10), .val (.int (5 : Int32)), .val (.int t12), .val (.int t13), .val (.int t14), .val (.int t15), .val (.int t16), .val (.ref b1), .unset] [(.int t13), (.int (1 : Int32)), (.ref b1)])) _
  obtain ⟨cl3, Ar3, cq_3, S3, M3, H3, G3⟩ := V2'
  have hin3 : ¬ ((1 : Int32) < 0 ∨ cl3.slots.size ≤ ((1 : Int32)).toNatClampNeg) := inb_of S3 ⟨by decide, by decide⟩
  obtain ⟨T3, h3, X3, e3, W3, st3⟩ := stB X2 hx hZ e2 Ar3 (j := (1 : Int32)) hin3 (g := (mkF m 183 #[.val (.long q1), .second, .val (.long q3), .second, .val (.int p4), .val (.int p5), .val (.int p6), .val (.int p7), .val (.ref b), .val (.int f9), .val (.int t10), .val (.int (5 : Int32)), .val (.int t12), .val (.int t13), .val (.int t14), .val (.int t15), .val (.int t16), .val (.ref b1), .unset] [(.int t13), (.int (1 : Int32)), (.ref b1)])) rfl rfl (hb hby at_183)
  have V3 := Arv.set Ar3 cq_3 S3 M3 H3 G3 (fits_nar_byte _) W3 1 rfl (Nat.le_of_ble_eq_true rfl)
  have V3' : Arv Z h3 b1 k1 .byte (5 : Int32) [(.int (t12.toInt8.toInt32)), (.int (t13.toInt8.toInt32)), (.int (0 : Int32)), (.int (0 : Int32)), (.int (0 : Int32))] (.int (0 : Int32)) := V3
  have N3 := Fr.snoc X3 N2 g_b1
  refine own_via st3 ?_
  show own_Rch p.tables e below (T3.setTop (mkF m 184 #[.val (.long q1), .second, .val (.long q3), .second, .val (.int p4), .val (.int p5), .val (.int p6), .val (.int p7), .val (.ref b), .val (.int f9), .val (.int t10), .val (.int (5 : Int32)), .val (.int t12), .val (.int t13), .val (.int t14), .val (.int t15), .val (.int t16), .val (.ref b1), .unset] [])) _
  refine own_via (fun t k => XS.iload X3.here hx rfl (hb hby at_184) rfl k) ?_
  show own_Rch p.tables e below (T3.setTop (mkF m 186 #[.val (.long q1), .second, .val (.long q3), .second, .val (.int p4), .val (.int p5), .val (.int p6), .val (.int p7), .val (.ref b), .val (.int f9), .val (.int t10), .val (.int (5 : Int32)), .val (.int t12), .val (.int t13), .val (.int t14), .val (.int t15), .val (.int t16), .val (.ref b1), .unset] [(.int (5 : Int32))])) _
  refine own_via (fun t k => XS.iconst X3.here hx rfl (hb hby at_186) k) ?_
  show own_Rch p.tables e below (T3.setTop (mkF m 187 #[.val (.long q1), .second, .val (.long q3), .second, .val (.int p4), .val (.int p5), .val (.int p6), .val (.int p7), .val (.ref b), .val (.int f9), .val (.int t10), .val (.int (5 : Int32)), .val (.int t12), .val (.int t13), .val (.int t14), .val (.int t15), .val (.int t16), .val (.ref b1), .unset] [(.int (2 : Int32)), (.int (5 : Int32))])) _
  refine own_via (fun t k => XS.icmpNo X3.here hx rfl (hb hby at_187) rfl (tlt (by decide : (2 : Int32) < (5 : Int32))).2.2.2 k) ?_
  show own_Rch p.tables e below (T3.setTop (mkF m 190 #[.val (.long q1), .second, .val (.long q3), .second, .val (.int p4), .val (.int p5), .val (.int p6), .val (.int p7), .val (.ref b), .val (.int f9), .val (.int t10), .val (.int (5 : Int32)), .val (.int t12), .val (.int t13), .val (.int t14), .val (.int t15), .val (.int t16), .val (.ref b1), .unset] [])) _
  refine own_via (fun t k => XS.aload X3.here hx rfl (hb hby at_190) rfl rfl k) ?_
  show own_Rch p.tables e below (T3.setTop (mkF m 192 #[.val (.long q1), .second, .val (.long q3), .second, .val (.int p4), .val (.int p5), .val (.int p6), .val (.int p7), .val (.ref b), .val (.int f9), .val (.int t10), .val (.int (5 : Int32)), .val (.int t12), .val (.int t13), .val (.int t14), .val (.int t15), .val (.int t16), .val (.ref b1), .unset] [(.ref b1)])) _
  refine own_via (fun t k => XS.iconst X3.here hx rfl (hb hby at_192) k) ?_
  show own_Rch p.tables e below (T3.setTop (mkF m 193 #[.val (.long q1), .second, .val (.long q3), .second, .val (.int p4), .val (.int p5), .val (.int p6), .val (.int p7), .val (.ref b), .val (.int f9), .val (.int t10), .val (.int (5 : Int32)), .val (.int t12), .val (.int t13), .val (.int t14), .val (.int t15), .val (.int t16), .val (.ref b1), .unset] [(.int (2 : Int32)), (.ref b1)])) _
  refine own_via (fun t k => XS.iload X3.here hx rfl (hb hby at_193) rfl k) ?_
  show own_Rch p.tables e below (T3.setTop (mkF m 195 #[.val (.long q1), .second, .val (.long q3), .second, .val (.int p4), .val (.int p5), .val (.int p6), .val (.int p7), .val (.ref b), .val (.int f9), .val (.int t10), .val (.int (5 : Int32)), .val (.int t12), .val (.int t13), .val (.int t14), .val (.int t15), .val (.int t16), .val (.ref b1), .unset] [(.int t14), (.int (2 : Int32)), (.ref b1)])) _
  obtain ⟨cl4, Ar4, cq_4, S4, M4, H4, G4⟩ := V3'
  have hin4 : ¬ ((2 : Int32) < 0 ∨ cl4.slots.size ≤ ((2 : Int32)).toNatClampNeg) := inb_of S4 ⟨by decide, by decide⟩
  obtain ⟨T4, h4, X4, e4, W4, st4⟩ := stB X3 hx hZ e3 Ar4 (j := (2 : Int32)) hin4 (g := (mkF m 195 #[.val (.long q1), .second, .val (.long q3), .second, .val (.int p4), .val (.int p5), .val (.int p6), .val (.int p7), .val (.ref b), .val (.int f9), .val (.int t10), .val (.int (5 : Int32)), .val (.int t12), .val (.int t13), .val (.int t14), .val (.int t15), .val (.int t16), .val (.ref b1), .unset] [(.int t14), (.int (2 : Int32)), (.ref b1)])) rfl rfl (hb hby at_195)
  have V4 := Arv.set Ar4 cq_4 S4 M4 H4 G4 (fits_nar_byte _) W4 2 rfl (Nat.le_of_ble_eq_true rfl)
  have V4' : Arv Z h4 b1 k1 .byte (5 : Int32) [(.int (t12.toInt8.toInt32)), (.int (t13.toInt8.toInt32)), (.int (t14.toInt8.toInt32)), (.int (0 : Int32)), (.int (0 : Int32))] (.int (0 : Int32)) := V4
  have N4 := Fr.snoc X4 N3 g_b1
  refine own_via st4 ?_
  show own_Rch p.tables e below (T4.setTop (mkF m 196 #[.val (.long q1), .second, .val (.long q3), .second, .val (.int p4), .val (.int p5), .val (.int p6), .val (.int p7), .val (.ref b), .val (.int f9), .val (.int t10), .val (.int (5 : Int32)), .val (.int t12), .val (.int t13), .val (.int t14), .val (.int t15), .val (.int t16), .val (.ref b1), .unset] [])) _
  refine own_via (fun t k => XS.iload X4.here hx rfl (hb hby at_196) rfl k) ?_
  show own_Rch p.tables e below (T4.setTop (mkF m 198 #[.val (.long q1), .second, .val (.long q3), .second, .val (.int p4), .val (.int p5), .val (.int p6), .val (.int p7), .val (.ref b), .val (.int f9), .val (.int t10), .val (.int (5 : Int32)), .val (.int t12), .val (.int t13), .val (.int t14), .val (.int t15), .val (.int t16), .val (.ref b1), .unset] [(.int (5 : Int32))])) _
  refine own_via (fun t k => XS.iconst X4.here hx rfl (hb hby at_198) k) ?_
  show own_Rch p.tables e below (T4.setTop (mkF m 199 #[.val (.long q1), .second, .val (.long q3), .second, .val (.int p4), .val (.int p5), .val (.int p6), .val (.int p7), .val (.ref b), .val (.int f9), .val (.int t10), .val (.int (5 : Int32)), .val (.int t12), .val (.int t13), .val (.int t14), .val (.int t15), .val (.int t16), .val (.ref b1), .unset] [(.int (3 : Int32)), (.int (5 : Int32))])) _
  refine own_via (fun t k => XS.icmpNo X4.here hx rfl (hb hby at_199) rfl (tlt (by decide : (3 : Int32) < (5 : Int32))).2.2.2 k) ?_
  show own_Rch p.tables e below (T4.setTop (mkF m 202 #[.val (.long q1), .second, .val (.long q3), .second, .val (.int p4), .val (.int p5), .val (.int p6), .val (.int p7), .val (.ref b), .val (.int f9), .val (.int t10), .val (.int (5 : Int32)), .val (.int t12), .val (.int t13), .val (.int t14), .val (.int t15), .val (.int t16), .val (.ref b1), .unset] [])) _
  refine own_via (fun t k => XS.aload X4.here hx rfl (hb hby at_202) rfl rfl k) ?_
  show own_Rch p.tables e below (T4.setTop (mkF m 204 #[.val (.long q1), .second, .val (.long q3), .second, .val (.int p4), .val (.int p5), .val (.int p6), .val (.int p7), .val (.ref b), .val (.int f9), .val (.int t10), .val (.int (5 : Int32)), .val (.int t12), .val (.int t13), .val (.int t14), .val (.int t15), .val (.int t16), .val (.ref b1), .unset] [(.ref b1)])) _
  refine own_via (fun t k => XS.iconst X4.here hx rfl (hb hby at_204) k) ?_
  show own_Rch p.tables e below (T4.setTop (mkF m 205 #[.val (.long q1), .second, .val (.long q3), .second, .val (.int p4), .val (.int p5), .val (.int p6), .val (.int p7), .val (.ref b), .val (.int f9), .val (.int t10), .val (.int (5 : Int32)), .val (.int t12), .val (.int t13), .val (.int t14), .val (.int t15), .val (.int t16), .val (.ref b1), .unset] [(.int (3 : Int32)), (.ref b1)])) _
  refine own_via (fun t k => XS.iload X4.here hx rfl (hb hby at_205) rfl k) ?_
  show own_Rch p.tables e below (T4.setTop (mkF m 207 #[.val (.long q1), .second, .val (.long q3), .second, .val (.int p4), .val (.int p5), .val (.int p6), .val (.int p7), .val (.ref b), .val (.int f9), .val (.int t10), .val (.int (5 : Int32)), .val (.int t12), .val (.int t13), .val (.int t14), .val (.int t15), .val (.int t16), .val (.ref b1), .unset] [(.int t15), (.int (3 : Int32)), (.ref b1)])) _
  obtain ⟨cl5, Ar5, cq_5, S5, M5, H5, G5⟩ := V4'
  have hin5 : ¬ ((3 : Int32) < 0 ∨ cl5.slots.size ≤ ((3 : Int32)).toNatClampNeg) := inb_of S5 ⟨by decide, by decide⟩
  obtain ⟨T5, h5, X5, e5, W5, st5⟩ := stB X4 hx hZ e4 Ar5 (j := (3 : Int32)) hin5 (g := (mkF m 207 #[.val (.long q1), .second, .val (.long q3), .second, .val (.int p4), .val (.int p5), .val (.int p6), .val (.int p7), .val (.ref b), .val (.int f9), .val (.int t10), .val (.int (5 : Int32)), .val (.int t12), .val (.int t13), .val (.int t14), .val (.int t15), .val (.int t16), .val (.ref b1), .unset] [(.int t15), (.int (3 : Int32)), (.ref b1)])) rfl rfl (hb hby at_207)
  have V5 := Arv.set Ar5 cq_5 S5 M5 H5 G5 (fits_nar_byte _) W5 3 rfl (Nat.le_of_ble_eq_true rfl)
  have V5' : Arv Z h5 b1 k1 .byte (5 : Int32) [(.int (t12.toInt8.toInt32)), (.int (t13.toInt8.toInt32)), (.int (t14.toInt8.toInt32)), (.int (t15.toInt8.toInt32)), (.int (0 : Int32))] (.int (0 : Int32)) := V5
  have N5 := Fr.snoc X5 N4 g_b1
  refine own_via st5 ?_
  show own_Rch p.tables e below (T5.setTop (mkF m 208 #[.val (.long q1), .second, .val (.long q3), .second, .val (.int p4), .val (.int p5), .val (.int p6), .val (.int p7), .val (.ref b), .val (.int f9), .val (.int t10), .val (.int (5 : Int32)), .val (.int t12), .val (.int t13), .val (.int t14), .val (.int t15), .val (.int t16), .val (.ref b1), .unset] [])) _
  refine own_via (fun t k => XS.iload X5.here hx rfl (hb hby at_208) rfl k) ?_
  show own_Rch p.tables e below (T5.setTop (mkF m 210 #[.val (.long q1), .second, .val (.long q3), .second, .val (.int p4), .val (.int p5), .val (.int p6), .val (.int p7), .val (.ref b), .val (.int f9), .val (.int t10), .val (.int (5 : Int32)), .val (.int t12), .val (.int t13), .val (.int t14), .val (.int t15), .val (.int t16), .val (.ref b1), .unset] [(.int (5 : Int32))])) _
  refine own_via (fun t k => XS.iconst X5.here hx rfl (hb hby at_210) k) ?_
  show own_Rch p.tables e below (T5.setTop (mkF m 211 #[.val (.long q1), .second, .val (.long q3), .second, .val (.int p4), .val (.int p5), .val (.int p6), .val (.int p7), .val (.ref b), .val (.int f9), .val (.int t10), .val (.int (5 : Int32)), .val (.int t12), .val (.int t13), .val (.int t14), .val (.int t15), .val (.int t16), .val (.ref b1), .unset] [(.int (4 : Int32)), (.int (5 : Int32))])) _
  refine own_via (fun t k => XS.icmpNo X5.here hx rfl (hb hby at_211) rfl (tlt (by decide : (4 : Int32) < (5 : Int32))).2.2.2 k) ?_
  show own_Rch p.tables e below (T5.setTop (mkF m 214 #[.val (.long q1), .second, .val (.long q3), .second, .val (.int p4), .val (.int p5), .val (.int p6), .val (.int p7), .val (.ref b), .val (.int f9), .val (.int t10), .val (.int (5 : Int32)), .val (.int t12), .val (.int t13), .val (.int t14), .val (.int t15), .val (.int t16), .val (.ref b1), .unset] [])) _
  refine own_via (fun t k => XS.aload X5.here hx rfl (hb hby at_214) rfl rfl k) ?_
  show own_Rch p.tables e below (T5.setTop (mkF m 216 #[.val (.long q1), .second, .val (.long q3), .second, .val (.int p4), .val (.int p5), .val (.int p6), .val (.int p7), .val (.ref b), .val (.int f9), .val (.int t10), .val (.int (5 : Int32)), .val (.int t12), .val (.int t13), .val (.int t14), .val (.int t15), .val (.int t16), .val (.ref b1), .unset] [(.ref b1)])) _
  refine own_via (fun t k => XS.iconst X5.here hx rfl (hb hby at_216) k) ?_
  show own_Rch p.tables e below (T5.setTop (mkF m 217 #[.val (.long q1), .second, .val (.long q3), .second, .val (.int p4), .val (.int p5), .val (.int p6), .val (.int p7), .val (.ref b), .val (.int f9), .val (.int t10), .val (.int (5 : Int32)), .val (.int t12), .val (.int t13), .val (.int t14), .val (.int t15), .val (.int t16), .val (.ref b1), .unset] [(.int (4 : Int32)), (.ref b1)])) _
  refine own_via (fun t k => XS.iload X5.here hx rfl (hb hby at_217) rfl k) ?_
  show own_Rch p.tables e below (T5.setTop (mkF m 219 #[.val (.long q1), .second, .val (.long q3), .second, .val (.int p4), .val (.int p5), .val (.int p6), .val (.int p7), .val (.ref b), .val (.int f9), .val (.int t10), .val (.int (5 : Int32)), .val (.int t12), .val (.int t13), .val (.int t14), .val (.int t15), .val (.int t16), .val (.ref b1), .unset] [(.int t16), (.int (4 : Int32)), (.ref b1)])) _
  obtain ⟨cl6, Ar6, cq_6, S6, M6, H6, G6⟩ := V5'
  have hin6 : ¬ ((4 : Int32) < 0 ∨ cl6.slots.size ≤ ((4 : Int32)).toNatClampNeg) := inb_of S6 ⟨by decide, by decide⟩
  obtain ⟨T6, h6, X6, e6, W6, st6⟩ := stB X5 hx hZ e5 Ar6 (j := (4 : Int32)) hin6 (g := (mkF m 219 #[.val (.long q1), .second, .val (.long q3), .second, .val (.int p4), .val (.int p5), .val (.int p6), .val (.int p7), .val (.ref b), .val (.int f9), .val (.int t10), .val (.int (5 : Int32)), .val (.int t12), .val (.int t13), .val (.int t14), .val (.int t15), .val (.int t16), .val (.ref b1), .unset] [(.int t16), (.int (4 : Int32)), (.ref b1)])) rfl rfl (hb hby at_219)
  have V6 := Arv.set Ar6 cq_6 S6 M6 H6 G6 (fits_nar_byte _) W6 4 rfl (Nat.le_of_ble_eq_true rfl)
  have V6' : Arv Z h6 b1 k1 .byte (5 : Int32) [(.int (t12.toInt8.toInt32)), (.int (t13.toInt8.toInt32)), (.int (t14.toInt8.toInt32)), (.int (t15.toInt8.toInt32)), (.int (t16.toInt8.toInt32))] (.int (0 : Int32)) := V6
  have N6 := Fr.snoc X6 N5 g_b1
  refine own_via st6 ?_
  show own_Rch p.tables e below (T6.setTop (mkF m 220 #[.val (.long q1), .second, .val (.long q3), .second, .val (.int p4), .val (.int p5), .val (.int p6), .val (.int p7), .val (.ref b), .val (.int f9), .val (.int t10), .val (.int (5 : Int32)), .val (.int t12), .val (.int t13), .val (.int t14), .val (.int t15), .val (.int t16), .val (.ref b1), .unset] [])) _
  refine own_via (fun t k => XS.iload X6.here hx rfl (hb hby at_220) rfl k) ?_
  show own_Rch p.tables e below (T6.setTop (mkF m 222 #[.val (.long q1), .second, .val (.long q3), .second, .val (.int p4), .val (.int p5), .val (.int p6), .val (.int p7), .val (.ref b), .val (.int f9), .val (.int t10), .val (.int (5 : Int32)), .val (.int t12), .val (.int t13), .val (.int t14), .val (.int t15), .val (.int t16), .val (.ref b1), .unset] [(.int t10)])) _
  refine own_via (fun t k => XS.iload X6.here hx rfl (hb hby at_222) rfl k) ?_
  show own_Rch p.tables e below (T6.setTop (mkF m 224 #[.val (.long q1), .second, .val (.long q3), .second, .val (.int p4), .val (.int p5), .val (.int p6), .val (.int p7), .val (.ref b), .val (.int f9), .val (.int t10), .val (.int (5 : Int32)), .val (.int t12), .val (.int t13), .val (.int t14), .val (.int t15), .val (.int t16), .val (.ref b1), .unset] [(.int f9), (.int t10)])) _
  refine own_via (fun t k => XS.isub X6.here hx rfl (hb hby at_224) rfl k) ?_
  show own_Rch p.tables e below (T6.setTop (mkF m 225 #[.val (.long q1), .second, .val (.long q3), .second, .val (.int p4), .val (.int p5), .val (.int p6), .val (.int p7), .val (.ref b), .val (.int f9), .val (.int t10), .val (.int (5 : Int32)), .val (.int t12), .val (.int t13), .val (.int t14), .val (.int t15), .val (.int t16), .val (.ref b1), .unset] [(.int (t10 - f9))])) _
  refine own_via (fun t k => XS.iload X6.here hx rfl (hb hby at_225) rfl k) ?_
  show own_Rch p.tables e below (T6.setTop (mkF m 227 #[.val (.long q1), .second, .val (.long q3), .second, .val (.int p4), .val (.int p5), .val (.int p6), .val (.int p7), .val (.ref b), .val (.int f9), .val (.int t10), .val (.int (5 : Int32)), .val (.int t12), .val (.int t13), .val (.int t14), .val (.int t15), .val (.int t16), .val (.ref b1), .unset] [(.int (5 : Int32)), (.int (t10 - f9))])) _
  by_cases c227 : (t10 - f9) = (5 : Int32)
  · refine own_via (fun t k => XS.icmpNo X6.here hx rfl (hb hby at_227) rfl (teq c227).2 k) ?_
    show own_Rch p.tables e below (T6.setTop (mkF m 230 #[.val (.long q1), .second, .val (.long q3), .second, .val (.int p4), .val (.int p5), .val (.int p6), .val (.int p7), .val (.ref b), .val (.int f9), .val (.int t10), .val (.int (5 : Int32)), .val (.int t12), .val (.int t13), .val (.int t14), .val (.int t15), .val (.int t16), .val (.ref b1), .unset] [])) _
    refine own_via (fun t k => XS.iload X6.here hx rfl (hb hby at_230) rfl k) ?_
    show own_Rch p.tables e below (T6.setTop (mkF m 232 #[.val (.long q1), .second, .val (.long q3), .second, .val (.int p4), .val (.int p5), .val (.int p6), .val (.int p7), .val (.ref b), .val (.int f9), .val (.int t10), .val (.int (5 : Int32)), .val (.int t12), .val (.int t13), .val (.int t14), .val (.int t15), .val (.int t16), .val (.ref b1), .unset] [(.int (5 : Int32))])) _
    refine own_via (fun t k => XS.iconst X6.here hx rfl (hb hby at_232) k) ?_
    show own_Rch p.tables e below (T6.setTop (mkF m 233 #[.val (.long q1), .second, .val (.long q3), .second, .val (.int p4), .val (.int p5), .val (.int p6), .val (.int p7), .val (.ref b), .val (.int f9), .val (.int t10), .val (.int (5 : Int32)), .val (.int t12), .val (.int t13), .val (.int t14), .val (.int t15), .val (.int t16), .val (.ref b1), .unset] [(.int (1 : Int32)), (.int (5 : Int32))])) _
    refine own_via (fun t k => XS.icmpNo X6.here hx rfl (hb hby at_233) rfl (flt (by decide : ¬ ((5 : Int32) < (1 : Int32)))).1 k) ?_
    show own_Rch p.tables e below (T6.setTop (mkF m 236 #[.val (.long q1), .second, .val (.long q3), .second, .val (.int p4), .val (.int p5), .val (.int p6), .val (.int p7), .val (.ref b), .val (.int f9), .val (.int t10), .val (.int (5 : Int32)), .val (.int t12), .val (.int t13), .val (.int t14), .val (.int t15), .val (.int t16), .val (.ref b1), .unset] [])) _
    refine own_via (fun t k => XS.aload X6.here hx rfl (hb hby at_236) rfl rfl k) ?_
    show own_Rch p.tables e below (T6.setTop (mkF m 238 #[.val (.long q1), .second, .val (.long q3), .second, .val (.int p4), .val (.int p5), .val (.int p6), .val (.int p7), .val (.ref b), .val (.int f9), .val (.int t10), .val (.int (5 : Int32)), .val (.int t12), .val (.int t13), .val (.int t14), .val (.int t15), .val (.int t16), .val (.ref b1), .unset] [(.ref b)])) _
    refine own_via (fun t k => XS.iload X6.here hx rfl (hb hby at_238) rfl k) ?_
    show own_Rch p.tables e below (T6.setTop (mkF m 240 #[.val (.long q1), .second, .val (.long q3), .second, .val (.int p4), .val (.int p5), .val (.int p6), .val (.int p7), .val (.ref b), .val (.int f9), .val (.int t10), .val (.int (5 : Int32)), .val (.int t12), .val (.int t13), .val (.int t14), .val (.int t15), .val (.int t16), .val (.ref b1), .unset] [(.int f9), (.ref b)])) _
    obtain ⟨cl7, Ar7, -, S7, M7, H7, -⟩ := id ((((((V.ext E1).other W2 (Nat.ne_of_lt (Nat.lt_of_lt_of_le V.lt (Nat.le_of_eq g1.symm)))).other W3 (Nat.ne_of_lt (Nat.lt_of_lt_of_le V.lt (Nat.le_of_eq g1.symm)))).other W4 (Nat.ne_of_lt (Nat.lt_of_lt_of_le V.lt (Nat.le_of_eq g1.symm)))).other W5 (Nat.ne_of_lt (Nat.lt_of_lt_of_le V.lt (Nat.le_of_eq g1.symm)))).other W6 (Nat.ne_of_lt (Nat.lt_of_lt_of_le V.lt (Nat.le_of_eq g1.symm))))
    have hin7 : ¬ (f9 < 0 ∨ cl7.slots.size ≤ (f9).toNatClampNeg) := inb_of S7 (own_inz f9 t10 (5 : Int32) (5 : Int32) i0 i1 i2 c227 (by decide))
    have hat7 : cl7.slots[(f9).toNatClampNeg]? = some (.int (own_at l_ f9)) := Has.at H7 hin7 (own_getI l_ _)
    refine own_via (X6.baloadBytes hx (j := f9) (v := (.int (own_at l_ f9))) (by rw [e6]; exact Ar7.1) (State.isArrayOf_alike hZ.alike Ar7.2.1) Ar7.2.2 hin7 hat7 (g := (mkF m 240 #[.val (.long q1), .second, .val (.long q3), .second, .val (.int p4), .val (.int p5), .val (.int p6), .val (.int p7), .val (.ref b), .val (.int f9), .val (.int t10), .val (.int (5 : Int32)), .val (.int t12), .val (.int t13), .val (.int t14), .val (.int t15), .val (.int t16), .val (.ref b1), .unset] [(.int f9), (.ref b)])) rfl rfl (hb hby at_240)) ?_
    show own_Rch p.tables e below (T6.setTop (mkF m 241 #[.val (.long q1), .second, .val (.long q3), .second, .val (.int p4), .val (.int p5), .val (.int p6), .val (.int p7), .val (.ref b), .val (.int f9), .val (.int t10), .val (.int (5 : Int32)), .val (.int t12), .val (.int t13), .val (.int t14), .val (.int t15), .val (.int t16), .val (.ref b1), .unset] [(.int (own_at l_ f9))])) _
    refine own_via (fun t k => XS.iload X6.here hx rfl (hb hby at_241) rfl k) ?_
    show own_Rch p.tables e below (T6.setTop (mkF m 243 #[.val (.long q1), .second, .val (.long q3), .second, .val (.int p4), .val (.int p5), .val (.int p6), .val (.int p7), .val (.ref b), .val (.int f9), .val (.int t10), .val (.int (5 : Int32)), .val (.int t12), .val (.int t13), .val (.int t14), .val (.int t15), .val (.int t16), .val (.ref b1), .unset] [(.int t12), (.int (own_at l_ f9))])) _
    by_cases c243 : (own_at l_ f9) = t12
    · refine own_via (fun t k => XS.icmpNo X6.here hx rfl (hb hby at_243) rfl (teq c243).2 k) ?_
      show own_Rch p.tables e below (T6.setTop (mkF m 246 #[.val (.long q1), .second, .val (.long q3), .second, .val (.int p4), .val (.int p5), .val (.int p6), .val (.int p7), .val (.ref b), .val (.int f9), .val (.int t10), .val (.int (5 : Int32)), .val (.int t12), .val (.int t13), .val (.int t14), .val (.int t15), .val (.int t16), .val (.ref b1), .unset] [])) _
      refine own_via (fun t k => XS.iload X6.here hx rfl (hb hby at_246) rfl k) ?_
      show own_Rch p.tables e below (T6.setTop (mkF m 248 #[.val (.long q1), .second, .val (.long q3), .second, .val (.int p4), .val (.int p5), .val (.int p6), .val (.int p7), .val (.ref b), .val (.int f9), .val (.int t10), .val (.int (5 : Int32)), .val (.int t12), .val (.int t13), .val (.int t14), .val (.int t15), .val (.int t16), .val (.ref b1), .unset] [(.int (5 : Int32))])) _
      refine own_via (fun t k => XS.iconst X6.here hx rfl (hb hby at_248) k) ?_
      show own_Rch p.tables e below (T6.setTop (mkF m 249 #[.val (.long q1), .second, .val (.long q3), .second, .val (.int p4), .val (.int p5), .val (.int p6), .val (.int p7), .val (.ref b), .val (.int f9), .val (.int t10), .val (.int (5 : Int32)), .val (.int t12), .val (.int t13), .val (.int t14), .val (.int t15), .val (.int t16), .val (.ref b1), .unset] [(.int (2 : Int32)), (.int (5 : Int32))])) _
      refine own_via (fun t k => XS.icmpNo X6.here hx rfl (hb hby at_249) rfl (flt (by decide : ¬ ((5 : Int32) < (2 : Int32)))).1 k) ?_
      show own_Rch p.tables e below (T6.setTop (mkF m 252 #[.val (.long q1), .second, .val (.long q3), .second, .val (.int p4), .val (.int p5), .val (.int p6), .val (.int p7), .val (.ref b), .val (.int f9), .val (.int t10), .val (.int (5 : Int32)), .val (.int t12), .val (.int t13), .val (.int t14), .val (.int t15), .val (.int t16), .val (.ref b1), .unset] [])) _
      refine own_via (fun t k => XS.aload X6.here hx rfl (hb hby at_252) rfl rfl k) ?_
      show own_Rch p.tables e below (T6.setTop (mkF m 254 #[.val (.long q1), .second, .val (.long q3), .second, .val (.int p4), .val (.int p5), .val (.int p6), .val (.int p7), .val (.ref b), .val (.int f9), .val (.int t10), .val (.int (5 : Int32)), .val (.int t12), .val (.int t13), .val (.int t14), .val (.int t15), .val (.int t16), .val (.ref b1), .unset] [(.ref b)])) _
      refine own_via (fun t k => XS.iload X6.here hx rfl (hb hby at_254) rfl k) ?_
      show own_Rch p.tables e below (T6.setTop (mkF m 256 #[.val (.long q1), .second, .val (.long q3), .second, .val (.int p4), .val (.int p5), .val (.int p6), .val (.int p7), .val (.ref b), .val (.int f9), .val (.int t10), .val (.int (5 : Int32)), .val (.int t12), .val (.int t13), .val (.int t14), .val (.int t15), .val (.int t16), .val (.ref b1), .unset] [(.int f9), (.ref b)])) _
      refine own_via (fun t k => XS.iconst X6.here hx rfl (hb hby at_256) k) ?_
      show own_Rch p.tables e below (T6.setTop (mkF m 257 #[.val (.long q1), .second, .val (.long q3), .second, .val (.int p4), .val (.int p5), .val (.int p6), .val (.int p7), .val (.ref b), .val (.int f9), .val (.int t10), .val (.int (5 : Int32)), .val (.int t12), .val (.int t13), .val (.int t14), .val (.int t15), .val (.int t16), .val (.ref b1), .unset] [(.int (1 : Int32)), (.int f9), (.ref b)])) _
      refine own_via (fun t k => XS.iadd X6.here hx rfl (hb hby at_257) rfl k) ?_
      show own_Rch p.tables e below (T6.setTop (mkF m 258 #[.val (.long q1), .second, .val (.long q3), .second, .val (.int p4), .val (.int p5), .val (.int p6), .val (.int p7), .val (.ref b), .val (.int f9), .val (.int t10), .val (.int (5 : Int32)), .val (.int t12), .val (.int t13), .val (.int t14), .val (.int t15), .val (.int t16), .val (.ref b1), .unset] [(.int (f9 + (1 : Int32))), (.ref b)])) _
      obtain ⟨cl8, Ar8, -, S8, M8, H8, -⟩ := id ((((((V.ext E1).other W2 (Nat.ne_of_lt (Nat.lt_of_lt_of_le V.lt (Nat.le_of_eq g1.symm)))).other W3 (Nat.ne_of_lt (Nat.lt_of_lt_of_le V.lt (Nat.le_of_eq g1.symm)))).other W4 (Nat.ne_of_lt (Nat.lt_of_lt_of_le V.lt (Nat.le_of_eq g1.symm)))).other W5 (Nat.ne_of_lt (Nat.lt_of_lt_of_le V.lt (Nat.le_of_eq g1.symm)))).other W6 (Nat.ne_of_lt (Nat.lt_of_lt_of_le V.lt (Nat.le_of_eq g1.symm))))
      have hin8 : ¬ ((f9 + (1 : Int32)) < 0 ∨ cl8.slots.size ≤ ((f9 + (1 : Int32))).toNatClampNeg) := inb_of S8 (own_in f9 t10 (5 : Int32) (1 : Int32) (5 : Int32) i0 i1 i2 c227 (by decide) (by decide))
      have hat8 : cl8.slots[((f9 + (1 : Int32))).toNatClampNeg]? = some (.int (own_at l_ (f9 + (1 : Int32)))) := Has.at H8 hin8 (own_getI l_ _)
      refine own_via (X6.baloadBytes hx (j := (f9 + (1 : Int32))) (v := (.int (own_at l_ (f9 + (1 : Int32))))) (by rw [e6]; exact Ar8.1) (State.isArrayOf_alike hZ.alike Ar8.2.1) Ar8.2.2 hin8 hat8 (g := (mkF m 258 #[.val (.long q1), .second, .val (.long q3), .second, .val (.int p4), .val (.int p5), .val (.int p6), .val (.int p7), .val (.ref b), .val (.int f9), .val (.int t10), .val (.int (5 : Int32)), .val (.int t12), .val (.int t13), .val (.int t14), .val (.int t15), .val (.int t16), .val (.ref b1), .unset] [(.int (f9 + (1 : Int32))), (.ref b)])) rfl rfl (hb hby at_258)) ?_
      show own_Rch p.tables e below (T6.setTop (mkF m 259 #[.val (.long q1), .second, .val (.long q3), .second, .val (.int p4), .val (.int p5), .val (.int p6), .val (.int p7), .val (.ref b), .val (.int f9), .val (.int t10), .val (.int (5 : Int32)), .val (.int t12), .val (.int t13), .val (.int t14), .val (.int t15), .val (.int t16), .val (.ref b1), .unset] [(.int (own_at l_ (f9 + (1 : Int32))))])) _
      refine own_via (fun t k => XS.iload X6.here hx rfl (hb hby at_259) rfl k) ?_
      show own_Rch p.tables e below (T6.setTop (mkF m 261 #[.val (.long q1), .second, .val (.long q3), .second, .val (.int p4), .val (.int p5), .val (.int p6), .val (.int p7), .val (.ref b), .val (.int f9), .val (.int t10), .val (.int (5 : Int32)), .val (.int t12), .val (.int t13), .val (.int t14), .val (.int t15), .val (.int t16), .val (.ref b1), .unset] [(.int t13), (.int (own_at l_ (f9 + (1 : Int32))))])) _
      by_cases c261 : (own_at l_ (f9 + (1 : Int32))) = t13
      · refine own_via (fun t k => XS.icmpNo X6.here hx rfl (hb hby at_261) rfl (teq c261).2 k) ?_
        show own_Rch p.tables e below (T6.setTop (mkF m 264 #[.val (.long q1), .second, .val (.long q3), .second, .val (.int p4), .val (.int p5), .val (.int p6), .val (.int p7), .val (.ref b), .val (.int f9), .val (.int t10), .val (.int (5 : Int32)), .val (.int t12), .val (.int t13), .val (.int t14), .val (.int t15), .val (.int t16), .val (.ref b1), .unset] [])) _
        refine own_via (fun t k => XS.iload X6.here hx rfl (hb hby at_264) rfl k) ?_
        show own_Rch p.tables e below (T6.setTop (mkF m 266 #[.val (.long q1), .second, .val (.long q3), .second, .val (.int p4), .val (.int p5), .val (.int p6), .val (.int p7), .val (.ref b), .val (.int f9), .val (.int t10), .val (.int (5 : Int32)), .val (.int t12), .val (.int t13), .val (.int t14), .val (.int t15), .val (.int t16), .val (.ref b1), .unset] [(.int (5 : Int32))])) _
        refine own_via (fun t k => XS.iconst X6.here hx rfl (hb hby at_266) k) ?_
        show own_Rch p.tables e below (T6.setTop (mkF m 267 #[.val (.long q1), .second, .val (.long q3), .second, .val (.int p4), .val (.int p5), .val (.int p6), .val (.int p7), .val (.ref b), .val (.int f9), .val (.int t10), .val (.int (5 : Int32)), .val (.int t12), .val (.int t13), .val (.int t14), .val (.int t15), .val (.int t16), .val (.ref b1), .unset] [(.int (3 : Int32)), (.int (5 : Int32))])) _
        refine own_via (fun t k => XS.icmpNo X6.here hx rfl (hb hby at_267) rfl (flt (by decide : ¬ ((5 : Int32) < (3 : Int32)))).1 k) ?_
        show own_Rch p.tables e below (T6.setTop (mkF m 270 #[.val (.long q1), .second, .val (.long q3), .second, .val (.int p4), .val (.int p5), .val (.int p6), .val (.int p7), .val (.ref b), .val (.int f9), .val (.int t10), .val (.int (5 : Int32)), .val (.int t12), .val (.int t13), .val (.int t14), .val (.int t15), .val (.int t16), .val (.ref b1), .unset] [])) _
        refine own_via (fun t k => XS.aload X6.here hx rfl (hb hby at_270) rfl rfl k) ?_
        show own_Rch p.tables e below (T6.setTop (mkF m 272 #[.val (.long q1), .second, .val (.long q3), .second, .val (.int p4), .val (.int p5), .val (.int p6), .val (.int p7), .val (.ref b), .val (.int f9), .val (.int t10), .val (.int (5 : Int32)), .val (.int t12), .val (.int t13), .val (.int t14), .val (.int t15), .val (.int t16), .val (.ref b1), .unset] [(.ref b)])) _
        refine own_via (fun t k => XS.iload X6.here hx rfl (hb hby at_272) rfl k) ?_
        show own_Rch p.tables e below (T6.setTop (mkF m 274 #[.val (.long q1), .second, .val (.long q3), .second, .val (.int p4), .val (.int p5), .val (.int p6), .val (.int p7), .val (.ref b), .val (.int f9), .val (.int t10), .val (.int (5 : Int32)), .val (.int t12), .val (.int t13), .val (.int t14), .val (.int t15), .val (.int t16), .val (.ref b1), .unset] [(.int f9), (.ref b)])) _
        refine own_via (fun t k => XS.iconst X6.here hx rfl (hb hby at_274) k) ?_
        show own_Rch p.tables e below (T6.setTop (mkF m 275 #[.val (.long q1), .second, .val (.long q3), .second, .val (.int p4), .val (.int p5), .val (.int p6), .val (.int p7), .val (.ref b), .val (.int f9), .val (.int t10), .val (.int (5 : Int32)), .val (.int t12), .val (.int t13), .val (.int t14), .val (.int t15), .val (.int t16), .val (.ref b1), .unset] [(.int (2 : Int32)), (.int f9), (.ref b)])) _
        refine own_via (fun t k => XS.iadd X6.here hx rfl (hb hby at_275) rfl k) ?_
        show own_Rch p.tables e below (T6.setTop (mkF m 276 #[.val (.long q1), .second, .val (.long q3), .second, .val (.int p4), .val (.int p5), .val (.int p6), .val (.int p7), .val (.ref b), .val (.int f9), .val (.int t10), .val (.int (5 : Int32)), .val (.int t12), .val (.int t13), .val (.int t14), .val (.int t15), .val (.int t16), .val (.ref b1), .unset] [(.int (f9 + (2 : Int32))), (.ref b)])) _
        obtain ⟨cl9, Ar9, -, S9, M9, H9, -⟩ := id ((((((V.ext E1).other W2 (Nat.ne_of_lt (Nat.lt_of_lt_of_le V.lt (Nat.le_of_eq g1.symm)))).other W3 (Nat.ne_of_lt (Nat.lt_of_lt_of_le V.lt (Nat.le_of_eq g1.symm)))).other W4 (Nat.ne_of_lt (Nat.lt_of_lt_of_le V.lt (Nat.le_of_eq g1.symm)))).other W5 (Nat.ne_of_lt (Nat.lt_of_lt_of_le V.lt (Nat.le_of_eq g1.symm)))).other W6 (Nat.ne_of_lt (Nat.lt_of_lt_of_le V.lt (Nat.le_of_eq g1.symm))))
        have hin9 : ¬ ((f9 + (2 : Int32)) < 0 ∨ cl9.slots.size ≤ ((f9 + (2 : Int32))).toNatClampNeg) := inb_of S9 (own_in f9 t10 (5 : Int32) (2 : Int32) (5 : Int32) i0 i1 i2 c227 (by decide) (by decide))
        have hat9 : cl9.slots[((f9 + (2 : Int32))).toNatClampNeg]? = some (.int (own_at l_ (f9 + (2 : Int32)))) := Has.at H9 hin9 (own_getI l_ _)
        refine own_via (X6.baloadBytes hx (j := (f9 + (2 : Int32))) (v := (.int (own_at l_ (f9 + (2 : Int32))))) (by rw [e6]; exact Ar9.1) (State.isArrayOf_alike hZ.alike Ar9.2.1) Ar9.2.2 hin9 hat9 (g := (mkF m 276 #[.val (.long q1), .second, .val (.long q3), .second, .val (.int p4), .val (.int p5), .val (.int p6), .val (.int p7), .val (.ref b), .val (.int f9), .val (.int t10), .val (.int (5 : Int32)), .val (.int t12), .val (.int t13), .val (.int t14), .val (.int t15), .val (.int t16), .val (.ref b1), .unset] [(.int (f9 + (2 : Int32))), (.ref b)])) rfl rfl (hb hby at_276)) ?_
        show own_Rch p.tables e below (T6.setTop (mkF m 277 #[.val (.long q1), .second, .val (.long q3), .second, .val (.int p4), .val (.int p5), .val (.int p6), .val (.int p7), .val (.ref b), .val (.int f9), .val (.int t10), .val (.int (5 : Int32)), .val (.int t12), .val (.int t13), .val (.int t14), .val (.int t15), .val (.int t16), .val (.ref b1), .unset] [(.int (own_at l_ (f9 + (2 : Int32))))])) _
        refine own_via (fun t k => XS.iload X6.here hx rfl (hb hby at_277) rfl k) ?_
        show own_Rch p.tables e below (T6.setTop (mkF m 279 #[.val (.long q1), .second, .val (.long q3), .second, .val (.int p4), .val (.int p5), .val (.int p6), .val (.int p7), .val (.ref b), .val (.int f9), .val (.int t10), .val (.int (5 : Int32)), .val (.int t12), .val (.int t13), .val (.int t14), .val (.int t15), .val (.int t16), .val (.ref b1), .unset] [(.int t14), (.int (own_at l_ (f9 + (2 : Int32))))])) _
        by_cases c279 : (own_at l_ (f9 + (2 : Int32))) = t14
        · refine own_via (fun t k => XS.icmpNo X6.here hx rfl (hb hby at_279) rfl (teq c279).2 k) ?_
          show own_Rch p.tables e below (T6.setTop (mkF m 282 #[.val (.long q1), .second, .val (.long q3), .second, .val (.int p4), .val (.int p5), .val (.int p6), .val (.int p7), .val (.ref b), .val (.int f9), .val (.int t10), .val (.int (5 : Int32)), .val (.int t12), .val (.int t13), .val (.int t14), .val (.int t15), .val (.int t16), .val (.ref b1), .unset] [])) _
          refine own_via (fun t k => XS.iload X6.here hx rfl (hb hby at_282) rfl k) ?_
          show own_Rch p.tables e below (T6.setTop (mkF m 284 #[.val (.long q1), .second, .val (.long q3), .second, .val (.int p4), .val (.int p5), .val (.int p6), .val (.int p7), .val (.ref b), .val (.int f9), .val (.int t10), .val (.int (5 : Int32)), .val (.int t12), .val (.int t13), .val (.int t14), .val (.int t15), .val (.int t16), .val (.ref b1), .unset] [(.int (5 : Int32))])) _
          refine own_via (fun t k => XS.iconst X6.here hx rfl (hb hby at_284) k) ?_
          show own_Rch p.tables e below (T6.setTop (mkF m 285 #[.val (.long q1), .second, .val (.long q3), .second, .val (.int p4), .val (.int p5), .val (.int p6), .val (.int p7), .val (.ref b), .val (.int f9), .val (.int t10), .val (.int (5 : Int32)), .val (.int t12), .val (.int t13), .val (.int t14), .val (.int t15), .val (.int t16), .val (.ref b1), .unset] [(.int (4 : Int32)), (.int (5 : Int32))])) _
          refine own_via (fun t k => XS.icmpNo X6.here hx rfl (hb hby at_285) rfl (flt (by decide : ¬ ((5 : Int32) < (4 : Int32)))).1 k) ?_
          show own_Rch p.tables e below (T6.setTop (mkF m 288 #[.val (.long q1), .second, .val (.long q3), .second, .val (.int p4), .val (.int p5), .val (.int p6), .val (.int p7), .val (.ref b), .val (.int f9), .val (.int t10), .val (.int (5 : Int32)), .val (.int t12), .val (.int t13), .val (.int t14), .val (.int t15), .val (.int t16), .val (.ref b1), .unset] [])) _
          refine own_via (fun t k => XS.aload X6.here hx rfl (hb hby at_288) rfl rfl k) ?_
          show own_Rch p.tables e below (T6.setTop (mkF m 290 #[.val (.long q1), .second, .val (.long q3), .second, .val (.int p4), .val (.int p5), .val (.int p6), .val (.int p7), .val (.ref b), .val (.int f9), .val (.int t10), .val (.int (5 : Int32)), .val (.int t12), .val (.int t13), .val (.int t14), .val (.int t15), .val (.int t16), .val (.ref b1), .unset] [(.ref b)])) _
          refine own_via (fun t k => XS.iload X6.here hx rfl (hb hby at_290) rfl k) ?_
          show own_Rch p.tables e below (T6.setTop (mkF m 292 #[.val (.long q1), .second, .val (.long q3), .second, .val (.int p4), .val (.int p5), .val (.int p6), .val (.int p7), .val (.ref b), .val (.int f9), .val (.int t10), .val (.int (5 : Int32)), .val (.int t12), .val (.int t13), .val (.int t14), .val (.int t15), .val (.int t16), .val (.ref b1), .unset] [(.int f9), (.ref b)])) _
          refine own_via (fun t k => XS.iconst X6.here hx rfl (hb hby at_292) k) ?_
          show own_Rch p.tables e below (T6.setTop (mkF m 293 #[.val (.long q1), .second, .val (.long q3), .second, .val (.int p4), .val (.int p5), .val (.int p6), .val (.int p7), .val (.ref b), .val (.int f9), .val (.int t10), .val (.int (5 : Int32)), .val (.int t12), .val (.int t13), .val (.int t14), .val (.int t15), .val (.int t16), .val (.ref b1), .unset] [(.int (3 : Int32)), (.int f9), (.ref b)])) _
          refine own_via (fun t k => XS.iadd X6.here hx rfl (hb hby at_293) rfl k) ?_
          show own_Rch p.tables e below (T6.setTop (mkF m 294 #[.val (.long q1), .second, .val (.long q3), .second, .val (.int p4), .val (.int p5), .val (.int p6), .val (.int p7), .val (.ref b), .val (.int f9), .val (.int t10), .val (.int (5 : Int32)), .val (.int t12), .val (.int t13), .val (.int t14), .val (.int t15), .val (.int t16), .val (.ref b1), .unset] [(.int (f9 + (3 : Int32))), (.ref b)])) _
          obtain ⟨cl10, Ar10, -, S10, M10, H10, -⟩ := id ((((((V.ext E1).other W2 (Nat.ne_of_lt (Nat.lt_of_lt_of_le V.lt (Nat.le_of_eq g1.symm)))).other W3 (Nat.ne_of_lt (Nat.lt_of_lt_of_le V.lt (Nat.le_of_eq g1.symm)))).other W4 (Nat.ne_of_lt (Nat.lt_of_lt_of_le V.lt (Nat.le_of_eq g1.symm)))).other W5 (Nat.ne_of_lt (Nat.lt_of_lt_of_le V.lt (Nat.le_of_eq g1.symm)))).other W6 (Nat.ne_of_lt (Nat.lt_of_lt_of_le V.lt (Nat.le_of_eq g1.symm))))
          have hin10 : ¬ ((f9 + (3 : Int32)) < 0 ∨ cl10.slots.size ≤ ((f9 + (3 : Int32))).toNatClampNeg) := inb_of S10 (own_in f9 t10 (5 : Int32) (3 : Int32) (5 : Int32) i0 i1 i2 c227 (by decide) (by decide))
          have hat10 : cl10.slots[((f9 + (3 : Int32))).toNatClampNeg]? = some (.int (own_at l_ (f9 + (3 : Int32)))) := Has.at H10 hin10 (own_getI l_ _)
          refine own_via (X6.baloadBytes hx (j := (f9 + (3 : Int32))) (v := (.int (own_at l_ (f9 + (3 : Int32))))) (by rw [e6]; exact Ar10.1) (State.isArrayOf_alike hZ.alike Ar10.2.1) Ar10.2.2 hin10 hat10 (g := (mkF m 294 #[.val (.long q1), .second, .val (.long q3), .second, .val (.int p4), .val (.int p5), .val (.int p6), .val (.int p7), .val (.ref b), .val (.int f9), .val (.int t10), .val (.int (5 : Int32)), .val (.int t12), .val (.int t13), .val (.int t14), .val (.int t15), .val (.int t16), .val (.ref b1), .unset] [(.int (f9 + (3 : Int32))), (.ref b)])) rfl rfl (hb hby at_294)) ?_
          show own_Rch p.tables e below (T6.setTop (mkF m 295 #[.val (.long q1), .second, .val (.long q3), .second, .val (.int p4), .val (.int p5), .val (.int p6), .val (.int p7), .val (.ref b), .val (.int f9), .val (.int t10), .val (.int (5 : Int32)), .val (.int t12), .val (.int t13), .val (.int t14), .val (.int t15), .val (.int t16), .val (.ref b1), .unset] [(.int (own_at l_ (f9 + (3 : Int32))))])) _
          refine own_via (fun t k => XS.iload X6.here hx rfl (hb hby at_295) rfl k) ?_
          show own_Rch p.tables e below (T6.setTop (mkF m 297 #[.val (.long q1), .second, .val (.long q3), .second, .val (.int p4), .val (.int p5), .val (.int p6), .val (.int p7), .val (.ref b), .val (.int f9), .val (.int t10), .val (.int (5 : Int32)), .val (.int t12), .val (.int t13), .val (.int t14), .val (.int t15), .val (.int t16), .val (.ref b1), .unset] [(.int t15), (.int (own_at l_ (f9 + (3 : Int32))))])) _
          by_cases c297 : (own_at l_ (f9 + (3 : Int32))) = t15
          · refine own_via (fun t k => XS.icmpNo X6.here hx rfl (hb hby at_297) rfl (teq c297).2 k) ?_
            show own_Rch p.tables e below (T6.setTop (mkF m 300 #[.val (.long q1), .second, .val (.long q3), .second, .val (.int p4), .val (.int p5), .val (.int p6), .val (.int p7), .val (.ref b), .val (.int f9), .val (.int t10), .val (.int (5 : Int32)), .val (.int t12), .val (.int t13), .val (.int t14), .val (.int t15), .val (.int t16), .val (.ref b1), .unset] [])) _
            refine own_via (fun t k => XS.iload X6.here hx rfl (hb hby at_300) rfl k) ?_
            show own_Rch p.tables e below (T6.setTop (mkF m 302 #[.val (.long q1), .second, .val (.long q3), .second, .val (.int p4), .val (.int p5), .val (.int p6), .val (.int p7), .val (.ref b), .val (.int f9), .val (.int t10), .val (.int (5 : Int32)), .val (.int t12), .val (.int t13), .val (.int t14), .val (.int t15), .val (.int t16), .val (.ref b1), .unset] [(.int (5 : Int32))])) _
            refine own_via (fun t k => XS.iconst X6.here hx rfl (hb hby at_302) k) ?_
            show own_Rch p.tables e below (T6.setTop (mkF m 303 #[.val (.long q1), .second, .val (.long q3), .second, .val (.int p4), .val (.int p5), .val (.int p6), .val (.int p7), .val (.ref b), .val (.int f9), .val (.int t10), .val (.int (5 : Int32)), .val (.int t12), .val (.int t13), .val (.int t14), .val (.int t15), .val (.int t16), .val (.ref b1), .unset] [(.int (5 : Int32)), (.int (5 : Int32))])) _
            refine own_via (fun t k => XS.icmpNo X6.here hx rfl (hb hby at_303) rfl (flt (by decide : ¬ ((5 : Int32) < (5 : Int32)))).1 k) ?_
            show own_Rch p.tables e below (T6.setTop (mkF m 306 #[.val (.long q1), .second, .val (.long q3), .second, .val (.int p4), .val (.int p5), .val (.int p6), .val (.int p7), .val (.ref b), .val (.int f9), .val (.int t10), .val (.int (5 : Int32)), .val (.int t12), .val (.int t13), .val (.int t14), .val (.int t15), .val (.int t16), .val (.ref b1), .unset] [])) _
            refine own_via (fun t k => XS.aload X6.here hx rfl (hb hby at_306) rfl rfl k) ?_
            show own_Rch p.tables e below (T6.setTop (mkF m 308 #[.val (.long q1), .second, .val (.long q3), .second, .val (.int p4), .val (.int p5), .val (.int p6), .val (.int p7), .val (.ref b), .val (.int f9), .val (.int t10), .val (.int (5 : Int32)), .val (.int t12), .val (.int t13), .val (.int t14), .val (.int t15), .val (.int t16), .val (.ref b1), .unset] [(.ref b)])) _
            refine own_via (fun t k => XS.iload X6.here hx rfl (hb hby at_308) rfl k) ?_
            show own_Rch p.tables e below (T6.setTop (mkF m 310 #[.val (.long q1), .second, .val (.long q3), .second, .val (.int p4), .val (.int p5), .val (.int p6), .val (.int p7), .val (.ref b), .val (.int f9), .val (.int t10), .val (.int (5 : Int32)), .val (.int t12), .val (.int t13), .val (.int t14), .val (.int t15), .val (.int t16), .val (.ref b1), .unset] [(.int f9), (.ref b)])) _
            refine own_via (fun t k => XS.iconst X6.here hx rfl (hb hby at_310) k) ?_
            show own_Rch p.tables e below (T6.setTop (mkF m 311 #[.val (.long q1), .second, .val (.long q3), .second, .val (.int p4), .val (.int p5), .val (.int p6), .val (.int p7), .val (.ref b), .val (.int f9), .val (.int t10), .val (.int (5 : Int32)), .val (.int t12), .val (.int t13), .val (.int t14), .val (.int t15), .val (.int t16), .val (.ref b1), .unset] [(.int (4 : Int32)), (.int f9), (.ref b)])) _
            refine own_via (fun t k => XS.iadd X6.here hx rfl (hb hby at_311) rfl k) ?_
            show own_Rch p.tables e below (T6.setTop (mkF m 312 #[.val (.long q1), .second, .val (.long q3), .second, .val (.int p4), .val (.int p5), .val (.int p6), .val (.int p7), .val (.ref b), .val (.int f9), .val (.int t10), .val (.int (5 : Int32)), .val (.int t12), .val (.int t13), .val (.int t14), .val (.int t15), .val (.int t16), .val (.ref b1), .unset] [(.int (f9 + (4 : Int32))), (.ref b)])) _
            obtain ⟨cl11, Ar11, -, S11, M11, H11, -⟩ := id ((((((V.ext E1).other W2 (Nat.ne_of_lt (Nat.lt_of_lt_of_le V.lt (Nat.le_of_eq g1.symm)))).other W3 (Nat.ne_of_lt (Nat.lt_of_lt_of_le V.lt (Nat.le_of_eq g1.symm)))).other W4 (Nat.ne_of_lt (Nat.lt_of_lt_of_le V.lt (Nat.le_of_eq g1.symm)))).other W5 (Nat.ne_of_lt (Nat.lt_of_lt_of_le V.lt (Nat.le_of_eq g1.symm)))).other W6 (Nat.ne_of_lt (Nat.lt_of_lt_of_le V.lt (Nat.le_of_eq g1.symm))))
            have hin11 : ¬ ((f9 + (4 : Int32)) < 0 ∨ cl11.slots.size ≤ ((f9 + (4 : Int32))).toNatClampNeg) := inb_of S11 (own_in f9 t10 (5 : Int32) (4 : Int32) (5 : Int32) i0 i1 i2 c227 (by decide) (by decide))
            have hat11 : cl11.slots[((f9 + (4 : Int32))).toNatClampNeg]? = some (.int (own_at l_ (f9 + (4 : Int32)))) := Has.at H11 hin11 (own_getI l_ _)
            refine own_via (X6.baloadBytes hx (j := (f9 + (4 : Int32))) (v := (.int (own_at l_ (f9 + (4 : Int32))))) (by rw [e6]; exact Ar11.1) (State.isArrayOf_alike hZ.alike Ar11.2.1) Ar11.2.2 hin11 hat11 (g := (mkF m 312 #[.val (.long q1), .second, .val (.long q3), .second, .val (.int p4), .val (.int p5), .val (.int p6), .val (.int p7), .val (.ref b), .val (.int f9), .val (.int t10), .val (.int (5 : Int32)), .val (.int t12), .val (.int t13), .val (.int t14), .val (.int t15), .val (.int t16), .val (.ref b1), .unset] [(.int (f9 + (4 : Int32))), (.ref b)])) rfl rfl (hb hby at_312)) ?_
            show own_Rch p.tables e below (T6.setTop (mkF m 313 #[.val (.long q1), .second, .val (.long q3), .second, .val (.int p4), .val (.int p5), .val (.int p6), .val (.int p7), .val (.ref b), .val (.int f9), .val (.int t10), .val (.int (5 : Int32)), .val (.int t12), .val (.int t13), .val (.int t14), .val (.int t15), .val (.int t16), .val (.ref b1), .unset] [(.int (own_at l_ (f9 + (4 : Int32))))])) _
            refine own_via (fun t k => XS.iload X6.here hx rfl (hb hby at_313) rfl k) ?_
            show own_Rch p.tables e below (T6.setTop (mkF m 315 #[.val (.long q1), .second, .val (.long q3), .second, .val (.int p4), .val (.int p5), .val (.int p6), .val (.int p7), .val (.ref b), .val (.int f9), .val (.int t10), .val (.int (5 : Int32)), .val (.int t12), .val (.int t13), .val (.int t14), .val (.int t15), .val (.int t16), .val (.ref b1), .unset] [(.int t16), (.int (own_at l_ (f9 + (4 : Int32))))])) _
            by_cases c315 : (own_at l_ (f9 + (4 : Int32))) = t16
            · refine own_via (fun t k => XS.icmpNo X6.here hx rfl (hb hby at_315) rfl (teq c315).2 k) ?_
              show own_Rch p.tables e below (T6.setTop (mkF m 318 #[.val (.long q1), .second, .val (.long q3), .second, .val (.int p4), .val (.int p5), .val (.int p6), .val (.int p7), .val (.ref b), .val (.int f9), .val (.int t10), .val (.int (5 : Int32)), .val (.int t12), .val (.int t13), .val (.int t14), .val (.int t15), .val (.int t16), .val (.ref b1), .unset] [])) _
              refine own_via (fun t k => XS.iconst X6.here hx rfl (hb hby at_318) k) ?_
              show own_Rch p.tables e below (T6.setTop (mkF m 319 #[.val (.long q1), .second, .val (.long q3), .second, .val (.int p4), .val (.int p5), .val (.int p6), .val (.int p7), .val (.ref b), .val (.int f9), .val (.int t10), .val (.int (5 : Int32)), .val (.int t12), .val (.int t13), .val (.int t14), .val (.int t15), .val (.int t16), .val (.ref b1), .unset] [(.int (1 : Int32))])) _
              refine own_via (fun t k => XS.goto X6.here hx rfl (pc0 := 319) (pc' := 323) rfl (hb hby at_319) (by decide) (by decide) k) ?_
              show own_Rch p.tables e below (T6.setTop (mkF m 323 #[.val (.long q1), .second, .val (.long q3), .second, .val (.int p4), .val (.int p5), .val (.int p6), .val (.int p7), .val (.ref b), .val (.int f9), .val (.int t10), .val (.int (5 : Int32)), .val (.int t12), .val (.int t13), .val (.int t14), .val (.int t15), .val (.int t16), .val (.ref b1), .unset] [(.int (1 : Int32))])) _
              refine own_via (fun t k => XS.istore X6.here hx rfl (hb hby at_323) rfl (l' := #[.val (.long q1), .second, .val (.long q3), .second, .val (.int p4), .val (.int p5), .val (.int p6), .val (.int p7), .val (.ref b), .val (.int f9), .val (.int t10), .val (.int (5 : Int32)), .val (.int t12), .val (.int t13), .val (.int t14), .val (.int t15), .val (.int t16), .val (.ref b1), .val (.int (1 : Int32))]) rfl k) ?_
              show own_Rch p.tables e below (T6.setTop (mkF m 325 #[.val (.long q1), .second, .val (.long q3), .second, .val (.int p4), .val (.int p5), .val (.int p6), .val (.int p7), .val (.ref b), .val (.int f9), .val (.int t10), .val (.int (5 : Int32)), .val (.int t12), .val (.int t13), .val (.int t14), .val (.int t15), .val (.int t16), .val (.ref b1), .val (.int (1 : Int32))] [])) _
              refine own_via (fun t k => XS.aload X6.here hx rfl (hb hby at_325) rfl rfl k) ?_
              show own_Rch p.tables e below (T6.setTop (mkF m 327 #[.val (.long q1), .second, .val (.long q3), .second, .val (.int p4), .val (.int p5), .val (.int p6), .val (.int p7), .val (.ref b), .val (.int f9), .val (.int t10), .val (.int (5 : Int32)), .val (.int t12), .val (.int t13), .val (.int t14), .val (.int t15), .val (.int t16), .val (.ref b1), .val (.int (1 : Int32))] [(.ref b)])) _
              refine own_via (fun t k => XS.iload X6.here hx rfl (hb hby at_327) rfl k) ?_
              show own_Rch p.tables e below (T6.setTop (mkF m 329 #[.val (.long q1), .second, .val (.long q3), .second, .val (.int p4), .val (.int p5), .val (.int p6), .val (.int p7), .val (.ref b), .val (.int f9), .val (.int t10), .val (.int (5 : Int32)), .val (.int t12), .val (.int t13), .val (.int t14), .val (.int t15), .val (.int t16), .val (.ref b1), .val (.int (1 : Int32))] [(.int f9), (.ref b)])) _
              refine own_via (fun t k => XS.iload X6.here hx rfl (hb hby at_329) rfl k) ?_
              show own_Rch p.tables e below (T6.setTop (mkF m 331 #[.val (.long q1), .second, .val (.long q3), .second, .val (.int p4), .val (.int p5), .val (.int p6), .val (.int p7), .val (.ref b), .val (.int f9), .val (.int t10), .val (.int (5 : Int32)), .val (.int t12), .val (.int t13), .val (.int t14), .val (.int t15), .val (.int t16), .val (.ref b1), .val (.int (1 : Int32))] [(.int t10), (.int f9), (.ref b)])) _
              refine own_via (fun t k => XS.aload X6.here hx rfl (hb hby at_331) rfl rfl k) ?_
              show own_Rch p.tables e below (T6.setTop (mkF m 333 #[.val (.long q1), .second, .val (.long q3), .second, .val (.int p4), .val (.int p5), .val (.int p6), .val (.int p7), .val (.ref b), .val (.int f9), .val (.int t10), .val (.int (5 : Int32)), .val (.int t12), .val (.int t13), .val (.int t14), .val (.int t15), .val (.int t16), .val (.ref b1), .val (.int (1 : Int32))] [(.ref b1), (.int t10), (.int f9), (.ref b)])) _
              have Vt12 := V6'
              rw [hbt12, hbt13, hbt14, hbt15, hbt16] at Vt12
              obtain ⟨_, _, ⟨T12, L12, k12, n12⟩, -, X12, ⟨Lc12, hQ12, l12, y12, z12⟩, st12⟩ := Jvm.LawKit.callS X6 hx (y := (⟨"com/example/lastkey/lastkey/exec/TextFormat", "isNull", "([BII[B)Z"⟩ : MethodName)) hown (mvT hZ (hw _ (List.mem_of_getElem? (i := 6) rfl))) (mvT hZ (hw _ (List.mem_of_getElem? (i := 7) rfl))) (mvT hZ (hw _ (List.mem_of_getElem? (i := 8) rfl))) (mvT hZ (hw _ (List.mem_of_getElem? (i := 9) rfl))) (by decide) (backOf (W := 0) (rm2_5 l Z a0 hw [] b f9 t10 b1 l_ [t12, t13, t14, t15, t16] kb k1 h6 n0 ((((((V.ext E1).other W2 (Nat.ne_of_lt (Nat.lt_of_lt_of_le V.lt (Nat.le_of_eq g1.symm)))).other W3 (Nat.ne_of_lt (Nat.lt_of_lt_of_le V.lt (Nat.le_of_eq g1.symm)))).other W4 (Nat.ne_of_lt (Nat.lt_of_lt_of_le V.lt (Nat.le_of_eq g1.symm)))).other W5 (Nat.ne_of_lt (Nat.lt_of_lt_of_le V.lt (Nat.le_of_eq g1.symm)))).other W6 (Nat.ne_of_lt (Nat.lt_of_lt_of_le V.lt (Nat.le_of_eq g1.symm)))) Vt12 i0 i1 i2) hZ (hw _ (List.mem_of_getElem? (i := 9) rfl)) (hw _ (List.mem_of_getElem? (i := 8) rfl)) (by decide) (by decide)) (g := (mkF m 333 #[.val (.long q1), .second, .val (.long q3), .second, .val (.int p4), .val (.int p5), .val (.int p6), .val (.int p7), .val (.ref b), .val (.int f9), .val (.int t10), .val (.int (5 : Int32)), .val (.int t12), .val (.int t13), .val (.int t14), .val (.int t15), .val (.int t16), .val (.ref b1), .val (.int (1 : Int32))] [(.ref b1), (.int t10), (.int f9), (.ref b)])) rfl (by rw [hml]; rfl) (argsL := [(.ref b), (.int f9), (.int t10), (.ref b1)]) (rest := []) (lenOf pd_0 rfl) rfl (by show 2 * 0 + _ ≤ _; exact Nat.le_of_eq rfl) (hb hby at_333) (fun _ _ => ⟨rfl, e6, (by decide : 2 + 0 ≤ _), (by decide : 10 + 0 ≤ _)⟩)
              dsimp only [Pt.U, Pt.locs, Pt.cells, Pt.slots] at X12 l12 y12 z12 st12 hQ12
              subst l12 y12 z12
              obtain ⟨rfl, N12q, eh12⟩ := hQ12
              have N12 := Fr.app N6 N12q
              refine own_via st12 ?_
              show own_Rch p.tables e below (T12.setTop (mkF m 336 #[.val (.long q1), .second, .val (.long q3), .second, .val (.int p4), .val (.int p5), .val (.int p6), .val (.int p7), .val (.ref b), .val (.int f9), .val (.int t10), .val (.int (5 : Int32)), .val (.int t12), .val (.int t13), .val (.int t14), .val (.int t15), .val (.int t16), .val (.ref b1), .val (.int (1 : Int32))] [(.int (own_n4_5 l_ [t12, t13, t14, t15, t16] f9 t10))])) _
              refine own_via (fun t k => XS.iload X12.here hx rfl (hb hby at_336) rfl k) ?_
              show own_Rch p.tables e below (T12.setTop (mkF m 338 #[.val (.long q1), .second, .val (.long q3), .second, .val (.int p4), .val (.int p5), .val (.int p6), .val (.int p7), .val (.ref b), .val (.int f9), .val (.int t10), .val (.int (5 : Int32)), .val (.int t12), .val (.int t13), .val (.int t14), .val (.int t15), .val (.int t16), .val (.ref b1), .val (.int (1 : Int32))] [(.int (1 : Int32)), (.int (own_n4_5 l_ [t12, t13, t14, t15, t16] f9 t10))])) _
              have a0_ : own_at [t12, t13, t14, t15, t16] (0 : Int32) = t12 := rfl
              have a1_ : own_at [t12, t13, t14, t15, t16] (1 : Int32) = t13 := rfl
              have a2_ : own_at [t12, t13, t14, t15, t16] (2 : Int32) = t14 := rfl
              have a3_ : own_at [t12, t13, t14, t15, t16] (3 : Int32) = t15 := rfl
              have a4_ : own_at [t12, t13, t14, t15, t16] (4 : Int32) = t16 := rfl
              have hq : (own_n4_5 l_ [t12, t13, t14, t15, t16] f9 t10) = (1 : Int32) := by simp only [own_n4_5, Int32.add_zero, a0_, a1_, a2_, a3_, a4_, if_pos c227, if_pos c243, if_pos c261, if_pos c279, if_pos c297, if_pos c315]
              refine own_via (fun t k => XS.icmpNo X12.here hx rfl (hb hby at_338) rfl (teq hq).2 k) ?_
              show own_Rch p.tables e below (T12.setTop (mkF m 341 #[.val (.long q1), .second, .val (.long q3), .second, .val (.int p4), .val (.int p5), .val (.int p6), .val (.int p7), .val (.ref b), .val (.int f9), .val (.int t10), .val (.int (5 : Int32)), .val (.int t12), .val (.int t13), .val (.int t14), .val (.int t15), .val (.int t16), .val (.ref b1), .val (.int (1 : Int32))] [])) _
              refine own_via (fun t k => XS.iconst X12.here hx rfl (hb hby at_341) k) ?_
              show own_Rch p.tables e below (T12.setTop (mkF m 342 #[.val (.long q1), .second, .val (.long q3), .second, .val (.int p4), .val (.int p5), .val (.int p6), .val (.int p7), .val (.ref b), .val (.int f9), .val (.int t10), .val (.int (5 : Int32)), .val (.int t12), .val (.int t13), .val (.int t14), .val (.int t15), .val (.int t16), .val (.ref b1), .val (.int (1 : Int32))] [(.int (1 : Int32))])) _
              refine own_via (fun t k => XS.goto X12.here hx rfl (pc0 := 342) (pc' := 346) rfl (hb hby at_342) (by decide) (by decide) k) ?_
              show own_Rch p.tables e below (T12.setTop (mkF m 346 #[.val (.long q1), .second, .val (.long q3), .second, .val (.int p4), .val (.int p5), .val (.int p6), .val (.int p7), .val (.ref b), .val (.int f9), .val (.int t10), .val (.int (5 : Int32)), .val (.int t12), .val (.int t13), .val (.int t14), .val (.int t15), .val (.int t16), .val (.ref b1), .val (.int (1 : Int32))] [(.int (1 : Int32))])) _
              exact own_fin X12 hx (t := .boolean) (i := .ireturn) hret hlk rfl (Or.inl ⟨rfl, by simp, _, rfl⟩) (hb hby at_346) (by decide) (by decide) ⟨rfl, N12⟩
            · refine own_via (fun t k => XS.icmpYes X6.here hx rfl (pc0 := 315) (pc' := 322) rfl (hb hby at_315) rfl (feq c315).2 (by decide) (by decide) k) ?_
              show own_Rch p.tables e below (T6.setTop (mkF m 322 #[.val (.long q1), .second, .val (.long q3), .second, .val (.int p4), .val (.int p5), .val (.int p6), .val (.int p7), .val (.ref b), .val (.int f9), .val (.int t10), .val (.int (5 : Int32)), .val (.int t12), .val (.int t13), .val (.int t14), .val (.int t15), .val (.int t16), .val (.ref b1), .unset] [])) _
              refine own_via (fun t k => XS.iconst X6.here hx rfl (hb hby at_322) k) ?_
              show own_Rch p.tables e below (T6.setTop (mkF m 323 #[.val (.long q1), .second, .val (.long q3), .second, .val (.int p4), .val (.int p5), .val (.int p6), .val (.int p7), .val (.ref b), .val (.int f9), .val (.int t10), .val (.int (5 : Int32)), .val (.int t12), .val (.int t13), .val (.int t14), .val (.int t15), .val (.int t16), .val (.ref b1), .unset] [(.int (0 : Int32))])) _
              refine own_via (fun t k => XS.istore X6.here hx rfl (hb hby at_323) rfl (l' := #[.val (.long q1), .second, .val (.long q3), .second, .val (.int p4), .val (.int p5), .val (.int p6), .val (.int p7), .val (.ref b), .val (.int f9), .val (.int t10), .val (.int (5 : Int32)), .val (.int t12), .val (.int t13), .val (.int t14), .val (.int t15), .val (.int t16), .val (.ref b1), .val (.int (0 : Int32))]) rfl k) ?_
              show own_Rch p.tables e below (T6.setTop (mkF m 325 #[.val (.long q1), .second, .val (.long q3), .second, .val (.int p4), .val (.int p5), .val (.int p6), .val (.int p7), .val (.ref b), .val (.int f9), .val (.int t10), .val (.int (5 : Int32)), .val (.int t12), .val (.int t13), .val (.int t14), .val (.int t15), .val (.int t16), .val (.ref b1), .val (.int (0 : Int32))] [])) _
              refine own_via (fun t k => XS.aload X6.here hx rfl (hb hby at_325) rfl rfl k) ?_
              show own_Rch p.tables e below (T6.setTop (mkF m 327 #[.val (.long q1), .second, .val (.long q3), .second, .val (.int p4), .val (.int p5), .val (.int p6), .val (.int p7), .val (.ref b), .val (.int f9), .val (.int t10), .val (.int (5 : Int32)), .val (.int t12), .val (.int t13), .val (.int t14), .val (.int t15), .val (.int t16), .val (.ref b1), .val (.int (0 : Int32))] [(.ref b)])) _
              refine own_via (fun t k => XS.iload X6.here hx rfl (hb hby at_327) rfl k) ?_
              show own_Rch p.tables e below (T6.setTop (mkF m 329 #[.val (.long q1), .second, .val (.long q3), .second, .val (.int p4), .val (.int p5), .val (.int p6), .val (.int p7), .val (.ref b), .val (.int f9), .val (.int t10), .val (.int (5 : Int32)), .val (.int t12), .val (.int t13), .val (.int t14), .val (.int t15), .val (.int t16), .val (.ref b1), .val (.int (0 : Int32))] [(.int f9), (.ref b)])) _
              refine own_via (fun t k => XS.iload X6.here hx rfl (hb hby at_329) rfl k) ?_
              show own_Rch p.tables e below (T6.setTop (mkF m 331 #[.val (.long q1), .second, .val (.long q3), .second, .val (.int p4), .val (.int p5), .val (.int p6), .val (.int p7), .val (.ref b), .val (.int f9), .val (.int t10), .val (.int (5 : Int32)), .val (.int t12), .val (.int t13), .val (.int t14), .val (.int t15), .val (.int t16), .val (.ref b1), .val (.int (0 : Int32))] [(.int t10), (.int f9), (.ref b)])) _
              refine own_via (fun t k => XS.aload X6.here hx rfl (hb hby at_331) rfl rfl k) ?_
              show own_Rch p.tables e below (T6.setTop (mkF m 333 #[.val (.long q1), .second, .val (.long q3), .second, .val (.int p4), .val (.int p5), .val (.int p6), .val (.int p7), .val (.ref b), .val (.int f9), .val (.int t10), .val (.int (5 : Int32)), .val (.int t12), .val (.int t13), .val (.int t14), .val (.int t15), .val (.int t16), .val (.ref b1), .val (.int (0 : Int32))] [(.ref b1), (.int t10), (.int f9), (.ref b)])) _
              have Vt13 := V6'
              rw [hbt12, hbt13, hbt14, hbt15, hbt16] at Vt13
              obtain ⟨_, _, ⟨T13, L13, k13, n13⟩, -, X13, ⟨Lc13, hQ13, l13, y13, z13⟩, st13⟩ := Jvm.LawKit.callS X6 hx (y := (⟨"com/example/lastkey/lastkey/exec/TextFormat", "isNull", "([BII[B)Z"⟩ : MethodName)) hown (mvT hZ (hw _ (List.mem_of_getElem? (i := 6) rfl))) (mvT hZ (hw _ (List.mem_of_getElem? (i := 7) rfl))) (mvT hZ (hw _ (List.mem_of_getElem? (i := 8) rfl))) (mvT hZ (hw _ (List.mem_of_getElem? (i := 9) rfl))) (by decide) (backOf (W := 0) (rm2_5 l Z a0 hw [] b f9 t10 b1 l_ [t12, t13, t14, t15, t16] kb k1 h6 n0 ((((((V.ext E1).other W2 (Nat.ne_of_lt (Nat.lt_of_lt_of_le V.lt (Nat.le_of_eq g1.symm)))).other W3 (Nat.ne_of_lt (Nat.lt_of_lt_of_le V.lt (Nat.le_of_eq g1.symm)))).other W4 (Nat.ne_of_lt (Nat.lt_of_lt_of_le V.lt (Nat.le_of_eq g1.symm)))).other W5 (Nat.ne_of_lt (Nat.lt_of_lt_of_le V.lt (Nat.le_of_eq g1.symm)))).other W6 (Nat.ne_of_lt (Nat.lt_of_lt_of_le V.lt (Nat.le_of_eq g1.symm)))) Vt13 i0 i1 i2) hZ (hw _ (List.mem_of_getElem? (i := 9) rfl)) (hw _ (List.mem_of_getElem? (i := 8) rfl)) (by decide) (by decide)) (g := (mkF m 333 #[.val (.long q1), .second, .val (.long q3), .second, .val (.int p4), .val (.int p5), .val (.int p6), .val (.int p7), .val (.ref b), .val (.int f9), .val (.int t10), .val (.int (5 : Int32)), .val (.int t12), .val (.int t13), .val (.int t14), .val (.int t15), .val (.int t16), .val (.ref b1), .val (.int (0 : Int32))] [(.ref b1), (.int t10), (.int f9), (.ref b)])) rfl (by rw [hml]; rfl) (argsL := [(.ref b), (.int f9), (.int t10), (.ref b1)]) (rest := []) (lenOf pd_0 rfl) rfl (by show 2 * 0 + _ ≤ _; exact Nat.le_of_eq rfl) (hb hby at_333) (fun _ _ => ⟨rfl, e6, (by decide : 2 + 0 ≤ _), (by decide : 10 + 0 ≤ _)⟩)
              dsimp only [Pt.U, Pt.locs, Pt.cells, Pt.slots] at X13 l13 y13 z13 st13 hQ13
              subst l13 y13 z13
              obtain ⟨rfl, N13q, eh13⟩ := hQ13
              have N13 := Fr.app N6 N13q
              refine own_via st13 ?_
              show own_Rch p.tables e below (T13.setTop (mkF m 336 #[.val (.long q1), .second, .val (.long q3), .second, .val (.int p4), .val (.int p5), .val (.int p6), .val (.int p7), .val (.ref b), .val (.int f9), .val (.int t10), .val (.int (5 : Int32)), .val (.int t12), .val (.int t13), .val (.int t14), .val (.int t15), .val (.int t16), .val (.ref b1), .val (.int (0 : Int32))] [(.int (own_n4_5 l_ [t12, t13, t14, t15, t16] f9 t10))])) _
              refine own_via (fun t k => XS.iload X13.here hx rfl (hb hby at_336) rfl k) ?_
              show own_Rch p.tables e below (T13.setTop (mkF m 338 #[.val (.long q1), .second, .val (.long q3), .second, .val (.int p4), .val (.int p5), .val (.int p6), .val (.int p7), .val (.ref b), .val (.int f9), .val (.int t10), .val (.int (5 : Int32)), .val (.int t12), .val (.int t13), .val (.int t14), .val (.int t15), .val (.int t16), .val (.ref b1), .val (.int (0 : Int32))] [(.int (0 : Int32)), (.int (own_n4_5 l_ [t12, t13, t14, t15, t16] f9 t10))])) _
              have a0_ : own_at [t12, t13, t14, t15, t16] (0 : Int32) = t12 := rfl
              have a1_ : own_at [t12, t13, t14, t15, t16] (1 : Int32) = t13 := rfl
              have a2_ : own_at [t12, t13, t14, t15, t16] (2 : Int32) = t14 := rfl
              have a3_ : own_at [t12, t13, t14, t15, t16] (3 : Int32) = t15 := rfl
              have a4_ : own_at [t12, t13, t14, t15, t16] (4 : Int32) = t16 := rfl
              have hq : (own_n4_5 l_ [t12, t13, t14, t15, t16] f9 t10) = (0 : Int32) := by simp only [own_n4_5, Int32.add_zero, a0_, a1_, a2_, a3_, a4_, if_pos c227, if_pos c243, if_pos c261, if_pos c279, if_pos c297, if_neg c315]
              refine own_via (fun t k => XS.icmpNo X13.here hx rfl (hb hby at_338) rfl (teq hq).2 k) ?_
              show own_Rch p.tables e below (T13.setTop (mkF m 341 #[.val (.long q1), .second, .val (.long q3), .second, .val (.int p4), .val (.int p5), .val (.int p6), .val (.int p7), .val (.ref b), .val (.int f9), .val (.int t10), .val (.int (5 : Int32)), .val (.int t12), .val (.int t13), .val (.int t14), .val (.int t15), .val (.int t16), .val (.ref b1), .val (.int (0 : Int32))] [])) _
              refine own_via (fun t k => XS.iconst X13.here hx rfl (hb hby at_341) k) ?_
              show own_Rch p.tables e below (T13.setTop (mkF m 342 #[.val (.long q1), .second, .val (.long q3), .second, .val (.int p4), .val (.int p5), .val (.int p6), .val (.int p7), .val (.ref b), .val (.int f9), .val (.int t10), .val (.int (5 : Int32)), .val (.int t12), .val (.int t13), .val (.int t14), .val (.int t15), .val (.int t16), .val (.ref b1), .val (.int (0 : Int32))] [(.int (1 : Int32))])) _
              refine own_via (fun t k => XS.goto X13.here hx rfl (pc0 := 342) (pc' := 346) rfl (hb hby at_342) (by decide) (by decide) k) ?_
              show own_Rch p.tables e below (T13.setTop (mkF m 346 #[.val (.long q1), .second, .val (.long q3), .second, .val (.int p4), .val (.int p5), .val (.int p6), .val (.int p7), .val (.ref b), .val (.int f9), .val (.int t10), .val (.int (5 : Int32)), .val (.int t12), .val (.int t13), .val (.int t14), .val (.int t15), .val (.int t16), .val (.ref b1), .val (.int (0 : Int32))] [(.int (1 : Int32))])) _
              exact own_fin X13 hx (t := .boolean) (i := .ireturn) hret hlk rfl (Or.inl ⟨rfl, by simp, _, rfl⟩) (hb hby at_346) (by decide) (by decide) ⟨rfl, N13⟩
          · refine own_via (fun t k => XS.icmpYes X6.here hx rfl (pc0 := 297) (pc' := 322) rfl (hb hby at_297) rfl (feq c297).2 (by decide) (by decide) k) ?_
            show own_Rch p.tables e below (T6.setTop (mkF m 322 #[.val (.long q1), .second, .val (.long q3), .second, .val (.int p4), .val (.int p5), .val (.int p6), .val (.int p7), .val (.ref b), .val (.int f9), .val (.int t10), .val (.int (5 : Int32)), .val (.int t12), .val (.int t13), .val (.int t14), .val (.int t15), .val (.int t16), .val (.ref b1), .unset] [])) _
            refine own_via (fun t k => XS.iconst X6.here hx rfl (hb hby at_322) k) ?_
            show own_Rch p.tables e below (T6.setTop (mkF m 323 #[.val (.long q1), .second, .val (.long q3), .second, .val (.int p4), .val (.int p5), .val (.int p6), .val (.int p7), .val (.ref b), .val (.int f9), .val (.int t10), .val (.int (5 : Int32)), .val (.int t12), .val (.int t13), .val (.int t14), .val (.int t15), .val (.int t16), .val (.ref b1), .unset] [(.int (0 : Int32))])) _
            refine own_via (fun t k => XS.istore X6.here hx rfl (hb hby at_323) rfl (l' := #[.val (.long q1), .second, .val (.long q3), .second, .val (.int p4), .val (.int p5), .val (.int p6), .val (.int p7), .val (.ref b), .val (.int f9), .val (.int t10), .val (.int (5 : Int32)), .val (.int t12), .val (.int t13), .val (.int t14), .val (.int t15), .val (.int t16), .val (.ref b1), .val (.int (0 : Int32))]) rfl k) ?_
            show own_Rch p.tables e below (T6.setTop (mkF m 325 #[.val (.long q1), .second, .val (.long q3), .second, .val (.int p4), .val (.int p5), .val (.int p6), .val (.int p7), .val (.ref b), .val (.int f9), .val (.int t10), .val (.int (5 : Int32)), .val (.int t12), .val (.int t13), .val (.int t14), .val (.int t15), .val (.int t16), .val (.ref b1), .val (.int (0 : Int32))] [])) _
            refine own_via (fun t k => XS.aload X6.here hx rfl (hb hby at_325) rfl rfl k) ?_
            show own_Rch p.tables e below (T6.setTop (mkF m 327 #[.val (.long q1), .second, .val (.long q3), .second, .val (.int p4), .val (.int p5), .val (.int p6), .val (.int p7), .val (.ref b), .val (.int f9), .val (.int t10), .val (.int (5 : Int32)), .val (.int t12), .val (.int t13), .val (.int t14), .val (.int t15), .val (.int t16), .val (.ref b1), .val (.int (0 : Int32))] [(.ref b)])) _
            refine own_via (fun t k => XS.iload X6.here hx rfl (hb hby at_327) rfl k) ?_
            show own_Rch p.tables e below (T6.setTop (mkF m 329 #[.val (.long q1), .second, .val (.long q3), .second, .val (.int p4), .val (.int p5), .val (.int p6), .val (.int p7), .val (.ref b), .val (.int f9), .val (.int t10), .val (.int (5 : Int32)), .val (.int t12), .val (.int t13), .val (.int t14), .val (.int t15), .val (.int t16), .val (.ref b1), .val (.int (0 : Int32))] [(.int f9), (.ref b)])) _
            refine own_via (fun t k => XS.iload X6.here hx rfl (hb hby at_329) rfl k) ?_
            show own_Rch p.tables e below (T6.setTop (mkF m 331 #[.val (.long q1), .second, .val (.long q3), .second, .val (.int p4), .val (.int p5), .val (.int p6), .val (.int p7), .val (.ref b), .val (.int f9), .val (.int t10), .val (.int (5 : Int32)), .val (.int t12), .val (.int t13), .val (.int t14), .val (.int t15), .val (.int t16), .val (.ref b1), .val (.int (0 : Int32))] [(.int t10), (.int f9), (.ref b)])) _
            refine own_via (fun t k => XS.aload X6.here hx rfl (hb hby at_331) rfl rfl k) ?_
            show own_Rch p.tables e below (T6.setTop (mkF m 333 #[.val (.long q1), .second, .val (.long q3), .second, .val (.int p4), .val (.int p5), .val (.int p6), .val (.int p7), .val (.ref b), .val (.int f9), .val (.int t10), .val (.int (5 : Int32)), .val (.int t12), .val (.int t13), .val (.int t14), .val (.int t15), .val (.int t16), .val (.ref b1), .val (.int (0 : Int32))] [(.ref b1), (.int t10), (.int f9), (.ref b)])) _
            have Vt14 := V6'
            rw [hbt12, hbt13, hbt14, hbt15, hbt16] at Vt14
            obtain ⟨_, _, ⟨T14, L14, k14, n14⟩, -, X14, ⟨Lc14, hQ14, l14, y14, z14⟩, st14⟩ := Jvm.LawKit.callS X6 hx (y := (⟨"com/example/lastkey/lastkey/exec/TextFormat", "isNull", "([BII[B)Z"⟩ : MethodName)) hown (mvT hZ (hw _ (List.mem_of_getElem? (i := 6) rfl))) (mvT hZ (hw _ (List.mem_of_getElem? (i := 7) rfl))) (mvT hZ (hw _ (List.mem_of_getElem? (i := 8) rfl))) (mvT hZ (hw _ (List.mem_of_getElem? (i := 9) rfl))) (by decide) (backOf (W := 0) (rm2_5 l Z a0 hw [] b f9 t10 b1 l_ [t12, t13, t14, t15, t16] kb k1 h6 n0 ((((((V.ext E1).other W2 (Nat.ne_of_lt (Nat.lt_of_lt_of_le V.lt (Nat.le_of_eq g1.symm)))).other W3 (Nat.ne_of_lt (Nat.lt_of_lt_of_le V.lt (Nat.le_of_eq g1.symm)))).other W4 (Nat.ne_of_lt (Nat.lt_of_lt_of_le V.lt (Nat.le_of_eq g1.symm)))).other W5 (Nat.ne_of_lt (Nat.lt_of_lt_of_le V.lt (Nat.le_of_eq g1.symm)))).other W6 (Nat.ne_of_lt (Nat.lt_of_lt_of_le V.lt (Nat.le_of_eq g1.symm)))) Vt14 i0 i1 i2) hZ (hw _ (List.mem_of_getElem? (i := 9) rfl)) (hw _ (List.mem_of_getElem? (i := 8) rfl)) (by decide) (by decide)) (g := (mkF m 333 #[.val (.long q1), .second, .val (.long q3), .second, .val (.int p4), .val (.int p5), .val (.int p6), .val (.int p7), .val (.ref b), .val (.int f9), .val (.int t10), .val (.int (5 : Int32)), .val (.int t12), .val (.int t13), .val (.int t14), .val (.int t15), .val (.int t16), .val (.ref b1), .val (.int (0 : Int32))] [(.ref b1), (.int t10), (.int f9), (.ref b)])) rfl (by rw [hml]; rfl) (argsL := [(.ref b), (.int f9), (.int t10), (.ref b1)]) (rest := []) (lenOf pd_0 rfl) rfl (by show 2 * 0 + _ ≤ _; exact Nat.le_of_eq rfl) (hb hby at_333) (fun _ _ => ⟨rfl, e6, (by decide : 2 + 0 ≤ _), (by decide : 10 + 0 ≤ _)⟩)
            dsimp only [Pt.U, Pt.locs, Pt.cells, Pt.slots] at X14 l14 y14 z14 st14 hQ14
            subst l14 y14 z14
            obtain ⟨rfl, N14q, eh14⟩ := hQ14
            have N14 := Fr.app N6 N14q
            refine own_via st14 ?_
            show own_Rch p.tables e below (T14.setTop (mkF m 336 #[.val (.long q1), .second, .val (.long q3), .second, .val (.int p4), .val (.int p5), .val (.int p6), .val (.int p7), .val (.ref b), .val (.int f9), .val (.int t10), .val (.int (5 : Int32)), .val (.int t12), .val (.int t13), .val (.int t14), .val (.int t15), .val (.int t16), .val (.ref b1), .val (.int (0 : Int32))] [(.int (own_n4_5 l_ [t12, t13, t14, t15, t16] f9 t10))])) _
            refine own_via (fun t k => XS.iload X14.here hx rfl (hb hby at_336) rfl k) ?_
            show own_Rch p.tables e below (T14.setTop (mkF m 338 #[.val (.long q1), .second, .val (.long q3), .second, .val (.int p4), .val (.int p5), .val (.int p6), .val (.int p7), .val (.ref b), .val (.int f9), .val (.int t10), .val (.int (5 : Int32)), .val (.int t12), .val (.int t13), .val (.int t14), .val (.int t15), .val (.int t16), .val (.ref b1), .val (.int (0 : Int32))] [(.int (0 : Int32)), (.int (own_n4_5 l_ [t12, t13, t14, t15, t16] f9 t10))])) _
            have a0_ : own_at [t12, t13, t14, t15, t16] (0 : Int32) = t12 := rfl
            have a1_ : own_at [t12, t13, t14, t15, t16] (1 : Int32) = t13 := rfl
            have a2_ : own_at [t12, t13, t14, t15, t16] (2 : Int32) = t14 := rfl
            have a3_ : own_at [t12, t13, t14, t15, t16] (3 : Int32) = t15 := rfl
            have a4_ : own_at [t12, t13, t14, t15, t16] (4 : Int32) = t16 := rfl
            have hq : (own_n4_5 l_ [t12, t13, t14, t15, t16] f9 t10) = (0 : Int32) := by simp only [own_n4_5, Int32.add_zero, a0_, a1_, a2_, a3_, a4_, if_pos c227, if_pos c243, if_pos c261, if_pos c279, if_neg c297]
            refine own_via (fun t k => XS.icmpNo X14.here hx rfl (hb hby at_338) rfl (teq hq).2 k) ?_
            show own_Rch p.tables e below (T14.setTop (mkF m 341 #[.val (.long q1), .second, .val (.long q3), .second, .val (.int p4), .val (.int p5), .val (.int p6), .val (.int p7), .val (.ref b), .val (.int f9), .val (.int t10), .val (.int (5 : Int32)), .val (.int t12), .val (.int t13), .val (.int t14), .val (.int t15), .val (.int t16), .val (.ref b1), .val (.int (0 : Int32))] [])) _
            refine own_via (fun t k => XS.iconst X14.here hx rfl (hb hby at_341) k) ?_
            show own_Rch p.tables e below (T14.setTop (mkF m 342 #[.val (.long q1), .second, .val (.long q3), .second, .val (.int p4), .val (.int p5), .val (.int p6), .val (.int p7), .val (.ref b), .val (.int f9), .val (.int t10), .val (.int (5 : Int32)), .val (.int t12), .val (.int t13), .val (.int t14), .val (.int t15), .val (.int t16), .val (.ref b1), .val (.int (0 : Int32))] [(.int (1 : Int32))])) _
            refine own_via (fun t k => XS.goto X14.here hx rfl (pc0 := 342) (pc' := 346) rfl (hb hby at_342) (by decide) (by decide) k) ?_
            show own_Rch p.tables e below (T14.setTop (mkF m 346 #[.val (.long q1), .second, .val (.long q3), .second, .val (.int p4), .val (.int p5), .val (.int p6), .val (.int p7), .val (.ref b), .val (.int f9), .val (.int t10), .val (.int (5 : Int32)), .val (.int t12), .val (.int t13), .val (.int t14), .val (.int t15), .val (.int t16), .val (.ref b1), .val (.int (0 : Int32))] [(.int (1 : Int32))])) _
            exact own_fin X14 hx (t := .boolean) (i := .ireturn) hret hlk rfl (Or.inl ⟨rfl, by simp, _, rfl⟩) (hb hby at_346) (by decide) (by decide) ⟨rfl, N14⟩
        · refine own_via (fun t k => XS.icmpYes X6.here hx rfl (pc0 := 279) (pc' := 322) rfl (hb hby at_279) rfl (feq c279).2 (by decide) (by decide) k) ?_
          show own_Rch p.tables e below (T6.setTop (mkF m 322 #[.val (.long q1), .second, .val (.long q3), .second, .val (.int p4), .val (.int p5), .val (.int p6), .val (.int p7), .val (.ref b), .val (.int f9), .val (.int t10), .val (.int (5 : Int32)), .val (.int t12), .val (.int t13), .val (.int t14), .val (.int t15), .val (.int t16), .val (.ref b1), .unset] [])) _
          refine own_via (fun t k => XS.iconst X6.here hx rfl (hb hby at_322) k) ?_
          show own_Rch p.tables e below (T6.setTop (mkF m 323 #[.val (.long q1), .second, .val (.long q3), .second, .val (.int p4), .val (.int p5), .val (.int p6), .val (.int p7), .val (.ref b), .val (.int f9), .val (.int t10), .val (.int (5 : Int32)), .val (.int t12), .val (.int t13), .val (.int t14), .val (.int t15), .val (.int t16), .val (.ref b1), .unset] [(.int (0 : Int32))])) _
          refine own_via (fun t k => XS.istore X6.here hx rfl (hb hby at_323) rfl (l' := #[.val (.long q1), .second, .val (.long q3), .second, .val (.int p4), .val (.int p5), .val (.int p6), .val (.int p7), .val (.ref b), .val (.int f9), .val (.int t10), .val (.int (5 : Int32)), .val (.int t12), .val (.int t13), .val (.int t14), .val (.int t15), .val (.int t16), .val (.ref b1), .val (.int (0 : Int32))]) rfl k) ?_
          show own_Rch p.tables e below (T6.setTop (mkF m 325 #[.val (.long q1), .second, .val (.long q3), .second, .val (.int p4), .val (.int p5), .val (.int p6), .val (.int p7), .val (.ref b), .val (.int f9), .val (.int t10), .val (.int (5 : Int32)), .val (.int t12), .val (.int t13), .val (.int t14), .val (.int t15), .val (.int t16), .val (.ref b1), .val (.int (0 : Int32))] [])) _
          refine own_via (fun t k => XS.aload X6.here hx rfl (hb hby at_325) rfl rfl k) ?_
          show own_Rch p.tables e below (T6.setTop (mkF m 327 #[.val (.long q1), .second, .val (.long q3), .second, .val (.int p4), .val (.int p5), .val (.int p6), .val (.int p7), .val (.ref b), .val (.int f9), .val (.int t10), .val (.int (5 : Int32)), .val (.int t12), .val (.int t13), .val (.int t14), .val (.int t15), .val (.int t16), .val (.ref b1), .val (.int (0 : Int32))] [(.ref b)])) _
          refine own_via (fun t k => XS.iload X6.here hx rfl (hb hby at_327) rfl k) ?_
          show own_Rch p.tables e below (T6.setTop (mkF m 329 #[.val (.long q1), .second, .val (.long q3), .second, .val (.int p4), .val (.int p5), .val (.int p6), .val (.int p7), .val (.ref b), .val (.int f9), .val (.int t10), .val (.int (5 : Int32)), .val (.int t12), .val (.int t13), .val (.int t14), .val (.int t15), .val (.int t16), .val (.ref b1), .val (.int (0 : Int32))] [(.int f9), (.ref b)])) _
          refine own_via (fun t k => XS.iload X6.here hx rfl (hb hby at_329) rfl k) ?_
          show own_Rch p.tables e below (T6.setTop (mkF m 331 #[.val (.long q1), .second, .val (.long q3), .second, .val (.int p4), .val (.int p5), .val (.int p6), .val (.int p7), .val (.ref b), .val (.int f9), .val (.int t10), .val (.int (5 : Int32)), .val (.int t12), .val (.int t13), .val (.int t14), .val (.int t15), .val (.int t16), .val (.ref b1), .val (.int (0 : Int32))] [(.int t10), (.int f9), (.ref b)])) _
          refine own_via (fun t k => XS.aload X6.here hx rfl (hb hby at_331) rfl rfl k) ?_
          show own_Rch p.tables e below (T6.setTop (mkF m 333 #[.val (.long q1), .second, .val (.long q3), .second, .val (.int p4), .val (.int p5), .val (.int p6), .val (.int p7), .val (.ref b), .val (.int f9), .val (.int t10), .val (.int (5 : Int32)), .val (.int t12), .val (.int t13), .val (.int t14), .val (.int t15), .val (.int t16), .val (.ref b1), .val (.int (0 : Int32))] [(.ref b1), (.int t10), (.int f9), (.ref b)])) _
          have Vt15 := V6'
          rw [hbt12, hbt13, hbt14, hbt15, hbt16] at Vt15
          obtain ⟨_, _, ⟨T15, L15, k15, n15⟩, -, X15, ⟨Lc15, hQ15, l15, y15, z15⟩, st15⟩ := Jvm.LawKit.callS X6 hx (y := (⟨"com/example/lastkey/lastkey/exec/TextFormat", "isNull", "([BII[B)Z"⟩ : MethodName)) hown (mvT hZ (hw _ (List.mem_of_getElem? (i := 6) rfl))) (mvT hZ (hw _ (List.mem_of_getElem? (i := 7) rfl))) (mvT hZ (hw _ (List.mem_of_getElem? (i := 8) rfl))) (mvT hZ (hw _ (List.mem_of_getElem? (i := 9) rfl))) (by decide) (backOf (W := 0) (rm2_5 l Z a0 hw [] b f9 t10 b1 l_ [t12, t13, t14, t15, t16] kb k1 h6 n0 ((((((V.ext E1).other W2 (Nat.ne_of_lt (Nat.lt_of_lt_of_le V.lt (Nat.le_of_eq g1.symm)))).other W3 (Nat.ne_of_lt (Nat.lt_of_lt_of_le V.lt (Nat.le_of_eq g1.symm)))).other W4 (Nat.ne_of_lt (Nat.lt_of_lt_of_le V.lt (Nat.le_of_eq g1.symm)))).other W5 (Nat.ne_of_lt (Nat.lt_of_lt_of_le V.lt (Nat.le_of_eq g1.symm)))).other W6 (Nat.ne_of_lt (Nat.lt_of_lt_of_le V.lt (Nat.le_of_eq g1.symm)))) Vt15 i0 i1 i2) hZ (hw _ (List.mem_of_getElem? (i := 9) rfl)) (hw _ (List.mem_of_getElem? (i := 8) rfl)) (by decide) (by decide)) (g := (mkF m 333 #[.val (.long q1), .second, .val (.long q3), .second, .val (.int p4), .val (.int p5), .val (.int p6), .val (.int p7), .val (.ref b), .val (.int f9), .val (.int t10), .val (.int (5 : Int32)), .val (.int t12), .val (.int t13), .val (.int t14), .val (.int t15), .val (.int t16), .val (.ref b1), .val (.int (0 : Int32))] [(.ref b1), (.int t10), (.int f9), (.ref b)])) rfl (by rw [hml]; rfl) (argsL := [(.ref b), (.int f9), (.int t10), (.ref b1)]) (rest := []) (lenOf pd_0 rfl) rfl (by show 2 * 0 + _ ≤ _; exact Nat.le_of_eq rfl) (hb hby at_333) (fun _ _ => ⟨rfl, e6, (by decide : 2 + 0 ≤ _), (by decide : 10 + 0 ≤ _)⟩)
          dsimp only [Pt.U, Pt.locs, Pt.cells, Pt.slots] at X15 l15 y15 z15 st15 hQ15
          subst l15 y15 z15
          obtain ⟨rfl, N15q, eh15⟩ := hQ15
          have N15 := Fr.app N6 N15q
          refine own_via st15 ?_
          show own_Rch p.tables e below (T15.setTop (mkF m 336 #[.val (.long q1), .second, .val (.long q3), .second, .val (.int p4), .val (.int p5), .val (.int p6), .val (.int p7), .val (.ref b), .val (.int f9), .val (.int t10), .val (.int (5 : Int32)), .val (.int t12), .val (.int t13), .val (.int t14), .val (.int t15), .val (.int t16), .val (.ref b1), .val (.int (0 : Int32))] [(.int (own_n4_5 l_ [t12, t13, t14, t15, t16] f9 t10))])) _
          refine own_via (fun t k => XS.iload X15.here hx rfl (hb hby at_336) rfl k) ?_
          show own_Rch p.tables e below (T15.setTop (mkF m 338 #[.val (.long q1), .second, .val (.long q3), .second, .val (.int p4), .val (.int p5), .val (.int p6), .val (.int p7), .val (.ref b), .val (.int f9), .val (.int t10), .val (.int (5 : Int32)), .val (.int t12), .val (.int t13), .val (.int t14), .val (.int t15), .val (.int t16), .val (.ref b1), .val (.int (0 : Int32))] [(.int (0 : Int32)), (.int (own_n4_5 l_ [t12, t13, t14, t15, t16] f9 t10))])) _
          have a0_ : own_at [t12, t13, t14, t15, t16] (0 : Int32) = t12 := rfl
          have a1_ : own_at [t12, t13, t14, t15, t16] (1 : Int32) = t13 := rfl
          have a2_ : own_at [t12, t13, t14, t15, t16] (2 : Int32) = t14 := rfl
          have a3_ : own_at [t12, t13, t14, t15, t16] (3 : Int32) = t15 := rfl
          have a4_ : own_at [t12, t13, t14, t15, t16] (4 : Int32) = t16 := rfl
          have hq : (own_n4_5 l_ [t12, t13, t14, t15, t16] f9 t10) = (0 : Int32) := by simp only [own_n4_5, Int32.add_zero, a0_, a1_, a2_, a3_, a4_, if_pos c227, if_pos c243, if_pos c261, if_neg c279]
          refine own_via (fun t k => XS.icmpNo X15.here hx rfl (hb hby at_338) rfl (teq hq).2 k) ?_
          show own_Rch p.tables e below (T15.setTop (mkF m 341 #[.val (.long q1), .second, .val (.long q3), .second, .val (.int p4), .val (.int p5), .val (.int p6), .val (.int p7), .val (.ref b), .val (.int f9), .val (.int t10), .val (.int (5 : Int32)), .val (.int t12), .val (.int t13), .val (.int t14), .val (.int t15), .val (.int t16), .val (.ref b1), .val (.int (0 : Int32))] [])) _
          refine own_via (fun t k => XS.iconst X15.here hx rfl (hb hby at_341) k) ?_
          show own_Rch p.tables e below (T15.setTop (mkF m 342 #[.val (.long q1), .second, .val (.long q3), .second, .val (.int p4), .val (.int p5), .val (.int p6), .val (.int p7), .val (.ref b), .val (.int f9), .val (.int t10), .val (.int (5 : Int32)), .val (.int t12), .val (.int t13), .val (.int t14), .val (.int t15), .val (.int t16), .val (.ref b1), .val (.int (0 : Int32))] [(.int (1 : Int32))])) _
          refine own_via (fun t k => XS.goto X15.here hx rfl (pc0 := 342) (pc' := 346) rfl (hb hby at_342) (by decide) (by decide) k) ?_
          show own_Rch p.tables e below (T15.setTop (mkF m 346 #[.val (.long q1), .second, .val (.long q3), .second, .val (.int p4), .val (.int p5), .val (.int p6), .val (.int p7), .val (.ref b), .val (.int f9), .val (.int t10), .val (.int (5 : Int32)), .val (.int t12), .val (.int t13), .val (.int t14), .val (.int t15), .val (.int t16), .val (.ref b1), .val (.int (0 : Int32))] [(.int (1 : Int32))])) _
          exact own_fin X15 hx (t := .boolean) (i := .ireturn) hret hlk rfl (Or.inl ⟨rfl, by simp, _, rfl⟩) (hb hby at_346) (by decide) (by decide) ⟨rfl, N15⟩
      · refine own_via (fun t k => XS.icmpYes X6.here hx rfl (pc0 := 261) (pc' := 322) rfl (hb hby at_261) rfl (feq c261).2 (by decide) (by decide) k) ?_
        show own_Rch p.tables e below (T6.setTop (mkF m 322 #[.val (.long q1), .second, .val (.long q3), .second, .val (.int p4), .val (.int p5), .val (.int p6), .val (.int p7), .val (.ref b), .val (.int f9), .val (.int t10), .val (.int (5 : Int32)), .val (.int t12), .val (.int t13), .val (.int t14), .val (.int t15), .val (.int t16), .val (.ref b1), .unset] [])) _
        refine own_via (fun t k => XS.iconst X6.here hx rfl (hb hby at_322) k) ?_
        show own_Rch p.tables e below (T6.setTop (mkF m 323 #[.val (.long q1), .second, .val (.long q3), .second, .val (.int p4), .val (.int p5), .val (.int p6), .val (.int p7), .val (.ref b), .val (.int f9), .val (.int t10), .val (.int (5 : Int32)), .val (.int t12), .val (.int t13), .val (.int t14), .val (.int t15), .val (.int t16), .val (.ref b1), .unset] [(.int (0 : Int32))])) _
        refine own_via (fun t k => XS.istore X6.here hx rfl (hb hby at_323) rfl (l' := #[.val (.long q1), .second, .val (.long q3), .second, .val (.int p4), .val (.int p5), .val (.int p6), .val (.int p7), .val (.ref b), .val (.int f9), .val (.int t10), .val (.int (5 : Int32)), .val (.int t12), .val (.int t13), .val (.int t14), .val (.int t15), .val (.int t16), .val (.ref b1), .val (.int (0 : Int32))]) rfl k) ?_
        show own_Rch p.tables e below (T6.setTop (mkF m 325 #[.val (.long q1), .second, .val (.long q3), .second, .val (.int p4), .val (.int p5), .val (.int p6), .val (.int p7), .val (.ref b), .val (.int f9), .val (.int t10), .val (.int (5 : Int32)), .val (.int t12), .val (.int t13), .val (.int t14), .val (.int t15), .val (.int t16), .val (.ref b1), .val (.int (0 : Int32))] [])) _
        refine own_via (fun t k => XS.aload X6.here hx rfl (hb hby at_325) rfl rfl k) ?_
        show own_Rch p.tables e below (T6.setTop (mkF m 327 #[.val (.long q1), .second, .val (.long q3), .second, .val (.int p4), .val (.int p5), .val (.int p6), .val (.int p7), .val (.ref b), .val (.int f9), .val (.int t10), .val (.int (5 : Int32)), .val (.int t12), .val (.int t13), .val (.int t14), .val (.int t15), .val (.int t16), .val (.ref b1), .val (.int (0 : Int32))] [(.ref b)])) _
        refine own_via (fun t k => XS.iload X6.here hx rfl (hb hby at_327) rfl k) ?_
        show own_Rch p.tables e below (T6.setTop (mkF m 329 #[.val (.long q1), .second, .val (.long q3), .second, .val (.int p4), .val (.int p5), .val (.int p6), .val (.int p7), .val (.ref b), .val (.int f9), .val (.int t10), .val (.int (5 : Int32)), .val (.int t12), .val (.int t13), .val (.int t14), .val (.int t15), .val (.int t16), .val (.ref b1), .val (.int (0 : Int32))] [(.int f9), (.ref b)])) _
        refine own_via (fun t k => XS.iload X6.here hx rfl (hb hby at_329) rfl k) ?_
        show own_Rch p.tables e below (T6.setTop (mkF m 331 #[.val (.long q1), .second, .val (.long q3), .second, .val (.int p4), .val (.int p5), .val (.int p6), .val (.int p7), .val (.ref b), .val (.int f9), .val (.int t10), .val (.int (5 : Int32)), .val (.int t12), .val (.int t13), .val (.int t14), .val (.int t15), .val (.int t16), .val (.ref b1), .val (.int (0 : Int32))] [(.int t10), (.int f9), (.ref b)])) _
        refine own_via (fun t k => XS.aload X6.here hx rfl (hb hby at_331) rfl rfl k) ?_
        show own_Rch p.tables e below (T6.setTop (mkF m 333 #[.val (.long q1), .second, .val (.long q3), .second, .val (.int p4), .val (.int p5), .val (.int p6), .val (.int p7), .val (.ref b), .val (.int f9), .val (.int t10), .val (.int (5 : Int32)), .val (.int t12), .val (.int t13), .val (.int t14), .val (.int t15), .val (.int t16), .val (.ref b1), .val (.int (0 : Int32))] [(.ref b1), (.int t10), (.int f9), (.ref b)])) _
        have Vt16 := V6'
        rw [hbt12, hbt13, hbt14, hbt15, hbt16] at Vt16
        obtain ⟨_, _, ⟨T16, L16, k16, n16⟩, -, X16, ⟨Lc16, hQ16, l16, y16, z16⟩, st16⟩ := Jvm.LawKit.callS X6 hx (y := (⟨"com/example/lastkey/lastkey/exec/TextFormat", "isNull", "([BII[B)Z"⟩ : MethodName)) hown (mvT hZ (hw _ (List.mem_of_getElem? (i := 6) rfl))) (mvT hZ (hw _ (List.mem_of_getElem? (i := 7) rfl))) (mvT hZ (hw _ (List.mem_of_getElem? (i := 8) rfl))) (mvT hZ (hw _ (List.mem_of_getElem? (i := 9) rfl))) (by decide) (backOf (W := 0) (rm2_5 l Z a0 hw [] b f9 t10 b1 l_ [t12, t13, t14, t15, t16] kb k1 h6 n0 ((((((V.ext E1).other W2 (Nat.ne_of_lt (Nat.lt_of_lt_of_le V.lt (Nat.le_of_eq g1.symm)))).other W3 (Nat.ne_of_lt (Nat.lt_of_lt_of_le V.lt (Nat.le_of_eq g1.symm)))).other W4 (Nat.ne_of_lt (Nat.lt_of_lt_of_le V.lt (Nat.le_of_eq g1.symm)))).other W5 (Nat.ne_of_lt (Nat.lt_of_lt_of_le V.lt (Nat.le_of_eq g1.symm)))).other W6 (Nat.ne_of_lt (Nat.lt_of_lt_of_le V.lt (Nat.le_of_eq g1.symm)))) Vt16 i0 i1 i2) hZ (hw _ (List.mem_of_getElem? (i := 9) rfl)) (hw _ (List.mem_of_getElem? (i := 8) rfl)) (by decide) (by decide)) (g := (mkF m 333 #[.val (.long q1), .second, .val (.long q3), .second, .val (.int p4), .val (.int p5), .val (.int p6), .val (.int p7), .val (.ref b), .val (.int f9), .val (.int t10), .val (.int (5 : Int32)), .val (.int t12), .val (.int t13), .val (.int t14), .val (.int t15), .val (.int t16), .val (.ref b1), .val (.int (0 : Int32))] [(.ref b1), (.int t10), (.int f9), (.ref b)])) rfl (by rw [hml]; rfl) (argsL := [(.ref b), (.int f9), (.int t10), (.ref b1)]) (rest := []) (lenOf pd_0 rfl) rfl (by show 2 * 0 + _ ≤ _; exact Nat.le_of_eq rfl) (hb hby at_333) (fun _ _ => ⟨rfl, e6, (by decide : 2 + 0 ≤ _), (by decide : 10 + 0 ≤ _)⟩)
        dsimp only [Pt.U, Pt.locs, Pt.cells, Pt.slots] at X16 l16 y16 z16 st16 hQ16
        subst l16 y16 z16
        obtain ⟨rfl, N16q, eh16⟩ := hQ16
        have N16 := Fr.app N6 N16q
        refine own_via st16 ?_
        show own_Rch p.tables e below (T16.setTop (mkF m 336 #[.val (.long q1), .second, .val (.long q3), .second, .val (.int p4), .val (.int p5), .val (.int p6), .val (.int p7), .val (.ref b), .val (.int f9), .val (.int t10), .val (.int (5 : Int32)), .val (.int t12), .val (.int t13), .val (.int t14), .val (.int t15), .val (.int t16), .val (.ref b1), .val (.int (0 : Int32))] [(.int (own_n4_5 l_ [t12, t13, t14, t15, t16] f9 t10))])) _
        refine own_via (fun t k => XS.iload X16.here hx rfl (hb hby at_336) rfl k) ?_
        show own_Rch p.tables e below (T16.setTop (mkF m 338 #[.val (.long q1), .second, .val (.long q3), .second, .val (.int p4), .val (.int p5), .val (.int p6), .val (.int p7), .val (.ref b), .val (.int f9), .val (.int t10), .val (.int (5 : Int32)), .val (.int t12), .val (.int t13), .val (.int t14), .val (.int t15), .val (.int t16), .val (.ref b1), .val (.int (0 : Int32))] [(.int (0 : Int32)), (.int (own_n4_5 l_ [t12, t13, t14, t15, t16] f9 t10))])) _
        have a0_ : own_at [t12, t13, t14, t15, t16] (0 : Int32) = t12 := rfl
        have a1_ : own_at [t12, t13, t14, t15, t16] (1 : Int32) = t13 := rfl
        have a2_ : own_at [t12, t13, t14, t15, t16] (2 : Int32) = t14 := rfl
        have a3_ : own_at [t12, t13, t14, t15, t16] (3 : Int32) = t15 := rfl
        have a4_ : own_at [t12, t13, t14, t15, t16] (4 : Int32) = t16 := rfl
        have hq : (own_n4_5 l_ [t12, t13, t14, t15, t16] f9 t10) = (0 : Int32) := by simp only [own_n4_5, Int32.add_zero, a0_, a1_, a2_, a3_, a4_, if_pos c227, if_pos c243, if_neg c261]
        refine own_via (fun t k => XS.icmpNo X16.here hx rfl (hb hby at_338) rfl (teq hq).2 k) ?_
        show own_Rch p.tables e below (T16.setTop (mkF m 341 #[.val (.long q1), .second, .val (.long q3), .second, .val (.int p4), .val (.int p5), .val (.int p6), .val (.int p7), .val (.ref b), .val (.int f9), .val (.int t10), .val (.int (5 : Int32)), .val (.int t12), .val (.int t13), .val (.int t14), .val (.int t15), .val (.int t16), .val (.ref b1), .val (.int (0 : Int32))] [])) _
        refine own_via (fun t k => XS.iconst X16.here hx rfl (hb hby at_341) k) ?_
        show own_Rch p.tables e below (T16.setTop (mkF m 342 #[.val (.long q1), .second, .val (.long q3), .second, .val (.int p4), .val (.int p5), .val (.int p6), .val (.int p7), .val (.ref b), .val (.int f9), .val (.int t10), .val (.int (5 : Int32)), .val (.int t12), .val (.int t13), .val (.int t14), .val (.int t15), .val (.int t16), .val (.ref b1), .val (.int (0 : Int32))] [(.int (1 : Int32))])) _
        refine own_via (fun t k => XS.goto X16.here hx rfl (pc0 := 342) (pc' := 346) rfl (hb hby at_342) (by decide) (by decide) k) ?_
        show own_Rch p.tables e below (T16.setTop (mkF m 346 #[.val (.long q1), .second, .val (.long q3), .second, .val (.int p4), .val (.int p5), .val (.int p6), .val (.int p7), .val (.ref b), .val (.int f9), .val (.int t10), .val (.int (5 : Int32)), .val (.int t12), .val (.int t13), .val (.int t14), .val (.int t15), .val (.int t16), .val (.ref b1), .val (.int (0 : Int32))] [(.int (1 : Int32))])) _
        exact own_fin X16 hx (t := .boolean) (i := .ireturn) hret hlk rfl (Or.inl ⟨rfl, by simp, _, rfl⟩) (hb hby at_346) (by decide) (by decide) ⟨rfl, N16⟩
    · refine own_via (fun t k => XS.icmpYes X6.here hx rfl (pc0 := 243) (pc' := 322) rfl (hb hby at_243) rfl (feq c243).2 (by decide) (by decide) k) ?_
      show own_Rch p.tables e below (T6.setTop (mkF m 322 #[.val (.long q1), .second, .val (.long q3), .second, .val (.int p4), .val (.int p5), .val (.int p6), .val (.int p7), .val (.ref b), .val (.int f9), .val (.int t10), .val (.int (5 : Int32)), .val (.int t12), .val (.int t13), .val (.int t14), .val (.int t15), .val (.int t16), .val (.ref b1), .unset] [])) _
      refine own_via (fun t k => XS.iconst X6.here hx rfl (hb hby at_322) k) ?_
      show own_Rch p.tables e below (T6.setTop (mkF m 323 #[.val (.long q1), .second, .val (.long q3), .second, .val (.int p4), .val (.int p5), .val (.int p6), .val (.int p7), .val (.ref b), .val (.int f9), .val (.int t10), .val (.int (5 : Int32)), .val (.int t12), .val (.int t13), .val (.int t14), .val (.int t15), .val (.int t16), .val (.ref b1), .unset] [(.int (0 : Int32))])) _
      refine own_via (fun t k => XS.istore X6.here hx rfl (hb hby at_323) rfl (l' := #[.val (.long q1), .second, .val (.long q3), .second, .val (.int p4), .val (.int p5), .val (.int p6), .val (.int p7), .val (.ref b), .val (.int f9), .val (.int t10), .val (.int (5 : Int32)), .val (.int t12), .val (.int t13), .val (.int t14), .val (.int t15), .val (.int t16), .val (.ref b1), .val (.int (0 : Int32))]) rfl k) ?_
      show own_Rch p.tables e below (T6.setTop (mkF m 325 #[.val (.long q1), .second, .val (.long q3), .second, .val (.int p4), .val (.int p5), .val (.int p6), .val (.int p7), .val (.ref b), .val (.int f9), .val (.int t10), .val (.int (5 : Int32)), .val (.int t12), .val (.int t13), .val (.int t14), .val (.int t15), .val (.int t16), .val (.ref b1), .val (.int (0 : Int32))] [])) _
      refine own_via (fun t k => XS.aload X6.here hx rfl (hb hby at_325) rfl rfl k) ?_
      show own_Rch p.tables e below (T6.setTop (mkF m 327 #[.val (.long q1), .second, .val (.long q3), .second, .val (.int p4), .val (.int p5), .val (.int p6), .val (.int p7), .val (.ref b), .val (.int f9), .val (.int t10), .val (.int (5 : Int32)), .val (.int t12), .val (.int t13), .val (.int t14), .val (.int t15), .val (.int t16), .val (.ref b1), .val (.int (0 : Int32))] [(.ref b)])) _
      refine own_via (fun t k => XS.iload X6.here hx rfl (hb hby at_327) rfl k) ?_
      show own_Rch p.tables e below (T6.setTop (mkF m 329 #[.val (.long q1), .second, .val (.long q3), .second, .val (.int p4), .val (.int p5), .val (.int p6), .val (.int p7), .val (.ref b), .val (.int f9), .val (.int t10), .val (.int (5 : Int32)), .val (.int t12), .val (.int t13), .val (.int t14), .val (.int t15), .val (.int t16), .val (.ref b1), .val (.int (0 : Int32))] [(.int f9), (.ref b)])) _
      refine own_via (fun t k => XS.iload X6.here hx rfl (hb hby at_329) rfl k) ?_
      show own_Rch p.tables e below (T6.setTop (mkF m 331 #[.val (.long q1), .second, .val (.long q3), .second, .val (.int p4), .val (.int p5), .val (.int p6), .val (.int p7), .val (.ref b), .val (.int f9), .val (.int t10), .val (.int (5 : Int32)), .val (.int t12), .val (.int t13), .val (.int t14), .val (.int t15), .val (.int t16), .val (.ref b1), .val (.int (0 : Int32))] [(.int t10), (.int f9), (.ref b)])) _
      refine own_via (fun t k => XS.aload X6.here hx rfl (hb hby at_331) rfl rfl k) ?_
      show own_Rch p.tables e below (T6.setTop (mkF m 333 #[.val (.long q1), .second, .val (.long q3), .second, .val (.int p4), .val (.int p5), .val (.int p6), .val (.int p7), .val (.ref b), .val (.int f9), .val (.int t10), .val (.int (5 : Int32)), .val (.int t12), .val (.int t13), .val (.int t14), .val (.int t15), .val (.int t16), .val (.ref b1), .val (.int (0 : Int32))] [(.ref b1), (.int t10), (.int f9), (.ref b)])) _
      have Vt17 := V6'
      rw [hbt12, hbt13, hbt14, hbt15, hbt16] at Vt17
      obtain ⟨_, _, ⟨T17, L17, k17, n17⟩, -, X17, ⟨Lc17, hQ17, l17, y17, z17⟩, st17⟩ := Jvm.LawKit.callS X6 hx (y := (⟨"com/example/lastkey/lastkey/exec/TextFormat", "isNull", "([BII[B)Z"⟩ : MethodName)) hown (mvT hZ (hw _ (List.mem_of_getElem? (i := 6) rfl))) (mvT hZ (hw _ (List.mem_of_getElem? (i := 7) rfl))) (mvT hZ (hw _ (List.mem_of_getElem? (i := 8) rfl))) (mvT hZ (hw _ (List.mem_of_getElem? (i := 9) rfl))) (by decide) (backOf (W := 0) (rm2_5 l Z a0 hw [] b f9 t10 b1 l_ [t12, t13, t14, t15, t16] kb k1 h6 n0 ((((((V.ext E1).other W2 (Nat.ne_of_lt (Nat.lt_of_lt_of_le V.lt (Nat.le_of_eq g1.symm)))).other W3 (Nat.ne_of_lt (Nat.lt_of_lt_of_le V.lt (Nat.le_of_eq g1.symm)))).other W4 (Nat.ne_of_lt (Nat.lt_of_lt_of_le V.lt (Nat.le_of_eq g1.symm)))).other W5 (Nat.ne_of_lt (Nat.lt_of_lt_of_le V.lt (Nat.le_of_eq g1.symm)))).other W6 (Nat.ne_of_lt (Nat.lt_of_lt_of_le V.lt (Nat.le_of_eq g1.symm)))) Vt17 i0 i1 i2) hZ (hw _ (List.mem_of_getElem? (i := 9) rfl)) (hw _ (List.mem_of_getElem? (i := 8) rfl)) (by decide) (by decide)) (g := (mkF m 333 #[.val (.long q1), .second, .val (.long q3), .second, .val (.int p4), .val (.int p5), .val (.int p6), .val (.int p7), .val (.ref b), .val (.int f9), .val (.int t10), .val (.int (5 : Int32)), .val (.int t12), .val (.int t13), .val (.int t14), .val (.int t15), .val (.int t16), .val (.ref b1), .val (.int (0 : Int32))] [(.ref b1), (.int t10), (.int f9), (.ref b)])) rfl (by rw [hml]; rfl) (argsL := [(.ref b), (.int f9), (.int t10), (.ref b1)]) (rest := []) (lenOf pd_0 rfl) rfl (by show 2 * 0 + _ ≤ _; exact Nat.le_of_eq rfl) (hb hby at_333) (fun _ _ => ⟨rfl, e6, (by decide : 2 + 0 ≤ _), (by decide : 10 + 0 ≤ _)⟩)
      dsimp only [Pt.U, Pt.locs, Pt.cells, Pt.slots] at X17 l17 y17 z17 st17 hQ17
      subst l17 y17 z17
      obtain ⟨rfl, N17q, eh17⟩ := hQ17
      have N17 := Fr.app N6 N17q
      refine own_via st17 ?_
      show own_Rch p.tables e below (T17.setTop (mkF m 336 #[.val (.long q1), .second, .val (.long q3), .second, .val (.int p4), .val (.int p5), .val (.int p6), .val (.int p7), .val (.ref b), .val (.int f9), .val (.int t10), .val (.int (5 : Int32)), .val (.int t12), .val (.int t13), .val (.int t14), .val (.int t15), .val (.int t16), .val (.ref b1), .val (.int (0 : Int32))] [(.int (own_n4_5 l_ [t12, t13, t14, t15, t16] f9 t10))])) _
      refine own_via (fun t k => XS.iload X17.here hx rfl (hb hby at_336) rfl k) ?_
      show own_Rch p.tables e below (T17.setTop (mkF m 338 #[.val (.long q1), .second, .val (.long q3), .second, .val (.int p4), .val (.int p5), .val (.int p6), .val (.int p7), .val (.ref b), .val (.int f9), .val (.int t10), .val (.int (5 : Int32)), .val (.int t12), .val (.int t13), .val (.int t14), .val (.int t15), .val (.int t16), .val (.ref b1), .val (.int (0 : Int32))] [(.int (0 : Int32)), (.int (own_n4_5 l_ [t12, t13, t14, t15, t16] f9 t10))])) _
      have a0_ : own_at [t12, t13, t14, t15, t16] (0 : Int32) = t12 := rfl
      have a1_ : own_at [t12, t13, t14, t15, t16] (1 : Int32) = t13 := rfl
      have a2_ : own_at [t12, t13, t14, t15, t16] (2 : Int32) = t14 := rfl
      have a3_ : own_at [t12, t13, t14, t15, t16] (3 : Int32) = t15 := rfl
      have a4_ : own_at [t12, t13, t14, t15, t16] (4 : Int32) = t16 := rfl
      have hq : (own_n4_5 l_ [t12, t13, t14, t15, t16] f9 t10) = (0 : Int32) := by simp only [own_n4_5, Int32.add_zero, a0_, a1_, a2_, a3_, a4_, if_pos c227, if_neg c243]
      refine own_via (fun t k => XS.icmpNo X17.here hx rfl (hb hby at_338) rfl (teq hq).2 k) ?_
      show own_Rch p.tables e below (T17.setTop (mkF m 341 #[.val (.long q1), .second, .val (.long q3), .second, .val (.int p4), .val (.int p5), .val (.int p6), .val (.int p7), .val (.ref b), .val (.int f9), .val (.int t10), .val (.int (5 : Int32)), .val (.int t12), .val (.int t13), .val (.int t14), .val (.int t15), .val (.int t16), .val (.ref b1), .val (.int (0 : Int32))] [])) _
      refine own_via (fun t k => XS.iconst X17.here hx rfl (hb hby at_341) k) ?_
      show own_Rch p.tables e below (T17.setTop (mkF m 342 #[.val (.long q1), .second, .val (.long q3), .second, .val (.int p4), .val (.int p5), .val (.int p6), .val (.int p7), .val (.ref b), .val (.int f9), .val (.int t10), .val (.int (5 : Int32)), .val (.int t12), .val (.int t13), .val (.int t14), .val (.int t15), .val (.int t16), .val (.ref b1), .val (.int (0 : Int32))] [(.int (1 : Int32))])) _
      refine own_via (fun t k => XS.goto X17.here hx rfl (pc0 := 342) (pc' := 346) rfl (hb hby at_342) (by decide) (by decide) k) ?_
      show own_Rch p.tables e below (T17.setTop (mkF m 346 #[.val (.long q1), .second, .val (.long q3), .second, .val (.int p4), .val (.int p5), .val (.int p6), .val (.int p7), .val (.ref b), .val (.int f9), .val (.int t10), .val (.int (5 : Int32)), .val (.int t12), .val (.int t13), .val (.int t14), .val (.int t15), .val (.int t16), .val (.ref b1), .val (.int (0 : Int32))] [(.int (1 : Int32))])) _
      exact own_fin X17 hx (t := .boolean) (i := .ireturn) hret hlk rfl (Or.inl ⟨rfl, by simp, _, rfl⟩) (hb hby at_346) (by decide) (by decide) ⟨rfl, N17⟩
  · refine own_via (fun t k => XS.icmpYes X6.here hx rfl (pc0 := 227) (pc' := 322) rfl (hb hby at_227) rfl (feq c227).2 (by decide) (by decide) k) ?_
    show own_Rch p.tables e below (T6.setTop (mkF m 322 #[.val (.long q1), .second, .val (.long q3), .second, .val (.int p4), .val (.int p5), .val (.int p6), .val (.int p7), .val (.ref b), .val (.int f9), .val (.int t10), .val (.int (5 : Int32)), .val (.int t12), .val (.int t13), .val (.int t14), .val (.int t15), .val (.int t16), .val (.ref b1), .unset] [])) _
    refine own_via (fun t k => XS.iconst X6.here hx rfl (hb hby at_322) k) ?_
    show own_Rch p.tables e below (T6.setTop (mkF m 323 #[.val (.long q1), .second, .val (.long q3), .second, .val (.int p4), .val (.int p5), .val (.int p6), .val (.int p7), .val (.ref b), .val (.int f9), .val (.int t10), .val (.int (5 : Int32)), .val (.int t12), .val (.int t13), .val (.int t14), .val (.int t15), .val (.int t16), .val (.ref b1), .unset] [(.int (0 : Int32))])) _
    refine own_via (fun t k => XS.istore X6.here hx rfl (hb hby at_323) rfl (l' := #[.val (.long q1), .second, .val (.long q3), .second, .val (.int p4), .val (.int p5), .val (.int p6), .val (.int p7), .val (.ref b), .val (.int f9), .val (.int t10), .val (.int (5 : Int32)), .val (.int t12), .val (.int t13), .val (.int t14), .val (.int t15), .val (.int t16), .val (.ref b1), .val (.int (0 : Int32))]) rfl k) ?_
    show own_Rch p.tables e below (T6.setTop (mkF m 325 #[.val (.long q1), .second, .val (.long q3), .second, .val (.int p4), .val (.int p5), .val (.int p6), .val (.int p7), .val (.ref b), .val (.int f9), .val (.int t10), .val (.int (5 : Int32)), .val (.int t12), .val (.int t13), .val (.int t14), .val (.int t15), .val (.int t16), .val (.ref b1), .val (.int (0 : Int32))] [])) _
    refine own_via (fun t k => XS.aload X6.here hx rfl (hb hby at_325) rfl rfl k) ?_
    show own_Rch p.tables e below (T6.setTop (mkF m 327 #[.val (.long q1), .second, .val (.long q3), .second, .val (.int p4), .val (.int p5), .val (.int p6), .val (.int p7), .val (.ref b), .val (.int f9), .val (.int t10), .val (.int (5 : Int32)), .val (.int t12), .val (.int t13), .val (.int t14), .val (.int t15), .val (.int t16), .val (.ref b1), .val (.int (0 : Int32))] [(.ref b)])) _
    refine own_via (fun t k => XS.iload X6.here hx rfl (hb hby at_327) rfl k) ?_
    show own_Rch p.tables e below (T6.setTop (mkF m 329 #[.val (.long q1), .second, .val (.long q3), .second, .val (.int p4), .val (.int p5), .val (.int p6), .val (.int p7), .val (.ref b), .val (.int f9), .val (.int t10), .val (.int (5 : Int32)), .val (.int t12), .val (.int t13), .val (.int t14), .val (.int t15), .val (.int t16), .val (.ref b1), .val (.int (0 : Int32))] [(.int f9), (.ref b)])) _
    refine own_via (fun t k => XS.iload X6.here hx rfl (hb hby at_329) rfl k) ?_
    show own_Rch p.tables e below (T6.setTop (mkF m 331 #[.val (.long q1), .second, .val (.long q3), .second, .val (.int p4), .val (.int p5), .val (.int p6), .val (.int p7), .val (.ref b), .val (.int f9), .val (.int t10), .val (.int (5 : Int32)), .val (.int t12), .val (.int t13), .val (.int t14), .val (.int t15), .val (.int t16), .val (.ref b1), .val (.int (0 : Int32))] [(.int t10), (.int f9), (.ref b)])) _
    refine own_via (fun t k => XS.aload X6.here hx rfl (hb hby at_331) rfl rfl k) ?_
    show own_Rch p.tables e below (T6.setTop (mkF m 333 #[.val (.long q1), .second, .val (.long q3), .second, .val (.int p4), .val (.int p5), .val (.int p6), .val (.int p7), .val (.ref b), .val (.int f9), .val (.int t10), .val (.int (5 : Int32)), .val (.int t12), .val (.int t13), .val (.int t14), .val (.int t15), .val (.int t16), .val (.ref b1), .val (.int (0 : Int32))] [(.ref b1), (.int t10), (.int f9), (.ref b)])) _
    have Vt18 := V6'
    rw [hbt12, hbt13, hbt14, hbt15, hbt16] at Vt18
    obtain ⟨_, _, ⟨T18, L18, k18, n18⟩, -, X18, ⟨Lc18, hQ18, l18, y18, z18⟩, st18⟩ := Jvm.LawKit.callS X6 hx (y := (⟨"com/example/lastkey/lastkey/exec/TextFormat", "isNull", "([BII[B)Z"⟩ : MethodName)) hown (mvT hZ (hw _ (List.mem_of_getElem? (i := 6) rfl))) (mvT hZ (hw _ (List.mem_of_getElem? (i := 7) rfl))) (mvT hZ (hw _ (List.mem_of_getElem? (i := 8) rfl))) (mvT hZ (hw _ (List.mem_of_getElem? (i := 9) rfl))) (by decide) (backOf (W := 0) (rm2_5 l Z a0 hw [] b f9 t10 b1 l_ [t12, t13, t14, t15, t16] kb k1 h6 n0 ((((((V.ext E1).other W2 (Nat.ne_of_lt (Nat.lt_of_lt_of_le V.lt (Nat.le_of_eq g1.symm)))).other W3 (Nat.ne_of_lt (Nat.lt_of_lt_of_le V.lt (Nat.le_of_eq g1.symm)))).other W4 (Nat.ne_of_lt (Nat.lt_of_lt_of_le V.lt (Nat.le_of_eq g1.symm)))).other W5 (Nat.ne_of_lt (Nat.lt_of_lt_of_le V.lt (Nat.le_of_eq g1.symm)))).other W6 (Nat.ne_of_lt (Nat.lt_of_lt_of_le V.lt (Nat.le_of_eq g1.symm)))) Vt18 i0 i1 i2) hZ (hw _ (List.mem_of_getElem? (i := 9) rfl)) (hw _ (List.mem_of_getElem? (i := 8) rfl)) (by decide) (by decide)) (g := (mkF m 333 #[.val (.long q1), .second, .val (.long q3), .second, .val (.int p4), .val (.int p5), .val (.int p6), .val (.int p7), .val (.ref b), .val (.int f9), .val (.int t10), .val (.int (5 : Int32)), .val (.int t12), .val (.int t13), .val (.int t14), .val (.int t15), .val (.int t16), .val (.ref b1), .val (.int (0 : Int32))] [(.ref b1), (.int t10), (.int f9), (.ref b)])) rfl (by rw [hml]; rfl) (argsL := [(.ref b), (.int f9), (.int t10), (.ref b1)]) (rest := []) (lenOf pd_0 rfl) rfl (by show 2 * 0 + _ ≤ _; exact Nat.le_of_eq rfl) (hb hby at_333) (fun _ _ => ⟨rfl, e6, (by decide : 2 + 0 ≤ _), (by decide : 10 + 0 ≤ _)⟩)
    dsimp only [Pt.U, Pt.locs, Pt.cells, Pt.slots] at X18 l18 y18 z18 st18 hQ18
    subst l18 y18 z18
    obtain ⟨rfl, N18q, eh18⟩ := hQ18
    have N18 := Fr.app N6 N18q
    refine own_via st18 ?_
    show own_Rch p.tables e below (T18.setTop (mkF m 336 #[.val (.long q1), .second, .val (.long q3), .second, .val (.int p4), .val (.int p5), .val (.int p6), .val (.int p7), .val (.ref b), .val (.int f9), .val (.int t10), .val (.int (5 : Int32)), .val (.int t12), .val (.int t13), .val (.int t14), .val (.int t15), .val (.int t16), .val (.ref b1), .val (.int (0 : Int32))] [(.int (own_n4_5 l_ [t12, t13, t14, t15, t16] f9 t10))])) _
    refine own_via (fun t k => XS.iload X18.here hx rfl (hb hby at_336) rfl k) ?_
    show own_Rch p.tables e below (T18.setTop (mkF m 338 #[.val (.long q1), .second, .val (.long q3), .second, .val (.int p4), .val (.int p5), .val (.int p6), .val (.int p7), .val (.ref b), .val (.int f9), .val (.int t10), .val (.int (5 : Int32)), .val (.int t12), .val (.int t13), .val (.int t14), .val (.int t15), .val (.int t16), .val (.ref b1), .val (.int (0 : Int32))] [(.int (0 : Int32)), (.int (own_n4_5 l_ [t12, t13, t14, t15, t16] f9 t10))])) _
    have a0_ : own_at [t12, t13, t14, t15, t16] (0 : Int32) = t12 := rfl
    have a1_ : own_at [t12, t13, t14, t15, t16] (1 : Int32) = t13 := rfl
    have a2_ : own_at [t12, t13, t14, t15, t16] (2 : Int32) = t14 := rfl
    have a3_ : own_at [t12, t13, t14, t15, t16] (3 : Int32) = t15 := rfl
    have a4_ : own_at [t12, t13, t14, t15, t16] (4 : Int32) = t16 := rfl
    have hq : (own_n4_5 l_ [t12, t13, t14, t15, t16] f9 t10) = (0 : Int32) := by simp only [own_n4_5, Int32.add_zero, a0_, a1_, a2_, a3_, a4_, if_neg c227]
    refine own_via (fun t k => XS.icmpNo X18.here hx rfl (hb hby at_338) rfl (teq hq).2 k) ?_
    show own_Rch p.tables e below (T18.setTop (mkF m 341 #[.val (.long q1), .second, .val (.long q3), .second, .val (.int p4), .val (.int p5), .val (.int p6), .val (.int p7), .val (.ref b), .val (.int f9), .val (.int t10), .val (.int (5 : Int32)), .val (.int t12), .val (.int t13), .val (.int t14), .val (.int t15), .val (.int t16), .val (.ref b1), .val (.int (0 : Int32))] [])) _
    refine own_via (fun t k => XS.iconst X18.here hx rfl (hb hby at_341) k) ?_
    show own_Rch p.tables e below (T18.setTop (mkF m 342 #[.val (.long q1), .second, .val (.long q3), .second, .val (.int p4), .val (.int p5), .val (.int p6), .val (.int p7), .val (.ref b), .val (.int f9), .val (.int t10), .val (.int (5 : Int32)), .val (.int t12), .val (.int t13), .val (.int t14), .val (.int t15), .val (.int t16), .val (.ref b1), .val (.int (0 : Int32))] [(.int (1 : Int32))])) _
    refine own_via (fun t k => XS.goto X18.here hx rfl (pc0 := 342) (pc' := 346) rfl (hb hby at_342) (by decide) (by decide) k) ?_
    show own_Rch p.tables e below (T18.setTop (mkF m 346 #[.val (.long q1), .second, .val (.long q3), .second, .val (.int p4), .val (.int p5), .val (.int p6), .val (.int p7), .val (.ref b), .val (.int f9), .val (.int t10), .val (.int (5 : Int32)), .val (.int t12), .val (.int t13), .val (.int t14), .val (.int t15), .val (.int t16), .val (.ref b1), .val (.int (0 : Int32))] [(.int (1 : Int32))])) _
    exact own_fin X18 hx (t := .boolean) (i := .ireturn) hret hlk rfl (Or.inl ⟨rfl, by simp, _, rfl⟩) (hb hby at_346) (by decide) (by decide) ⟨rfl, N18⟩
theorem ef_0 (m : MethodId) (x0 : Int64) (x1 : Int64) (x2 : Int32) (x3 : Int32) (x4 : Int32) (x5 : Int32) : entryFrame m #[(.long x0), (.long x1), (.int x2), (.int x3), (.int x4), (.int x5)] maxLocals = mkF m 0 #[.val (.long x0), .second, .val (.long x1), .second, .val (.int x2), .val (.int x3), .val (.int x4), .val (.int x5), .unset, .unset, .unset, .unset, .unset, .unset, .unset, .unset, .unset, .unset, .unset] [] := by first | (simp [entryFrame, mkF, argsToLocals, Value.category, maxLocals]; done) | rfl
theorem pd_1 : parseMethodDescriptor "([BIIIJ)B" = some ⟨[(.array .byte), .int, .int, .int, .long], some .byte⟩ := by decide +kernel
set_option maxRecDepth 65536 in
set_option maxHeartbeats 40000000 in
theorem rm0 (l : Launch) (Z : State) (a0 : Array Value) (hw : ∀ d ∈ tables_1, d.before a0 Z = true) (ws : List Jvm.Cond) (q1 q3 : Int64) (p4 p5 p6 p7 : Int32) (h0 : Heap) (n0 : Nat) (Z0 : n0 ≤ h0.size) :
    MetFree l x (head1 (Jvm.Cond.code x code maxLocals ret :: ws) room_1) (fun a U => a = #[(.long q1), (.long q3), (.int p4), (.int p5), (.int p6), (.int p7)] ∧ Z.Warmed39 U.vm ∧ U.heap = h0) (fun _ _ _ _ _ => True) (fun _ U o U' => ∃ v L, o = .returned v ∧ Q0 n0 v U'.heap L ∧ FrameEnd U o U' L room_1.cells room_1.slots) := by
  refine MetFree.of_bodySF (plainFor_of_name pn_com_example_lastkey_lastkey_exec_TextFormatIsNullPinLaw) hisR ?_
  intro p e s m args below meth c s₁ Bd hml0 hP hK
  obtain ⟨rfl, hZ, hh⟩ := hP
  have hx := Bd.exec
  have hby := Bd.bytes
  have hml : c.maxLocals = 19 := hml0
  have hown : s.vm.findClass "com/example/lastkey/lastkey/exec/TextFormatIsNullPinLaw" = some m.cls := findClass_of_methodNamed Bd.named
  have hnm := (name_of_methodNamed Bd.named Bd.method).1
  have X0 : Stand p l e room_1 s m #[(.long q1), (.long q3), (.int p4), (.int p5), (.int p6), (.int p7)] below meth c s₁ [] 0 0 := Stand.of_body Bd
  have e0 : s₁.heap = h0 := by rw [← hh, Bd.state]; rfl
  have N0 := Fr.nil n0
  show own_Rch p.tables e below (s₁.setTop (entryFrame m #[(.long q1), (.long q3), (.int p4), (.int p5), (.int p6), (.int p7)] maxLocals)) (own_End s (Q0 n0) room_1.cells room_1.slots)
  refine own_via (fun t k => castTop (ef_0 m q1 q3 p4 p5 p6 p7) k) ?_
  show own_Rch p.tables e below (s₁.setTop (mkF m 0 #[.val (.long q1), .second, .val (.long q3), .second, .val (.int p4), .val (.int p5), .val (.int p6), .val (.int p7), .unset, .unset, .unset, .unset, .unset, .unset, .unset, .unset, .unset, .unset, .unset] [])) _
  refine own_via (fun t k => XS.iconst X0.here hx rfl (hb hby at_0) k) ?_
  show own_Rch p.tables e below (s₁.setTop (mkF m 1 #[.val (.long q1), .second, .val (.long q3), .second, .val (.int p4), .val (.int p5), .val (.int p6), .val (.int p7), .unset, .unset, .unset, .unset, .unset, .unset, .unset, .unset, .unset, .unset, .unset] [(.int (5 : Int32))])) _
  obtain ⟨T1, h1, k1, X1, e1, E1, A1, st1⟩ := newP X0 hx hZ (hw _ (List.mem_of_getElem? (i := 0) rfl)) e0 (g := (mkF m 1 #[.val (.long q1), .second, .val (.long q3), .second, .val (.int p4), .val (.int p5), .val (.int p6), .val (.int p7), .unset, .unset, .unset, .unset, .unset, .unset, .unset, .unset, .unset, .unset, .unset] [(.int (5 : Int32))])) rfl (hb hby at_1) rfl (by decide) (cap := 5) (by decide) (by decide) (by decide) (by decide)
  obtain ⟨b1, g1⟩ : ∃ z, z = h0.size := ⟨_, rfl⟩
  rw [← g1] at A1 st1
  have g_b1 : n0 ≤ b1 := Nat.le_trans Z0 (Nat.le_of_eq g1.symm)
  have V1 : Arv Z h1 b1 k1 .byte (5 : Int32) [(.int (0 : Int32)), (.int (0 : Int32)), (.int (0 : Int32)), (.int (0 : Int32)), (.int (0 : Int32))] (.int (0 : Int32)) := (Arv.new A1 (by decide)).pad (pad_rep [] (.int (0 : Int32)) 5)
  refine own_via st1 ?_
  show own_Rch p.tables e below (T1.setTop (mkF m 3 #[.val (.long q1), .second, .val (.long q3), .second, .val (.int p4), .val (.int p5), .val (.int p6), .val (.int p7), .unset, .unset, .unset, .unset, .unset, .unset, .unset, .unset, .unset, .unset, .unset] [(.ref b1)])) _
  refine own_via (fun t k => XS.astore X1.here hx rfl (hb hby at_3) rfl rfl (l' := #[.val (.long q1), .second, .val (.long q3), .second, .val (.int p4), .val (.int p5), .val (.int p6), .val (.int p7), .val (.ref b1), .unset, .unset, .unset, .unset, .unset, .unset, .unset, .unset, .unset, .unset]) rfl k) ?_
  show own_Rch p.tables e below (T1.setTop (mkF m 5 #[.val (.long q1), .second, .val (.long q3), .second, .val (.int p4), .val (.int p5), .val (.int p6), .val (.int p7), .val (.ref b1), .unset, .unset, .unset, .unset, .unset, .unset, .unset, .unset, .unset, .unset] [])) _
  refine own_via (fun t k => XS.aload X1.here hx rfl (hb hby at_5) rfl rfl k) ?_
  show own_Rch p.tables e below (T1.setTop (mkF m 7 #[.val (.long q1), .second, .val (.long q3), .second, .val (.int p4), .val (.int p5), .val (.int p6), .val (.int p7), .val (.ref b1), .unset, .unset, .unset, .unset, .unset, .unset, .unset, .unset, .unset, .unset] [(.ref b1)])) _
  refine own_via (fun t k => XS.iconst X1.here hx rfl (hb hby at_7) k) ?_
  show own_Rch p.tables e below (T1.setTop (mkF m 8 #[.val (.long q1), .second, .val (.long q3), .second, .val (.int p4), .val (.int p5), .val (.int p6), .val (.int p7), .val (.ref b1), .unset, .unset, .unset, .unset, .unset, .unset, .unset, .unset, .unset, .unset] [(.int (0 : Int32)), (.ref b1)])) _
  refine own_via (fun t k => XS.lloadN X1.here hx rfl (hb hby at_8) rfl k) ?_
  show own_Rch p.tables e below (T1.setTop (mkF m 9 #[.val (.long q1), .second, .val (.long q3), .second, .val (.int p4), .val (.int p5), .val (.int p6), .val (.int p7), .val (.ref b1), .unset, .unset, .unset, .unset, .unset, .unset, .unset, .unset, .unset, .unset] [(.long q1), (.int (0 : Int32)), (.ref b1)])) _
  refine own_via (fun t k => XS.l2i X1.here hx rfl (hb hby at_9) rfl k) ?_
  show own_Rch p.tables e below (T1.setTop (mkF m 10 #[.val (.long q1), .second, .val (.long q3), .second, .val (.int p4), .val (.int p5), .val (.int p6), .val (.int p7), .val (.ref b1), .unset, .unset, .unset, .unset, .unset, .unset, .unset, .unset, .unset, .unset] [(.int (q1.toInt32)), (.int (0 : Int32)), (.ref b1)])) _
  refine own_via (fun t k => XS.i2b X1.here hx rfl (hb hby at_10) rfl k) ?_
  show own_Rch p.tables e below (T1.setTop (mkF m 11 #[.val (.long q1), .second, .val (.long q3), .second, .val (.int p4), .val (.int p5), .val (.int p6), .val (.int p7), .val (.ref b1), .unset, .unset, .unset, .unset, .unset, .unset, .unset, .unset, .unset, .unset] [(.int ((q1.toInt32).toInt8.toInt32)), (.int (0 : Int32)), (.ref b1)])) _
  obtain ⟨cl2, Ar2, cq_2, S2, M2, H2, G2⟩ := V1
  have hin2 : ¬ ((0 : Int32) < 0 ∨ cl2.slots.size ≤ ((0 : Int32)).toNatClampNeg) := inb_of S2 ⟨by decide, by decide⟩
  obtain ⟨T2, h2, X2, e2, W2, st2⟩ := stB X1 hx hZ e1 Ar2 (j := (0 : Int32)) hin2 (g := (mkF m 11 #[.val (.long q1), .second, .val (.long q3), .second, .val (.int p4), .val (.int p5), .val (.int p6), .val (.int p7), .val (.ref b1), .unset, .unset, .unset, .unset, .unset, .unset, .unset, .unset, .unset, .unset] [(.int ((q1.toInt32).toInt8.toInt32)), (.int (0 : Int32)), (.ref b1)])) rfl rfl (hb hby at_11)
  have V2 := Arv.set Ar2 cq_2 S2 M2 H2 G2 (fits_nar_byte _) W2 0 rfl (Nat.le_of_ble_eq_true rfl)
  have V2' : Arv Z h2 b1 k1 .byte (5 : Int32) [(.int (((q1.toInt32).toInt8.toInt32).toInt8.toInt32)), (.int (0 : Int32)), (.int (0 : Int32)), (.int (0 : Int32)), (.int (0 : Int32))] (.int (0 : Int32)) := V2
  have N2 := Fr.snoc X2 N0 g_b1
  refine own_via st2 ?_
  show own_Rch p.tables e below (T2.setTop (mkF m 12 #[.val (.long q1), .second, .val (.long q3), .second, .val (.int p4), .val (.int p5), .val (.int p6), .val (.int p7), .val (.ref b1), .unset, .unset, .unset, .unset, .unset, .unset, .unset, .unset, .unset, .unset] [])) _
  refine own_via (fun t k => XS.aload X2.here hx rfl (hb hby at_12) rfl rfl k) ?_
  show own_Rch p.tables e below (T2.setTop (mkF m 14 #[.val (.long q1), .second, .val (.long q3), .second, .val (.int p4), .val (.int p5), .val (.int p6), .val (.int p7), .val (.ref b1), .unset, .unset, .unset, .unset, .unset, .unset, .unset, .unset, .unset, .unset] [(.ref b1)])) _
  refine own_via (fun t k => XS.iconst X2.here hx rfl (hb hby at_14) k) ?_
  show own_Rch p.tables e below (T2.setTop (mkF m 15 #[.val (.long q1), .second, .val (.long q3), .second, .val (.int p4), .val (.int p5), .val (.int p6), .val (.int p7), .val (.ref b1), .unset, .unset, .unset, .unset, .unset, .unset, .unset, .unset, .unset, .unset] [(.int (1 : Int32)), (.ref b1)])) _
  refine own_via (fun t k => XS.lloadN X2.here hx rfl (hb hby at_15) rfl k) ?_
  show own_Rch p.tables e below (T2.setTop (mkF m 16 #[.val (.long q1), .second, .val (.long q3), .second, .val (.int p4), .val (.int p5), .val (.int p6), .val (.int p7), .val (.ref b1), .unset, .unset, .unset, .unset, .unset, .unset, .unset, .unset, .unset, .unset] [(.long q1), (.int (1 : Int32)), (.ref b1)])) _
  refine own_via (fun t k => XS.bipush X2.here hx rfl (hb hby at_16) k) ?_
  show own_Rch p.tables e below (T2.setTop (mkF m 18 #[.val (.long q1), .second, .val (.long q3), .second, .val (.int p4), .val (.int p5), .val (.int p6), .val (.int p7), .val (.ref b1), .unset, .unset, .unset, .unset, .unset, .unset, .unset, .unset, .unset, .unset] [(.int (8 : Int32)), (.long q1), (.int (1 : Int32)), (.ref b1)])) _
  refine own_via (fun t k => XS.lushr X2.here hx rfl (hb hby at_18) rfl k) ?_
  show own_Rch p.tables e below (T2.setTop (mkF m 19 #[.val (.long q1), .second, .val (.long q3), .second, .val (.int p4), .val (.int p5), .val (.int p6), .val (.int p7), .val (.ref b1), .unset, .unset, .unset, .unset, .unset, .unset, .unset, .unset, .unset, .unset] [(.long ((q1.toUInt64 >>> ((8 : Int32) &&& 0x3f).toInt64.toUInt64).toInt64)), (.int (1 : Int32)), (.ref b1)])) _
  refine own_via (fun t k => XS.l2i X2.here hx rfl (hb hby at_19) rfl k) ?_
  show own_Rch p.tables e below (T2.setTop (mkF m 20 #[.val (.long q1), .second, .val (.long q3), .second, .val (.int p4), .val (.int p5), .val (.int p6), .val (.int p7), .val (.ref b1), .unset, .unset, .unset, .unset, .unset, .unset, .unset, .unset, .unset, .unset] [(.int (((q1.toUInt64 >>> ((8 : Int32) &&& 0x3f).toInt64.toUInt64).toInt64).toInt32)), (.int (1 : Int32)), (.ref b1)])) _
  refine own_via (fun t k => XS.i2b X2.here hx rfl (hb hby at_20) rfl k) ?_
  show own_Rch p.tables e below (T2.setTop (mkF m 21 #[.val (.long q1), .second, .val (.long q3), .second, .val (.int p4), .val (.int p5), .val (.int p6), .val (.int p7), .val (.ref b1), .unset, .unset, .unset, .unset, .unset, .unset, .unset, .unset, .unset, .unset] [(.int ((((q1.toUInt64 >>> ((8 : Int32) &&& 0x3f).toInt64.toUInt64).toInt64).toInt32).toInt8.toInt32)), (.int (1 : Int32)), (.ref b1)])) _
  obtain ⟨cl3, Ar3, cq_3, S3, M3, H3, G3⟩ := V2'
  have hin3 : ¬ ((1 : Int32) < 0 ∨ cl3.slots.size ≤ ((1 : Int32)).toNatClampNeg) := inb_of S3 ⟨by decide, by decide⟩
  obtain ⟨T3, h3, X3, e3, W3, st3⟩ := stB X2 hx hZ e2 Ar3 (j := (1 : Int32)) hin3 (g := (mkF m 21 #[.val (.long q1), .second, .val (.long q3), .second, .val (.int p4), .val (.int p5), .val (.int p6), .val (.int p7), .val (.ref b1), .unset, .unset, .unset, .unset, .unset, .unset, .unset, .unset, .unset, .unset] [(.int ((((q1.toUInt64 >>> ((8 : Int32) &&& 0x3f).toInt64.toUInt64).toInt64).toInt32).toInt8.toInt32)), (.int (1 : Int32)), (.ref b1)])) rfl rfl (hb hby at_21)
  have V3 := Arv.set Ar3 cq_3 S3 M3 H3 G3 (fits_nar_byte _) W3 1 rfl (Nat.le_of_ble_eq_true rfl)
  have V3' : Arv Z h3 b1 k1 .byte (5 : Int32) [(.int (((q1.toInt32).toInt8.toInt32).toInt8.toInt32)), (.int (((((q1.toUInt64 >>> ((8 : Int32) &&& 0x3f).toInt64.toUInt64).toInt64).toInt32).toInt8.toInt32).toInt8.toInt32)), (.int (0 : Int32)), (.int (0 : Int32)), (.int (0 : Int32))] (.int (0 : Int32)) := V3
  have N3 := Fr.snoc X3 N2 g_b1
  refine own_via st3 ?_
  show own_Rch p.tables e below (T3.setTop (mkF m 22 #[.val (.long q1), .second, .val (.long q3), .second, .val (.int p4), .val (.int p5), .val (.int p6), .val (.int p7), .val (.ref b1), .unset, .unset, .unset, .unset, .unset, .unset, .unset, .unset, .unset, .unset] [])) _
  refine own_via (fun t k => XS.aload X3.here hx rfl (hb hby at_22) rfl rfl k) ?_
  show own_Rch p.tables e below (T3.setTop (mkF m 24 #[.val (.long q1), .second, .val (.long q3), .second, .val (.int p4), .val (.int p5), .val (.int p6), .val (.int p7), .val (.ref b1), .unset, .unset, .unset, .unset, .unset, .unset, .unset, .unset, .unset, .unset] [(.ref b1)])) _
  refine own_via (fun t k => XS.iconst X3.here hx rfl (hb hby at_24) k) ?_
  show own_Rch p.tables e below (T3.setTop (mkF m 25 #[.val (.long q1), .second, .val (.long q3), .second, .val (.int p4), .val (.int p5), .val (.int p6), .val (.int p7), .val (.ref b1), .unset, .unset, .unset, .unset, .unset, .unset, .unset, .unset, .unset, .unset] [(.int (2 : Int32)), (.ref b1)])) _
  refine own_via (fun t k => XS.lloadN X3.here hx rfl (hb hby at_25) rfl k) ?_
  show own_Rch p.tables e below (T3.setTop (mkF m 26 #[.val (.long q1), .second, .val (.long q3), .second, .val (.int p4), .val (.int p5), .val (.int p6), .val (.int p7), .val (.ref b1), .unset, .unset, .unset, .unset, .unset, .unset, .unset, .unset, .unset, .unset] [(.long q1), (.int (2 : Int32)), (.ref b1)])) _
  refine own_via (fun t k => XS.bipush X3.here hx rfl (hb hby at_26) k) ?_
  show own_Rch p.tables e below (T3.setTop (mkF m 28 #[.val (.long q1), .second, .val (.long q3), .second, .val (.int p4), .val (.int p5), .val (.int p6), .val (.int p7), .val (.ref b1), .unset, .unset, .unset, .unset, .unset, .unset, .unset, .unset, .unset, .unset] [(.int (16 : Int32)), (.long q1), (.int (2 : Int32)), (.ref b1)])) _
  refine own_via (fun t k => XS.lushr X3.here hx rfl (hb hby at_28) rfl k) ?_
  show own_Rch p.tables e below (T3.setTop (mkF m 29 #[.val (.long q1), .second, .val (.long q3), .second, .val (.int p4), .val (.int p5), .val (.int p6), .val (.int p7), .val (.ref b1), .unset, .unset, .unset, .unset, .unset, .unset, .unset, .unset, .unset, .unset] [(.long ((q1.toUInt64 >>> ((16 : Int32) &&& 0x3f).toInt64.toUInt64).toInt64)), (.int (2 : Int32)), (.ref b1)])) _
  refine own_via (fun t k => XS.l2i X3.here hx rfl (hb hby at_29) rfl k) ?_
  show own_Rch p.tables e below (T3.setTop (mkF m 30 #[.val (.long q1), .second, .val (.long q3), .second, .val (.int p4), .val (.int p5), .val (.int p6), .val (.int p7), .val (.ref b1), .unset, .unset, .unset, .unset, .unset, .unset, .unset, .unset, .unset, .unset] [(.int (((q1.toUInt64 >>> ((16 : Int32) &&& 0x3f).toInt64.toUInt64).toInt64).toInt32)), (.int (2 : Int32)), (.ref b1)])) _
  refine own_via (fun t k => XS.i2b X3.here hx rfl (hb hby at_30) rfl k) ?_
  show own_Rch p.tables e below (T3.setTop (mkF m 31 #[.val (.long q1), .second, .val (.long q3), .second, .val (.int p4), .val (.int p5), .val (.int p6), .val (.int p7), .val (.ref b1), .unset, .unset, .unset, .unset, .unset, .unset, .unset, .unset, .unset, .unset] [(.int ((((q1.toUInt64 >>> ((16 : Int32) &&& 0x3f).toInt64.toUInt64).toInt64).toInt32).toInt8.toInt32)), (.int (2 : Int32)), (.ref b1)])) _
  obtain ⟨cl4, Ar4, cq_4, S4, M4, H4, G4⟩ := V3'
  have hin4 : ¬ ((2 : Int32) < 0 ∨ cl4.slots.size ≤ ((2 : Int32)).toNatClampNeg) := inb_of S4 ⟨by decide, by decide⟩
  obtain ⟨T4, h4, X4, e4, W4, st4⟩ := stB X3 hx hZ e3 Ar4 (j := (2 : Int32)) hin4 (g := (mkF m 31 #[.val (.long q1), .second, .val (.long q3), .second, .val (.int p4), .val (.int p5), .val (.int p6), .val (.int p7), .val (.ref b1), .unset, .unset, .unset, .unset, .unset, .unset, .unset, .unset, .unset, .unset] [(.int ((((q1.toUInt64 >>> ((16 : Int32) &&& 0x3f).toInt64.toUInt64).toInt64).toInt32).toInt8.toInt32)), (.int (2 : Int32)), (.ref b1)])) rfl rfl (hb hby at_31)
  have V4 := Arv.set Ar4 cq_4 S4 M4 H4 G4 (fits_nar_byte _) W4 2 rfl (Nat.le_of_ble_eq_true rfl)
  have V4' : Arv Z h4 b1 k1 .byte (5 : Int32) [(.int (((q1.toInt32).toInt8.toInt32).toInt8.toInt32)), (.int (((((q1.toUInt64 >>> ((8 : Int32) &&& 0x3f).toInt64.toUInt64).toInt64).toInt32).toInt8.toInt32).toInt8.toInt32)), (.int (((((q1.toUInt64 >>> ((16 : Int32) &&& 0x3f).toInt64.toUInt64).toInt64).toInt32).toInt8.toInt32).toInt8.toInt32)), (.int (0 : Int32)), (.int (0 : Int32))] (.int (0 : Int32)) := V4
  have N4 := Fr.snoc X4 N3 g_b1
  refine own_via st4 ?_
  show own_Rch p.tables e below (T4.setTop (mkF m 32 #[.val (.long q1), .second, .val (.long q3), .second, .val (.int p4), .val (.int p5), .val (.int p6), .val (.int p7), .val (.ref b1), .unset, .unset, .unset, .unset, .unset, .unset, .unset, .unset, .unset, .unset] [])) _
  refine own_via (fun t k => XS.aload X4.here hx rfl (hb hby at_32) rfl rfl k) ?_
  show own_Rch p.tables e below (T4.setTop (mkF m 34 #[.val (.long q1), .second, .val (.long q3), .second, .val (.int p4), .val (.int p5), .val (.int p6), .val (.int p7), .val (.ref b1), .unset, .unset, .unset, .unset, .unset, .unset, .unset, .unset, .unset, .unset] [(.ref b1)])) _
  refine own_via (fun t k => XS.iconst X4.here hx rfl (hb hby at_34) k) ?_
  show own_Rch p.tables e below (T4.setTop (mkF m 35 #[.val (.long q1), .second, .val (.long q3), .second, .val (.int p4), .val (.int p5), .val (.int p6), .val (.int p7), .val (.ref b1), .unset, .unset, .unset, .unset, .unset, .unset, .unset, .unset, .unset, .unset] [(.int (3 : Int32)), (.ref b1)])) _
  refine own_via (fun t k => XS.lloadN X4.here hx rfl (hb hby at_35) rfl k) ?_
  show own_Rch p.tables e below (T4.setTop (mkF m 36 #[.val (.long q1), .second, .val (.long q3), .second, .val (.int p4), .val (.int p5), .val (.int p6), .val (.int p7), .val (.ref b1), .unset, .unset, .unset, .unset, .unset, .unset, .unset, .unset, .unset, .unset] [(.long q1), (.int (3 : Int32)), (.ref b1)])) _
  refine own_via (fun t k => XS.bipush X4.here hx rfl (hb hby at_36) k) ?_
  show own_Rch p.tables e below (T4.setTop (mkF m 38 #[.val (.long q1), .second, .val (.long q3), .second, .val (.int p4), .val (.int p5), .val (.int p6), .val (.int p7), .val (.ref b1), .unset, .unset, .unset, .unset, .unset, .unset, .unset, .unset, .unset, .unset] [(.int (24 : Int32)), (.long q1), (.int (3 : Int32)), (.ref b1)])) _
  refine own_via (fun t k => XS.lushr X4.here hx rfl (hb hby at_38) rfl k) ?_
  show own_Rch p.tables e below (T4.setTop (mkF m 39 #[.val (.long q1), .second, .val (.long q3), .second, .val (.int p4), .val (.int p5), .val (.int p6), .val (.int p7), .val (.ref b1), .unset, .unset, .unset, .unset, .unset, .unset, .unset, .unset, .unset, .unset] [(.long ((q1.toUInt64 >>> ((24 : Int32) &&& 0x3f).toInt64.toUInt64).toInt64)), (.int (3 : Int32)), (.ref b1)])) _
  refine own_via (fun t k => XS.l2i X4.here hx rfl (hb hby at_39) rfl k) ?_
  show own_Rch p.tables e below (T4.setTop (mkF m 40 #[.val (.long q1), .second, .val (.long q3), .second, .val (.int p4), .val (.int p5), .val (.int p6), .val (.int p7), .val (.ref b1), .unset, .unset, .unset, .unset, .unset, .unset, .unset, .unset, .unset, .unset] [(.int (((q1.toUInt64 >>> ((24 : Int32) &&& 0x3f).toInt64.toUInt64).toInt64).toInt32)), (.int (3 : Int32)), (.ref b1)])) _
  refine own_via (fun t k => XS.i2b X4.here hx rfl (hb hby at_40) rfl k) ?_
  show own_Rch p.tables e below (T4.setTop (mkF m 41 #[.val (.long q1), .second, .val (.long q3), .second, .val (.int p4), .val (.int p5), .val (.int p6), .val (.int p7), .val (.ref b1), .unset, .unset, .unset, .unset, .unset, .unset, .unset, .unset, .unset, .unset] [(.int ((((q1.toUInt64 >>> ((24 : Int32) &&& 0x3f).toInt64.toUInt64).toInt64).toInt32).toInt8.toInt32)), (.int (3 : Int32)), (.ref b1)])) _
  obtain ⟨cl5, Ar5, cq_5, S5, M5, H5, G5⟩ := V4'
  have hin5 : ¬ ((3 : Int32) < 0 ∨ cl5.slots.size ≤ ((3 : Int32)).toNatClampNeg) := inb_of S5 ⟨by decide, by decide⟩
  obtain ⟨T5, h5, X5, e5, W5, st5⟩ := stB X4 hx hZ e4 Ar5 (j := (3 : Int32)) hin5 (g := (mkF m 41 #[.val (.long q1), .second, .val (.long q3), .second, .val (.int p4), .val (.int p5), .val (.int p6), .val (.int p7), .val (.ref b1), .unset, .unset, .unset, .unset, .unset, .unset, .unset, .unset, .unset, .unset] [(.int ((((q1.toUInt64 >>> ((24 : Int32) &&& 0x3f).toInt64.toUInt64).toInt64).toInt32).toInt8.toInt32)), (.int (3 : Int32)), (.ref b1)])) rfl rfl (hb hby at_41)
  have V5 := Arv.set Ar5 cq_5 S5 M5 H5 G5 (fits_nar_byte _) W5 3 rfl (Nat.le_of_ble_eq_true rfl)
  have V5' : Arv Z h5 b1 k1 .byte (5 : Int32) [(.int (((q1.toInt32).toInt8.toInt32).toInt8.toInt32)), (.int (((((q1.toUInt64 >>> ((8 : Int32) &&& 0x3f).toInt64.toUInt64).toInt64).toInt32).toInt8.toInt32).toInt8.toInt32)), (.int (((((q1.toUInt64 >>> ((16 : Int32) &&& 0x3f).toInt64.toUInt64).toInt64).toInt32).toInt8.toInt32).toInt8.toInt32)), (.int (((((q1.toUInt64 >>> ((24 : Int32) &&& 0x3f).toInt64.toUInt64).toInt64).toInt32).toInt8.toInt32).toInt8.toInt32)), (.int (0 : Int32))] (.int (0 : Int32)) := V5
  have N5 := Fr.snoc X5 N4 g_b1
  refine own_via st5 ?_
  show own_Rch p.tables e below (T5.setTop (mkF m 42 #[.val (.long q1), .second, .val (.long q3), .second, .val (.int p4), .val (.int p5), .val (.int p6), .val (.int p7), .val (.ref b1), .unset, .unset, .unset, .unset, .unset, .unset, .unset, .unset, .unset, .unset] [])) _
  refine own_via (fun t k => XS.aload X5.here hx rfl (hb hby at_42) rfl rfl k) ?_
  show own_Rch p.tables e below (T5.setTop (mkF m 44 #[.val (.long q1), .second, .val (.long q3), .second, .val (.int p4), .val (.int p5), .val (.int p6), .val (.int p7), .val (.ref b1), .unset, .unset, .unset, .unset, .unset, .unset, .unset, .unset, .unset, .unset] [(.ref b1)])) _
  refine own_via (fun t k => XS.iconst X5.here hx rfl (hb hby at_44) k) ?_
  show own_Rch p.tables e below (T5.setTop (mkF m 45 #[.val (.long q1), .second, .val (.long q3), .second, .val (.int p4), .val (.int p5), .val (.int p6), .val (.int p7), .val (.ref b1), .unset, .unset, .unset, .unset, .unset, .unset, .unset, .unset, .unset, .unset] [(.int (4 : Int32)), (.ref b1)])) _
  refine own_via (fun t k => XS.lloadN X5.here hx rfl (hb hby at_45) rfl k) ?_
  show own_Rch p.tables e below (T5.setTop (mkF m 46 #[.val (.long q1), .second, .val (.long q3), .second, .val (.int p4), .val (.int p5), .val (.int p6), .val (.int p7), .val (.ref b1), .unset, .unset, .unset, .unset, .unset, .unset, .unset, .unset, .unset, .unset] [(.long q1), (.int (4 : Int32)), (.ref b1)])) _
  refine own_via (fun t k => XS.bipush X5.here hx rfl (hb hby at_46) k) ?_
  show own_Rch p.tables e below (T5.setTop (mkF m 48 #[.val (.long q1), .second, .val (.long q3), .second, .val (.int p4), .val (.int p5), .val (.int p6), .val (.int p7), .val (.ref b1), .unset, .unset, .unset, .unset, .unset, .unset, .unset, .unset, .unset, .unset] [(.int (32 : Int32)), (.long q1), (.int (4 : Int32)), (.ref b1)])) _
  refine own_via (fun t k => XS.lushr X5.here hx rfl (hb hby at_48) rfl k) ?_
  show own_Rch p.tables e below (T5.setTop (mkF m 49 #[.val (.long q1), .second, .val (.long q3), .second, .val (.int p4), .val (.int p5), .val (.int p6), .val (.int p7), .val (.ref b1), .unset, .unset, .unset, .unset, .unset, .unset, .unset, .unset, .unset, .unset] [(.long ((q1.toUInt64 >>> ((32 : Int32) &&& 0x3f).toInt64.toUInt64).toInt64)), (.int (4 : Int32)), (.ref b1)])) _
  refine own_via (fun t k => XS.l2i X5.here hx rfl (hb hby at_49) rfl k) ?_
  show own_Rch p.tables e below (T5.setTop (mkF m 50 #[.val (.long q1), .second, .val (.long q3), .second, .val (.int p4), .val (.int p5), .val (.int p6), .val (.int p7), .val (.ref b1), .unset, .unset, .unset, .unset, .unset, .unset, .unset, .unset, .unset, .unset] [(.int (((q1.toUInt64 >>> ((32 : Int32) &&& 0x3f).toInt64.toUInt64).toInt64).toInt32)), (.int (4 : Int32)), (.ref b1)])) _
  refine own_via (fun t k => XS.i2b X5.here hx rfl (hb hby at_50) rfl k) ?_
  show own_Rch p.tables e below (T5.setTop (mkF m 51 #[.val (.long q1), .second, .val (.long q3), .second, .val (.int p4), .val (.int p5), .val (.int p6), .val (.int p7), .val (.ref b1), .unset, .unset, .unset, .unset, .unset, .unset, .unset, .unset, .unset, .unset] [(.int ((((q1.toUInt64 >>> ((32 : Int32) &&& 0x3f).toInt64.toUInt64).toInt64).toInt32).toInt8.toInt32)), (.int (4 : Int32)), (.ref b1)])) _
  obtain ⟨cl6, Ar6, cq_6, S6, M6, H6, G6⟩ := V5'
  have hin6 : ¬ ((4 : Int32) < 0 ∨ cl6.slots.size ≤ ((4 : Int32)).toNatClampNeg) := inb_of S6 ⟨by decide, by decide⟩
  obtain ⟨T6, h6, X6, e6, W6, st6⟩ := stB X5 hx hZ e5 Ar6 (j := (4 : Int32)) hin6 (g := (mkF m 51 #[.val (.long q1), .second, .val (.long q3), .second, .val (.int p4), .val (.int p5), .val (.int p6), .val (.int p7), .val (.ref b1), .unset, .unset, .unset, .unset, .unset, .unset, .unset, .unset, .unset, .unset] [(.int ((((q1.toUInt64 >>> ((32 : Int32) &&& 0x3f).toInt64.toUInt64).toInt64).toInt32).toInt8.toInt32)), (.int (4 : Int32)), (.ref b1)])) rfl rfl (hb hby at_51)
  have V6 := Arv.set Ar6 cq_6 S6 M6 H6 G6 (fits_nar_byte _) W6 4 rfl (Nat.le_of_ble_eq_true rfl)
  have V6' : Arv Z h6 b1 k1 .byte (5 : Int32) [(.int (((q1.toInt32).toInt8.toInt32).toInt8.toInt32)), (.int (((((q1.toUInt64 >>> ((8 : Int32) &&& 0x3f).toInt64.toUInt64).toInt64).toInt32).toInt8.toInt32).toInt8.toInt32)), (.int (((((q1.toUInt64 >>> ((16 : Int32) &&& 0x3f).toInt64.toUInt64).toInt64).toInt32).toInt8.toInt32).toInt8.toInt32)), (.int (((((q1.toUInt64 >>> ((24 : Int32) &&& 0x3f).toInt64.toUInt64).toInt64).toInt32).toInt8.toInt32).toInt8.toInt32)), (.int (((((q1.toUInt64 >>> ((32 : Int32) &&& 0x3f).toInt64.toUInt64).toInt64).toInt32).toInt8.toInt32).toInt8.toInt32))] (.int (0 : Int32)) := V6
  have N6 := Fr.snoc X6 N5 g_b1
  refine own_via st6 ?_
  show own_Rch p.tables e below (T6.setTop (mkF m 52 #[.val (.long q1), .second, .val (.long q3), .second, .val (.int p4), .val (.int p5), .val (.int p6), .val (.int p7), .val (.ref b1), .unset, .unset, .unset, .unset, .unset, .unset, .unset, .unset, .unset, .unset] [])) _
  refine own_via (fun t k => XS.iload X6.here hx rfl (hb hby at_52) rfl k) ?_
  show own_Rch p.tables e below (T6.setTop (mkF m 54 #[.val (.long q1), .second, .val (.long q3), .second, .val (.int p4), .val (.int p5), .val (.int p6), .val (.int p7), .val (.ref b1), .unset, .unset, .unset, .unset, .unset, .unset, .unset, .unset, .unset, .unset] [(.int p5)])) _
  refine own_via (X6.ldcInt hx hown (mvT hZ (hw _ (List.mem_of_getElem? (i := 1) rfl))) (g := (mkF m 54 #[.val (.long q1), .second, .val (.long q3), .second, .val (.int p4), .val (.int p5), .val (.int p6), .val (.int p7), .val (.ref b1), .unset, .unset, .unset, .unset, .unset, .unset, .unset, .unset, .unset, .unset] [(.int p5)])) rfl (hb hby at_54)) ?_
  show own_Rch p.tables e below (T6.setTop (mkF m 56 #[.val (.long q1), .second, .val (.long q3), .second, .val (.int p4), .val (.int p5), .val (.int p6), .val (.int p7), .val (.ref b1), .unset, .unset, .unset, .unset, .unset, .unset, .unset, .unset, .unset, .unset] [(.int (2147483647 : Int32)), (.int p5)])) _
  refine own_via (fun t k => XS.iand X6.here hx rfl (hb hby at_56) rfl k) ?_
  show own_Rch p.tables e below (T6.setTop (mkF m 57 #[.val (.long q1), .second, .val (.long q3), .second, .val (.int p4), .val (.int p5), .val (.int p6), .val (.int p7), .val (.ref b1), .unset, .unset, .unset, .unset, .unset, .unset, .unset, .unset, .unset, .unset] [(.int (p5 &&& (2147483647 : Int32)))])) _
  refine own_via (fun t k => XS.bipush X6.here hx rfl (hb hby at_57) k) ?_
  show own_Rch p.tables e below (T6.setTop (mkF m 59 #[.val (.long q1), .second, .val (.long q3), .second, .val (.int p4), .val (.int p5), .val (.int p6), .val (.int p7), .val (.ref b1), .unset, .unset, .unset, .unset, .unset, .unset, .unset, .unset, .unset, .unset] [(.int (6 : Int32)), (.int (p5 &&& (2147483647 : Int32)))])) _
  refine own_via (fun t k => iremM X6 hx rfl (hb hby at_59) rfl (by decide) k) ?_
  show own_Rch p.tables e below (T6.setTop (mkF m 60 #[.val (.long q1), .second, .val (.long q3), .second, .val (.int p4), .val (.int p5), .val (.int p6), .val (.int p7), .val (.ref b1), .unset, .unset, .unset, .unset, .unset, .unset, .unset, .unset, .unset, .unset] [(.int ((p5 &&& (2147483647 : Int32)) % (6 : Int32)))])) _
  obtain ⟨f9, hf9⟩ : ∃ z : Int32, z = ((p5 &&& (2147483647 : Int32)) % (6 : Int32)) := ⟨_, rfl⟩
  rw [← hf9]
  show own_Rch p.tables e below (T6.setTop (mkF m 60 #[.val (.long q1), .second, .val (.long q3), .second, .val (.int p4), .val (.int p5), .val (.int p6), .val (.int p7), .val (.ref b1), .unset, .unset, .unset, .unset, .unset, .unset, .unset, .unset, .unset, .unset] [(.int f9)])) _
  have hf9_ := hf9 ▸ own_fr p5
  refine own_via (fun t k => XS.istore X6.here hx rfl (hb hby at_60) rfl (l' := #[.val (.long q1), .second, .val (.long q3), .second, .val (.int p4), .val (.int p5), .val (.int p6), .val (.int p7), .val (.ref b1), .val (.int f9), .unset, .unset, .unset, .unset, .unset, .unset, .unset, .unset, .unset]) rfl k) ?_
  show own_Rch p.tables e below (T6.setTop (mkF m 62 #[.val (.long q1), .second, .val (.long q3), .second, .val (.int p4), .val (.int p5), .val (.int p6), .val (.int p7), .val (.ref b1), .val (.int f9), .unset, .unset, .unset, .unset, .unset, .unset, .unset, .unset, .unset] [])) _
  refine own_via (fun t k => XS.iload X6.here hx rfl (hb hby at_62) rfl k) ?_
  show own_Rch p.tables e below (T6.setTop (mkF m 64 #[.val (.long q1), .second, .val (.long q3), .second, .val (.int p4), .val (.int p5), .val (.int p6), .val (.int p7), .val (.ref b1), .val (.int f9), .unset, .unset, .unset, .unset, .unset, .unset, .unset, .unset, .unset] [(.int p6)])) _
  refine own_via (X6.ldcInt hx hown (mvT hZ (hw _ (List.mem_of_getElem? (i := 1) rfl))) (g := (mkF m 64 #[.val (.long q1), .second, .val (.long q3), .second, .val (.int p4), .val (.int p5), .val (.int p6), .val (.int p7), .val (.ref b1), .val (.int f9), .unset, .unset, .unset, .unset, .unset, .unset, .unset, .unset, .unset] [(.int p6)])) rfl (hb hby at_64)) ?_
  show own_Rch p.tables e below (T6.setTop (mkF m 66 #[.val (.long q1), .second, .val (.long q3), .second, .val (.int p4), .val (.int p5), .val (.int p6), .val (.int p7), .val (.ref b1), .val (.int f9), .unset, .unset, .unset, .unset, .unset, .unset, .unset, .unset, .unset] [(.int (2147483647 : Int32)), (.int p6)])) _
  refine own_via (fun t k => XS.iand X6.here hx rfl (hb hby at_66) rfl k) ?_
  show own_Rch p.tables e below (T6.setTop (mkF m 67 #[.val (.long q1), .second, .val (.long q3), .second, .val (.int p4), .val (.int p5), .val (.int p6), .val (.int p7), .val (.ref b1), .val (.int f9), .unset, .unset, .unset, .unset, .unset, .unset, .unset, .unset, .unset] [(.int (p6 &&& (2147483647 : Int32)))])) _
  refine own_via (fun t k => XS.bipush X6.here hx rfl (hb hby at_67) k) ?_
  show own_Rch p.tables e below (T6.setTop (mkF m 69 #[.val (.long q1), .second, .val (.long q3), .second, .val (.int p4), .val (.int p5), .val (.int p6), .val (.int p7), .val (.ref b1), .val (.int f9), .unset, .unset, .unset, .unset, .unset, .unset, .unset, .unset, .unset] [(.int (6 : Int32)), (.int (p6 &&& (2147483647 : Int32)))])) _
  refine own_via (fun t k => iremM X6 hx rfl (hb hby at_69) rfl (by decide) k) ?_
  show own_Rch p.tables e below (T6.setTop (mkF m 70 #[.val (.long q1), .second, .val (.long q3), .second, .val (.int p4), .val (.int p5), .val (.int p6), .val (.int p7), .val (.ref b1), .val (.int f9), .unset, .unset, .unset, .unset, .unset, .unset, .unset, .unset, .unset] [(.int ((p6 &&& (2147483647 : Int32)) % (6 : Int32)))])) _
  obtain ⟨t10, ht10⟩ : ∃ z : Int32, z = ((p6 &&& (2147483647 : Int32)) % (6 : Int32)) := ⟨_, rfl⟩
  rw [← ht10]
  show own_Rch p.tables e below (T6.setTop (mkF m 70 #[.val (.long q1), .second, .val (.long q3), .second, .val (.int p4), .val (.int p5), .val (.int p6), .val (.int p7), .val (.ref b1), .val (.int f9), .unset, .unset, .unset, .unset, .unset, .unset, .unset, .unset, .unset] [(.int t10)])) _
  have ht10_ := ht10 ▸ own_fr p6
  refine own_via (fun t k => XS.istore X6.here hx rfl (hb hby at_70) rfl (l' := #[.val (.long q1), .second, .val (.long q3), .second, .val (.int p4), .val (.int p5), .val (.int p6), .val (.int p7), .val (.ref b1), .val (.int f9), .val (.int t10), .unset, .unset, .unset, .unset, .unset, .unset, .unset, .unset]) rfl k) ?_
  show own_Rch p.tables e below (T6.setTop (mkF m 72 #[.val (.long q1), .second, .val (.long q3), .second, .val (.int p4), .val (.int p5), .val (.int p6), .val (.int p7), .val (.ref b1), .val (.int f9), .val (.int t10), .unset, .unset, .unset, .unset, .unset, .unset, .unset, .unset] [])) _
  refine own_via (fun t k => XS.iload X6.here hx rfl (hb hby at_72) rfl k) ?_
  show own_Rch p.tables e below (T6.setTop (mkF m 74 #[.val (.long q1), .second, .val (.long q3), .second, .val (.int p4), .val (.int p5), .val (.int p6), .val (.int p7), .val (.ref b1), .val (.int f9), .val (.int t10), .unset, .unset, .unset, .unset, .unset, .unset, .unset, .unset] [(.int p7)])) _
  refine own_via (X6.ldcInt hx hown (mvT hZ (hw _ (List.mem_of_getElem? (i := 1) rfl))) (g := (mkF m 74 #[.val (.long q1), .second, .val (.long q3), .second, .val (.int p4), .val (.int p5), .val (.int p6), .val (.int p7), .val (.ref b1), .val (.int f9), .val (.int t10), .unset, .unset, .unset, .unset, .unset, .unset, .unset, .unset] [(.int p7)])) rfl (hb hby at_74)) ?_
  show own_Rch p.tables e below (T6.setTop (mkF m 76 #[.val (.long q1), .second, .val (.long q3), .second, .val (.int p4), .val (.int p5), .val (.int p6), .val (.int p7), .val (.ref b1), .val (.int f9), .val (.int t10), .unset, .unset, .unset, .unset, .unset, .unset, .unset, .unset] [(.int (2147483647 : Int32)), (.int p7)])) _
  refine own_via (fun t k => XS.iand X6.here hx rfl (hb hby at_76) rfl k) ?_
  show own_Rch p.tables e below (T6.setTop (mkF m 77 #[.val (.long q1), .second, .val (.long q3), .second, .val (.int p4), .val (.int p5), .val (.int p6), .val (.int p7), .val (.ref b1), .val (.int f9), .val (.int t10), .unset, .unset, .unset, .unset, .unset, .unset, .unset, .unset] [(.int (p7 &&& (2147483647 : Int32)))])) _
  refine own_via (fun t k => XS.bipush X6.here hx rfl (hb hby at_77) k) ?_
  show own_Rch p.tables e below (T6.setTop (mkF m 79 #[.val (.long q1), .second, .val (.long q3), .second, .val (.int p4), .val (.int p5), .val (.int p6), .val (.int p7), .val (.ref b1), .val (.int f9), .val (.int t10), .unset, .unset, .unset, .unset, .unset, .unset, .unset, .unset] [(.int (6 : Int32)), (.int (p7 &&& (2147483647 : Int32)))])) _
  refine own_via (fun t k => iremM X6 hx rfl (hb hby at_79) rfl (by decide) k) ?_
  show own_Rch p.tables e below (T6.setTop (mkF m 80 #[.val (.long q1), .second, .val (.long q3), .second, .val (.int p4), .val (.int p5), .val (.int p6), .val (.int p7), .val (.ref b1), .val (.int f9), .val (.int t10), .unset, .unset, .unset, .unset, .unset, .unset, .unset, .unset] [(.int ((p7 &&& (2147483647 : Int32)) % (6 : Int32)))])) _
  obtain ⟨n11, hn11⟩ : ∃ z : Int32, z = ((p7 &&& (2147483647 : Int32)) % (6 : Int32)) := ⟨_, rfl⟩
  rw [← hn11]
  show own_Rch p.tables e below (T6.setTop (mkF m 80 #[.val (.long q1), .second, .val (.long q3), .second, .val (.int p4), .val (.int p5), .val (.int p6), .val (.int p7), .val (.ref b1), .val (.int f9), .val (.int t10), .unset, .unset, .unset, .unset, .unset, .unset, .unset, .unset] [(.int n11)])) _
  have hn11_ := hn11 ▸ own_fr p7
  refine own_via (fun t k => XS.istore X6.here hx rfl (hb hby at_80) rfl (l' := #[.val (.long q1), .second, .val (.long q3), .second, .val (.int p4), .val (.int p5), .val (.int p6), .val (.int p7), .val (.ref b1), .val (.int f9), .val (.int t10), .val (.int n11), .unset, .unset, .unset, .unset, .unset, .unset, .unset]) rfl k) ?_
  show own_Rch p.tables e below (T6.setTop (mkF m 82 #[.val (.long q1), .second, .val (.long q3), .second, .val (.int p4), .val (.int p5), .val (.int p6), .val (.int p7), .val (.ref b1), .val (.int f9), .val (.int t10), .val (.int n11), .unset, .unset, .unset, .unset, .unset, .unset, .unset] [])) _
  obtain ⟨l_, Vl⟩ : ∃ l : List Int32, Arv Z h6 b1 k1 .byte (5 : Int32) (l.map Value.int) (.int 0) := ⟨[(((q1.toInt32).toInt8.toInt32).toInt8.toInt32), (((((q1.toUInt64 >>> ((8 : Int32) &&& 0x3f).toInt64.toUInt64).toInt64).toInt32).toInt8.toInt32).toInt8.toInt32), (((((q1.toUInt64 >>> ((16 : Int32) &&& 0x3f).toInt64.toUInt64).toInt64).toInt32).toInt8.toInt32).toInt8.toInt32), (((((q1.toUInt64 >>> ((24 : Int32) &&& 0x3f).toInt64.toUInt64).toInt64).toInt32).toInt8.toInt32).toInt8.toInt32), (((((q1.toUInt64 >>> ((32 : Int32) &&& 0x3f).toInt64.toUInt64).toInt64).toInt32).toInt8.toInt32).toInt8.toInt32)], V6'⟩
  refine own_via (fun t k => XS.aload X6.here hx rfl (hb hby at_82) rfl rfl k) ?_
  show own_Rch p.tables e below (T6.setTop (mkF m 84 #[.val (.long q1), .second, .val (.long q3), .second, .val (.int p4), .val (.int p5), .val (.int p6), .val (.int p7), .val (.ref b1), .val (.int f9), .val (.int t10), .val (.int n11), .unset, .unset, .unset, .unset, .unset, .unset, .unset] [(.ref b1)])) _
  refine own_via (fun t k => XS.iload X6.here hx rfl (hb hby at_84) rfl k) ?_
  show own_Rch p.tables e below (T6.setTop (mkF m 86 #[.val (.long q1), .second, .val (.long q3), .second, .val (.int p4), .val (.int p5), .val (.int p6), .val (.int p7), .val (.ref b1), .val (.int f9), .val (.int t10), .val (.int n11), .unset, .unset, .unset, .unset, .unset, .unset, .unset] [(.int f9), (.ref b1)])) _
  refine own_via (fun t k => XS.iload X6.here hx rfl (hb hby at_86) rfl k) ?_
  show own_Rch p.tables e below (T6.setTop (mkF m 88 #[.val (.long q1), .second, .val (.long q3), .second, .val (.int p4), .val (.int p5), .val (.int p6), .val (.int p7), .val (.ref b1), .val (.int f9), .val (.int t10), .val (.int n11), .unset, .unset, .unset, .unset, .unset, .unset, .unset] [(.int p4), (.int f9), (.ref b1)])) _
  refine own_via (fun t k => XS.iconst X6.here hx rfl (hb hby at_88) k) ?_
  show own_Rch p.tables e below (T6.setTop (mkF m 89 #[.val (.long q1), .second, .val (.long q3), .second, .val (.int p4), .val (.int p5), .val (.int p6), .val (.int p7), .val (.ref b1), .val (.int f9), .val (.int t10), .val (.int n11), .unset, .unset, .unset, .unset, .unset, .unset, .unset] [(.int (0 : Int32)), (.int p4), (.int f9), (.ref b1)])) _
  refine own_via (fun t k => XS.lloadN X6.here hx rfl (hb hby at_89) rfl k) ?_
  show own_Rch p.tables e below (T6.setTop (mkF m 90 #[.val (.long q1), .second, .val (.long q3), .second, .val (.int p4), .val (.int p5), .val (.int p6), .val (.int p7), .val (.ref b1), .val (.int f9), .val (.int t10), .val (.int n11), .unset, .unset, .unset, .unset, .unset, .unset, .unset] [(.long q3), (.int (0 : Int32)), (.int p4), (.int f9), (.ref b1)])) _
  obtain ⟨_, _, ⟨T7, L7, k7, n7⟩, -, X7, ⟨Lc7, hQ7, l7, y7, z7⟩, st7⟩ := Jvm.LawKit.callS X6 hx (y := (⟨"com/example/lastkey/lastkey/exec/TextFormatIsNullPinLaw", "pick", "([BIIIJ)B"⟩ : MethodName)) hown (mvT hZ (hw _ (List.mem_of_getElem? (i := 2) rfl))) (mvT hZ (hw _ (List.mem_of_getElem? (i := 3) rfl))) (mvT hZ (hw _ (List.mem_of_getElem? (i := 4) rfl))) (mvT hZ (hw _ (List.mem_of_getElem? (i := 5) rfl))) (by decide) (backOf (W := 0) (rm1 l Z a0 hw [] b1 f9 p4 (0 : Int32) q3 l_ _ h6 n0 Vl hf9_.1) hZ (hw _ (List.mem_of_getElem? (i := 5) rfl)) (hw _ (List.mem_of_getElem? (i := 4) rfl)) (by decide) (by decide)) (g := (mkF m 90 #[.val (.long q1), .second, .val (.long q3), .second, .val (.int p4), .val (.int p5), .val (.int p6), .val (.int p7), .val (.ref b1), .val (.int f9), .val (.int t10), .val (.int n11), .unset, .unset, .unset, .unset, .unset, .unset, .unset] [(.long q3), (.int (0 : Int32)), (.int p4), (.int f9), (.ref b1)])) rfl (by rw [hml]; rfl) (argsL := [(.ref b1), (.int f9), (.int p4), (.int (0 : Int32)), (.long q3)]) (rest := []) (lenOf pd_1 rfl) rfl (by show 2 * 0 + _ ≤ _; exact Nat.le_of_eq rfl) (hb hby at_90) (fun _ _ => ⟨rfl, e6, (by decide : 1 + 0 ≤ _), (by decide : 5 + 0 ≤ _)⟩)
  dsimp only [Pt.U, Pt.locs, Pt.cells, Pt.slots] at X7 l7 y7 z7 st7 hQ7
  subst l7 y7 z7
  obtain ⟨t12, rfl, N7q, eh7, hbt12⟩ := hQ7
  have N7 := Fr.app N6 N7q
  refine own_via st7 ?_
  show own_Rch p.tables e below (T7.setTop (mkF m 93 #[.val (.long q1), .second, .val (.long q3), .second, .val (.int p4), .val (.int p5), .val (.int p6), .val (.int p7), .val (.ref b1), .val (.int f9), .val (.int t10), .val (.int n11), .unset, .unset, .unset, .unset, .unset, .unset, .unset] [(.int t12)])) _
  refine own_via (fun t k => XS.istore X7.here hx rfl (hb hby at_93) rfl (l' := #[.val (.long q1), .second, .val (.long q3), .second, .val (.int p4), .val (.int p5), .val (.int p6), .val (.int p7), .val (.ref b1), .val (.int f9), .val (.int t10), .val (.int n11), .val (.int t12), .unset, .unset, .unset, .unset, .unset, .unset]) rfl k) ?_
  show own_Rch p.tables e below (T7.setTop (mkF m 95 #[.val (.long q1), .second, .val (.long q3), .second, .val (.int p4), .val (.int p5), .val (.int p6), .val (.int p7), .val (.ref b1), .val (.int f9), .val (.int t10), .val (.int n11), .val (.int t12), .unset, .unset, .unset, .unset, .unset, .unset] [])) _
  refine own_via (fun t k => XS.aload X7.here hx rfl (hb hby at_95) rfl rfl k) ?_
  show own_Rch p.tables e below (T7.setTop (mkF m 97 #[.val (.long q1), .second, .val (.long q3), .second, .val (.int p4), .val (.int p5), .val (.int p6), .val (.int p7), .val (.ref b1), .val (.int f9), .val (.int t10), .val (.int n11), .val (.int t12), .unset, .unset, .unset, .unset, .unset, .unset] [(.ref b1)])) _
  refine own_via (fun t k => XS.iload X7.here hx rfl (hb hby at_97) rfl k) ?_
  show own_Rch p.tables e below (T7.setTop (mkF m 99 #[.val (.long q1), .second, .val (.long q3), .second, .val (.int p4), .val (.int p5), .val (.int p6), .val (.int p7), .val (.ref b1), .val (.int f9), .val (.int t10), .val (.int n11), .val (.int t12), .unset, .unset, .unset, .unset, .unset, .unset] [(.int f9), (.ref b1)])) _
  refine own_via (fun t k => XS.iconst X7.here hx rfl (hb hby at_99) k) ?_
  show own_Rch p.tables e below (T7.setTop (mkF m 100 #[.val (.long q1), .second, .val (.long q3), .second, .val (.int p4), .val (.int p5), .val (.int p6), .val (.int p7), .val (.ref b1), .val (.int f9), .val (.int t10), .val (.int n11), .val (.int t12), .unset, .unset, .unset, .unset, .unset, .unset] [(.int (1 : Int32)), (.int f9), (.ref b1)])) _
  refine own_via (fun t k => XS.iadd X7.here hx rfl (hb hby at_100) rfl k) ?_
  show own_Rch p.tables e below (T7.setTop (mkF m 101 #[.val (.long q1), .second, .val (.long q3), .second, .val (.int p4), .val (.int p5), .val (.int p6), .val (.int p7), .val (.ref b1), .val (.int f9), .val (.int t10), .val (.int n11), .val (.int t12), .unset, .unset, .unset, .unset, .unset, .unset] [(.int (f9 + (1 : Int32))), (.ref b1)])) _
  refine own_via (fun t k => XS.iload X7.here hx rfl (hb hby at_101) rfl k) ?_
  show own_Rch p.tables e below (T7.setTop (mkF m 103 #[.val (.long q1), .second, .val (.long q3), .second, .val (.int p4), .val (.int p5), .val (.int p6), .val (.int p7), .val (.ref b1), .val (.int f9), .val (.int t10), .val (.int n11), .val (.int t12), .unset, .unset, .unset, .unset, .unset, .unset] [(.int p4), (.int (f9 + (1 : Int32))), (.ref b1)])) _
  refine own_via (fun t k => XS.iconst X7.here hx rfl (hb hby at_103) k) ?_
  show own_Rch p.tables e below (T7.setTop (mkF m 104 #[.val (.long q1), .second, .val (.long q3), .second, .val (.int p4), .val (.int p5), .val (.int p6), .val (.int p7), .val (.ref b1), .val (.int f9), .val (.int t10), .val (.int n11), .val (.int t12), .unset, .unset, .unset, .unset, .unset, .unset] [(.int (1 : Int32)), (.int p4), (.int (f9 + (1 : Int32))), (.ref b1)])) _
  refine own_via (fun t k => XS.lloadN X7.here hx rfl (hb hby at_104) rfl k) ?_
  show own_Rch p.tables e below (T7.setTop (mkF m 105 #[.val (.long q1), .second, .val (.long q3), .second, .val (.int p4), .val (.int p5), .val (.int p6), .val (.int p7), .val (.ref b1), .val (.int f9), .val (.int t10), .val (.int n11), .val (.int t12), .unset, .unset, .unset, .unset, .unset, .unset] [(.long q3), (.int (1 : Int32)), (.int p4), (.int (f9 + (1 : Int32))), (.ref b1)])) _
  obtain ⟨_, _, ⟨T8, L8, k8, n8⟩, -, X8, ⟨Lc8, hQ8, l8, y8, z8⟩, st8⟩ := Jvm.LawKit.callS X7 hx (y := (⟨"com/example/lastkey/lastkey/exec/TextFormatIsNullPinLaw", "pick", "([BIIIJ)B"⟩ : MethodName)) hown (mvT hZ (hw _ (List.mem_of_getElem? (i := 2) rfl))) (mvT hZ (hw _ (List.mem_of_getElem? (i := 3) rfl))) (mvT hZ (hw _ (List.mem_of_getElem? (i := 4) rfl))) (mvT hZ (hw _ (List.mem_of_getElem? (i := 5) rfl))) (by decide) (backOf (W := 0) (rm1 l Z a0 hw [] b1 (f9 + (1 : Int32)) p4 (1 : Int32) q3 l_ _ h6 n0 Vl (own_pi f9 _ hf9_ (by decide) (by decide))) hZ (hw _ (List.mem_of_getElem? (i := 5) rfl)) (hw _ (List.mem_of_getElem? (i := 4) rfl)) (by decide) (by decide)) (g := (mkF m 105 #[.val (.long q1), .second, .val (.long q3), .second, .val (.int p4), .val (.int p5), .val (.int p6), .val (.int p7), .val (.ref b1), .val (.int f9), .val (.int t10), .val (.int n11), .val (.int t12), .unset, .unset, .unset, .unset, .unset, .unset] [(.long q3), (.int (1 : Int32)), (.int p4), (.int (f9 + (1 : Int32))), (.ref b1)])) rfl (by rw [hml]; rfl) (argsL := [(.ref b1), (.int (f9 + (1 : Int32))), (.int p4), (.int (1 : Int32)), (.long q3)]) (rest := []) (lenOf pd_1 rfl) rfl (by show 2 * 0 + _ ≤ _; exact Nat.le_of_eq rfl) (hb hby at_105) (fun _ _ => ⟨rfl, eh7, (by decide : 1 + 0 ≤ _), (by decide : 5 + 0 ≤ _)⟩)
  dsimp only [Pt.U, Pt.locs, Pt.cells, Pt.slots] at X8 l8 y8 z8 st8 hQ8
  subst l8 y8 z8
  obtain ⟨t13, rfl, N8q, eh8, hbt13⟩ := hQ8
  have N8 := Fr.app N7 N8q
  refine own_via st8 ?_
  show own_Rch p.tables e below (T8.setTop (mkF m 108 #[.val (.long q1), .second, .val (.long q3), .second, .val (.int p4), .val (.int p5), .val (.int p6), .val (.int p7), .val (.ref b1), .val (.int f9), .val (.int t10), .val (.int n11), .val (.int t12), .unset, .unset, .unset, .unset, .unset, .unset] [(.int t13)])) _
  refine own_via (fun t k => XS.istore X8.here hx rfl (hb hby at_108) rfl (l' := #[.val (.long q1), .second, .val (.long q3), .second, .val (.int p4), .val (.int p5), .val (.int p6), .val (.int p7), .val (.ref b1), .val (.int f9), .val (.int t10), .val (.int n11), .val (.int t12), .val (.int t13), .unset, .unset, .unset, .unset, .unset]) rfl k) ?_
  show own_Rch p.tables e below (T8.setTop (mkF m 110 #[.val (.long q1), .second, .val (.long q3), .second, .val (.int p4), .val (.int p5), .val (.int p6), .val (.int p7), .val (.ref b1), .val (.int f9), .val (.int t10), .val (.int n11), .val (.int t12), .val (.int t13), .unset, .unset, .unset, .unset, .unset] [])) _
  refine own_via (fun t k => XS.aload X8.here hx rfl (hb hby at_110) rfl rfl k) ?_
  show own_Rch p.tables e below (T8.setTop (mkF m 112 #[.val (.long q1), .second, .val (.long q3), .second, .val (.int p4), .val (.int p5), .val (.int p6), .val (.int p7), .val (.ref b1), .val (.int f9), .val (.int t10), .val (.int n11), .val (.int t12), .val (.int t13), .unset, .unset, .unset, .unset, .unset] [(.ref b1)])) _
  refine own_via (fun t k => XS.iload X8.here hx rfl (hb hby at_112) rfl k) ?_
  show own_Rch p.tables e below (T8.setTop (mkF m 114 #[.val (.long q1), .second, .val (.long q3), .second, .val (.int p4), .val (.int p5), .val (.int p6), .val (.int p7), .val (.ref b1), .val (.int f9), .val (.int t10), .val (.int n11), .val (.int t12), .val (.int t13), .unset, .unset, .unset, .unset, .unset] [(.int f9), (.ref b1)])) _
  refine own_via (fun t k => XS.iconst X8.here hx rfl (hb hby at_114) k) ?_
  show own_Rch p.tables e below (T8.setTop (mkF m 115 #[.val (.long q1), .second, .val (.long q3), .second, .val (.int p4), .val (.int p5), .val (.int p6), .val (.int p7), .val (.ref b1), .val (.int f9), .val (.int t10), .val (.int n11), .val (.int t12), .val (.int t13), .unset, .unset, .unset, .unset, .unset] [(.int (2 : Int32)), (.int f9), (.ref b1)])) _
  refine own_via (fun t k => XS.iadd X8.here hx rfl (hb hby at_115) rfl k) ?_
  show own_Rch p.tables e below (T8.setTop (mkF m 116 #[.val (.long q1), .second, .val (.long q3), .second, .val (.int p4), .val (.int p5), .val (.int p6), .val (.int p7), .val (.ref b1), .val (.int f9), .val (.int t10), .val (.int n11), .val (.int t12), .val (.int t13), .unset, .unset, .unset, .unset, .unset] [(.int (f9 + (2 : Int32))), (.ref b1)])) _
  refine own_via (fun t k => XS.iload X8.here hx rfl (hb hby at_116) rfl k) ?_
  show own_Rch p.tables e below (T8.setTop (mkF m 118 #[.val (.long q1), .second, .val (.long q3), .second, .val (.int p4), .val (.int p5), .val (.int p6), .val (.int p7), .val (.ref b1), .val (.int f9), .val (.int t10), .val (.int n11), .val (.int t12), .val (.int t13), .unset, .unset, .unset, .unset, .unset] [(.int p4), (.int (f9 + (2 : Int32))), (.ref b1)])) _
  refine own_via (fun t k => XS.iconst X8.here hx rfl (hb hby at_118) k) ?_
  show own_Rch p.tables e below (T8.setTop (mkF m 119 #[.val (.long q1), .second, .val (.long q3), .second, .val (.int p4), .val (.int p5), .val (.int p6), .val (.int p7), .val (.ref b1), .val (.int f9), .val (.int t10), .val (.int n11), .val (.int t12), .val (.int t13), .unset, .unset, .unset, .unset, .unset] [(.int (2 : Int32)), (.int p4), (.int (f9 + (2 : Int32))), (.ref b1)])) _
  refine own_via (fun t k => XS.lloadN X8.here hx rfl (hb hby at_119) rfl k) ?_
  show own_Rch p.tables e below (T8.setTop (mkF m 120 #[.val (.long q1), .second, .val (.long q3), .second, .val (.int p4), .val (.int p5), .val (.int p6), .val (.int p7), .val (.ref b1), .val (.int f9), .val (.int t10), .val (.int n11), .val (.int t12), .val (.int t13), .unset, .unset, .unset, .unset, .unset] [(.long q3), (.int (2 : Int32)), (.int p4), (.int (f9 + (2 : Int32))), (.ref b1)])) _
  obtain ⟨_, _, ⟨T9, L9, k9, n9⟩, -, X9, ⟨Lc9, hQ9, l9, y9, z9⟩, st9⟩ := Jvm.LawKit.callS X8 hx (y := (⟨"com/example/lastkey/lastkey/exec/TextFormatIsNullPinLaw", "pick", "([BIIIJ)B"⟩ : MethodName)) hown (mvT hZ (hw _ (List.mem_of_getElem? (i := 2) rfl))) (mvT hZ (hw _ (List.mem_of_getElem? (i := 3) rfl))) (mvT hZ (hw _ (List.mem_of_getElem? (i := 4) rfl))) (mvT hZ (hw _ (List.mem_of_getElem? (i := 5) rfl))) (by decide) (backOf (W := 0) (rm1 l Z a0 hw [] b1 (f9 + (2 : Int32)) p4 (2 : Int32) q3 l_ _ h6 n0 Vl (own_pi f9 _ hf9_ (by decide) (by decide))) hZ (hw _ (List.mem_of_getElem? (i := 5) rfl)) (hw _ (List.mem_of_getElem? (i := 4) rfl)) (by decide) (by decide)) (g := (mkF m 120 #[.val (.long q1), .second, .val (.long q3), .second, .val (.int p4), .val (.int p5), .val (.int p6), .val (.int p7), .val (.ref b1), .val (.int f9), .val (.int t10), .val (.int n11), .val (.int t12), .val (.int t13), .unset, .unset, .unset, .unset, .unset] [(.long q3), (.int (2 : Int32)), (.int p4), (.int (f9 + (2 : Int32))), (.ref b1)])) rfl (by rw [hml]; rfl) (argsL := [(.ref b1), (.int (f9 + (2 : Int32))), (.int p4), (.int (2 : Int32)), (.long q3)]) (rest := []) (lenOf pd_1 rfl) rfl (by show 2 * 0 + _ ≤ _; exact Nat.le_of_eq rfl) (hb hby at_120) (fun _ _ => ⟨rfl, eh8, (by decide : 1 + 0 ≤ _), (by decide : 5 + 0 ≤ _)⟩)
  dsimp only [Pt.U, Pt.locs, Pt.cells, Pt.slots] at X9 l9 y9 z9 st9 hQ9
  subst l9 y9 z9
  obtain ⟨t14, rfl, N9q, eh9, hbt14⟩ := hQ9
  have N9 := Fr.app N8 N9q
  refine own_via st9 ?_
  show own_Rch p.tables e below (T9.setTop (mkF m 123 #[.val (.long q1), .second, .val (.long q3), .second, .val (.int p4), .val (.int p5), .val (.int p6), .val (.int p7), .val (.ref b1), .val (.int f9), .val (.int t10), .val (.int n11), .val (.int t12), .val (.int t13), .unset, .unset, .unset, .unset, .unset] [(.int t14)])) _
  refine own_via (fun t k => XS.istore X9.here hx rfl (hb hby at_123) rfl (l' := #[.val (.long q1), .second, .val (.long q3), .second, .val (.int p4), .val (.int p5), .val (.int p6), .val (.int p7), .val (.ref b1), .val (.int f9), .val (.int t10), .val (.int n11), .val (.int t12), .val (.int t13), .val (.int t14), .unset, .unset, .unset, .unset]) rfl k) ?_
  show own_Rch p.tables e below (T9.setTop (mkF m 125 #[.val (.long q1), .second, .val (.long q3), .second, .val (.int p4), .val (.int p5), .val (.int p6), .val (.int p7), .val (.ref b1), .val (.int f9), .val (.int t10), .val (.int n11), .val (.int t12), .val (.int t13), .val (.int t14), .unset, .unset, .unset, .unset] [])) _
  refine own_via (fun t k => XS.aload X9.here hx rfl (hb hby at_125) rfl rfl k) ?_
  show own_Rch p.tables e below (T9.setTop (mkF m 127 #[.val (.long q1), .second, .val (.long q3), .second, .val (.int p4), .val (.int p5), .val (.int p6), .val (.int p7), .val (.ref b1), .val (.int f9), .val (.int t10), .val (.int n11), .val (.int t12), .val (.int t13), .val (.int t14), .unset, .unset, .unset, .unset] [(.ref b1)])) _
  refine own_via (fun t k => XS.iload X9.here hx rfl (hb hby at_127) rfl k) ?_
  show own_Rch p.tables e below (T9.setTop (mkF m 129 #[.val (.long q1), .second, .val (.long q3), .second, .val (.int p4), .val (.int p5), .val (.int p6), .val (.int p7), .val (.ref b1), .val (.int f9), .val (.int t10), .val (.int n11), .val (.int t12), .val (.int t13), .val (.int t14), .unset, .unset, .unset, .unset] [(.int f9), (.ref b1)])) _
  refine own_via (fun t k => XS.iconst X9.here hx rfl (hb hby at_129) k) ?_
  show own_Rch p.tables e below (T9.setTop (mkF m 130 #[.val (.long q1), .second, .val (.long q3), .second, .val (.int p4), .val (.int p5), .val (.int p6), .val (.int p7), .val (.ref b1), .val (.int f9), .val (.int t10), .val (.int n11), .val (.int t12), .val (.int t13), .val (.int t14), .unset, .unset, .unset, .unset] [(.int (3 : Int32)), (.int f9), (.ref b1)])) _
  refine own_via (fun t k => XS.iadd X9.here hx rfl (hb hby at_130) rfl k) ?_
  show own_Rch p.tables e below (T9.setTop (mkF m 131 #[.val (.long q1), .second, .val (.long q3), .second, .val (.int p4), .val (.int p5), .val (.int p6), .val (.int p7), .val (.ref b1), .val (.int f9), .val (.int t10), .val (.int n11), .val (.int t12), .val (.int t13), .val (.int t14), .unset, .unset, .unset, .unset] [(.int (f9 + (3 : Int32))), (.ref b1)])) _
  refine own_via (fun t k => XS.iload X9.here hx rfl (hb hby at_131) rfl k) ?_
  show own_Rch p.tables e below (T9.setTop (mkF m 133 #[.val (.long q1), .second, .val (.long q3), .second, .val (.int p4), .val (.int p5), .val (.int p6), .val (.int p7), .val (.ref b1), .val (.int f9), .val (.int t10), .val (.int n11), .val (.int t12), .val (.int t13), .val (.int t14), .unset, .unset, .unset, .unset] [(.int p4), (.int (f9 + (3 : Int32))), (.ref b1)])) _
  refine own_via (fun t k => XS.iconst X9.here hx rfl (hb hby at_133) k) ?_
  show own_Rch p.tables e below (T9.setTop (mkF m 134 #[.val (.long q1), .second, .val (.long q3), .second, .val (.int p4), .val (.int p5), .val (.int p6), .val (.int p7), .val (.ref b1), .val (.int f9), .val (.int t10), .val (.int n11), .val (.int t12), .val (.int t13), .val (.int t14), .unset, .unset, .unset, .unset] [(.int (3 : Int32)), (.int p4), (.int (f9 + (3 : Int32))), (.ref b1)])) _
  refine own_via (fun t k => XS.lloadN X9.here hx rfl (hb hby at_134) rfl k) ?_
  show own_Rch p.tables e below (T9.setTop (mkF m 135 #[.val (.long q1), .second, .val (.long q3), .second, .val (.int p4), .val (.int p5), .val (.int p6), .val (.int p7), .val (.ref b1), .val (.int f9), .val (.int t10), .val (.int n11), .val (.int t12), .val (.int t13), .val (.int t14), .unset, .unset, .unset, .unset] [(.long q3), (.int (3 : Int32)), (.int p4), (.int (f9 + (3 : Int32))), (.ref b1)])) _
  obtain ⟨_, _, ⟨T10, L10, k10, n10⟩, -, X10, ⟨Lc10, hQ10, l10, y10, z10⟩, st10⟩ := Jvm.LawKit.callS X9 hx (y := (⟨"com/example/lastkey/lastkey/exec/TextFormatIsNullPinLaw", "pick", "([BIIIJ)B"⟩ : MethodName)) hown (mvT hZ (hw _ (List.mem_of_getElem? (i := 2) rfl))) (mvT hZ (hw _ (List.mem_of_getElem? (i := 3) rfl))) (mvT hZ (hw _ (List.mem_of_getElem? (i := 4) rfl))) (mvT hZ (hw _ (List.mem_of_getElem? (i := 5) rfl))) (by decide) (backOf (W := 0) (rm1 l Z a0 hw [] b1 (f9 + (3 : Int32)) p4 (3 : Int32) q3 l_ _ h6 n0 Vl (own_pi f9 _ hf9_ (by decide) (by decide))) hZ (hw _ (List.mem_of_getElem? (i := 5) rfl)) (hw _ (List.mem_of_getElem? (i := 4) rfl)) (by decide) (by decide)) (g := (mkF m 135 #[.val (.long q1), .second, .val (.long q3), .second, .val (.int p4), .val (.int p5), .val (.int p6), .val (.int p7), .val (.ref b1), .val (.int f9), .val (.int t10), .val (.int n11), .val (.int t12), .val (.int t13), .val (.int t14), .unset, .unset, .unset, .unset] [(.long q3), (.int (3 : Int32)), (.int p4), (.int (f9 + (3 : Int32))), (.ref b1)])) rfl (by rw [hml]; rfl) (argsL := [(.ref b1), (.int (f9 + (3 : Int32))), (.int p4), (.int (3 : Int32)), (.long q3)]) (rest := []) (lenOf pd_1 rfl) rfl (by show 2 * 0 + _ ≤ _; exact Nat.le_of_eq rfl) (hb hby at_135) (fun _ _ => ⟨rfl, eh9, (by decide : 1 + 0 ≤ _), (by decide : 5 + 0 ≤ _)⟩)
  dsimp only [Pt.U, Pt.locs, Pt.cells, Pt.slots] at X10 l10 y10 z10 st10 hQ10
  subst l10 y10 z10
  obtain ⟨t15, rfl, N10q, eh10, hbt15⟩ := hQ10
  have N10 := Fr.app N9 N10q
  refine own_via st10 ?_
  show own_Rch p.tables e below (T10.setTop (mkF m 138 #[.val (.long q1), .second, .val (.long q3), .second, .val (.int p4), .val (.int p5), .val (.int p6), .val (.int p7), .val (.ref b1), .val (.int f9), .val (.int t10), .val (.int n11), .val (.int t12), .val (.int t13), .val (.int t14), .unset, .unset, .unset, .unset] [(.int t15)])) _
  refine own_via (fun t k => XS.istore X10.here hx rfl (hb hby at_138) rfl (l' := #[.val (.long q1), .second, .val (.long q3), .second, .val (.int p4), .val (.int p5), .val (.int p6), .val (.int p7), .val (.ref b1), .val (.int f9), .val (.int t10), .val (.int n11), .val (.int t12), .val (.int t13), .val (.int t14), .val (.int t15), .unset, .unset, .unset]) rfl k) ?_
  show own_Rch p.tables e below (T10.setTop (mkF m 140 #[.val (.long q1), .second, .val (.long q3), .second, .val (.int p4), .val (.int p5), .val (.int p6), .val (.int p7), .val (.ref b1), .val (.int f9), .val (.int t10), .val (.int n11), .val (.int t12), .val (.int t13), .val (.int t14), .val (.int t15), .unset, .unset, .unset] [])) _
  refine own_via (fun t k => XS.aload X10.here hx rfl (hb hby at_140) rfl rfl k) ?_
  show own_Rch p.tables e below (T10.setTop (mkF m 142 #[.val (.long q1), .second, .val (.long q3), .second, .val (.int p4), .val (.int p5), .val (.int p6), .val (.int p7), .val (.ref b1), .val (.int f9), .val (.int t10), .val (.int n11), .val (.int t12), .val (.int t13), .val (.int t14), .val (.int t15), .unset, .unset, .unset] [(.ref b1)])) _
  refine own_via (fun t k => XS.iload X10.here hx rfl (hb hby at_142) rfl k) ?_
  show own_Rch p.tables e below (T10.setTop (mkF m 144 #[.val (.long q1), .second, .val (.long q3), .second, .val (.int p4), .val (.int p5), .val (.int p6), .val (.int p7), .val (.ref b1), .val (.int f9), .val (.int t10), .val (.int n11), .val (.int t12), .val (.int t13), .val (.int t14), .val (.int t15), .unset, .unset, .unset] [(.int f9), (.ref b1)])) _
  refine own_via (fun t k => XS.iconst X10.here hx rfl (hb hby at_144) k) ?_
  show own_Rch p.tables e below (T10.setTop (mkF m 145 #[.val (.long q1), .second, .val (.long q3), .second, .val (.int p4), .val (.int p5), .val (.int p6), .val (.int p7), .val (.ref b1), .val (.int f9), .val (.int t10), .val (.int n11), .val (.int t12), .val (.int t13), .val (.int t14), .val (.int t15), .unset, .unset, .unset] [(.int (4 : Int32)), (.int f9), (.ref b1)])) _
  refine own_via (fun t k => XS.iadd X10.here hx rfl (hb hby at_145) rfl k) ?_
  show own_Rch p.tables e below (T10.setTop (mkF m 146 #[.val (.long q1), .second, .val (.long q3), .second, .val (.int p4), .val (.int p5), .val (.int p6), .val (.int p7), .val (.ref b1), .val (.int f9), .val (.int t10), .val (.int n11), .val (.int t12), .val (.int t13), .val (.int t14), .val (.int t15), .unset, .unset, .unset] [(.int (f9 + (4 : Int32))), (.ref b1)])) _
  refine own_via (fun t k => XS.iload X10.here hx rfl (hb hby at_146) rfl k) ?_
  show own_Rch p.tables e below (T10.setTop (mkF m 148 #[.val (.long q1), .second, .val (.long q3), .second, .val (.int p4), .val (.int p5), .val (.int p6), .val (.int p7), .val (.ref b1), .val (.int f9), .val (.int t10), .val (.int n11), .val (.int t12), .val (.int t13), .val (.int t14), .val (.int t15), .unset, .unset, .unset] [(.int p4), (.int (f9 + (4 : Int32))), (.ref b1)])) _
  refine own_via (fun t k => XS.iconst X10.here hx rfl (hb hby at_148) k) ?_
  show own_Rch p.tables e below (T10.setTop (mkF m 149 #[.val (.long q1), .second, .val (.long q3), .second, .val (.int p4), .val (.int p5), .val (.int p6), .val (.int p7), .val (.ref b1), .val (.int f9), .val (.int t10), .val (.int n11), .val (.int t12), .val (.int t13), .val (.int t14), .val (.int t15), .unset, .unset, .unset] [(.int (4 : Int32)), (.int p4), (.int (f9 + (4 : Int32))), (.ref b1)])) _
  refine own_via (fun t k => XS.lloadN X10.here hx rfl (hb hby at_149) rfl k) ?_
  show own_Rch p.tables e below (T10.setTop (mkF m 150 #[.val (.long q1), .second, .val (.long q3), .second, .val (.int p4), .val (.int p5), .val (.int p6), .val (.int p7), .val (.ref b1), .val (.int f9), .val (.int t10), .val (.int n11), .val (.int t12), .val (.int t13), .val (.int t14), .val (.int t15), .unset, .unset, .unset] [(.long q3), (.int (4 : Int32)), (.int p4), (.int (f9 + (4 : Int32))), (.ref b1)])) _
  obtain ⟨_, _, ⟨T11, L11, k11, n11⟩, -, X11, ⟨Lc11, hQ11, l11, y11, z11⟩, st11⟩ := Jvm.LawKit.callS X10 hx (y := (⟨"com/example/lastkey/lastkey/exec/TextFormatIsNullPinLaw", "pick", "([BIIIJ)B"⟩ : MethodName)) hown (mvT hZ (hw _ (List.mem_of_getElem? (i := 2) rfl))) (mvT hZ (hw _ (List.mem_of_getElem? (i := 3) rfl))) (mvT hZ (hw _ (List.mem_of_getElem? (i := 4) rfl))) (mvT hZ (hw _ (List.mem_of_getElem? (i := 5) rfl))) (by decide) (backOf (W := 0) (rm1 l Z a0 hw [] b1 (f9 + (4 : Int32)) p4 (4 : Int32) q3 l_ _ h6 n0 Vl (own_pi f9 _ hf9_ (by decide) (by decide))) hZ (hw _ (List.mem_of_getElem? (i := 5) rfl)) (hw _ (List.mem_of_getElem? (i := 4) rfl)) (by decide) (by decide)) (g := (mkF m 150 #[.val (.long q1), .second, .val (.long q3), .second, .val (.int p4), .val (.int p5), .val (.int p6), .val (.int p7), .val (.ref b1), .val (.int f9), .val (.int t10), .val (.int n11), .val (.int t12), .val (.int t13), .val (.int t14), .val (.int t15), .unset, .unset, .unset] [(.long q3), (.int (4 : Int32)), (.int p4), (.int (f9 + (4 : Int32))), (.ref b1)])) rfl (by rw [hml]; rfl) (argsL := [(.ref b1), (.int (f9 + (4 : Int32))), (.int p4), (.int (4 : Int32)), (.long q3)]) (rest := []) (lenOf pd_1 rfl) rfl (by show 2 * 0 + _ ≤ _; exact Nat.le_of_eq rfl) (hb hby at_150) (fun _ _ => ⟨rfl, eh10, (by decide : 1 + 0 ≤ _), (by decide : 5 + 0 ≤ _)⟩)
  dsimp only [Pt.U, Pt.locs, Pt.cells, Pt.slots] at X11 l11 y11 z11 st11 hQ11
  subst l11 y11 z11
  obtain ⟨t16, rfl, N11q, eh11, hbt16⟩ := hQ11
  have N11 := Fr.app N10 N11q
  refine own_via st11 ?_
  show own_Rch p.tables e below (T11.setTop (mkF m 153 #[.val (.long q1), .second, .val (.long q3), .second, .val (.int p4), .val (.int p5), .val (.int p6), .val (.int p7), .val (.ref b1), .val (.int f9), .val (.int t10), .val (.int n11), .val (.int t12), .val (.int t13), .val (.int t14), .val (.int t15), .unset, .unset, .unset] [(.int t16)])) _
  refine own_via (fun t k => XS.istore X11.here hx rfl (hb hby at_153) rfl (l' := #[.val (.long q1), .second, .val (.long q3), .second, .val (.int p4), .val (.int p5), .val (.int p6), .val (.int p7), .val (.ref b1), .val (.int f9), .val (.int t10), .val (.int n11), .val (.int t12), .val (.int t13), .val (.int t14), .val (.int t15), .val (.int t16), .unset, .unset]) rfl k) ?_
  show own_Rch p.tables e below (T11.setTop (mkF m 155 #[.val (.long q1), .second, .val (.long q3), .second, .val (.int p4), .val (.int p5), .val (.int p6), .val (.int p7), .val (.ref b1), .val (.int f9), .val (.int t10), .val (.int n11), .val (.int t12), .val (.int t13), .val (.int t14), .val (.int t15), .val (.int t16), .unset, .unset] [])) _
  rcases own_six n11 hn11_ with rfl | rfl | rfl | rfl | rfl | rfl
  · exact tl_0 q1 q3 p4 p5 p6 p7 b1 f9 t10 t12 t13 t14 t15 t16 l_ _ X11 hx hZ hw hby hml hown Bd.returns Bd.notSynchronized eh11 N11 (Nat.le_trans (Nat.le_trans (Nat.le_trans (Nat.le_trans (Nat.le_trans (Nat.le_trans Z0 E1.1) (Keep.of_wr W2).1) (Keep.of_wr W3).1) (Keep.of_wr W4).1) (Keep.of_wr W5).1) (Keep.of_wr W6).1) Vl hf9_.1 ht10_.2 ht10_.1 hbt12 hbt13 hbt14 hbt15 hbt16
  · exact tl_1 q1 q3 p4 p5 p6 p7 b1 f9 t10 t12 t13 t14 t15 t16 l_ _ X11 hx hZ hw hby hml hown Bd.returns Bd.notSynchronized eh11 N11 (Nat.le_trans (Nat.le_trans (Nat.le_trans (Nat.le_trans (Nat.le_trans (Nat.le_trans Z0 E1.1) (Keep.of_wr W2).1) (Keep.of_wr W3).1) (Keep.of_wr W4).1) (Keep.of_wr W5).1) (Keep.of_wr W6).1) Vl hf9_.1 ht10_.2 ht10_.1 hbt12 hbt13 hbt14 hbt15 hbt16
  · exact tl_2 q1 q3 p4 p5 p6 p7 b1 f9 t10 t12 t13 t14 t15 t16 l_ _ X11 hx hZ hw hby hml hown Bd.returns Bd.notSynchronized eh11 N11 (Nat.le_trans (Nat.le_trans (Nat.le_trans (Nat.le_trans (Nat.le_trans (Nat.le_trans Z0 E1.1) (Keep.of_wr W2).1) (Keep.of_wr W3).1) (Keep.of_wr W4).1) (Keep.of_wr W5).1) (Keep.of_wr W6).1) Vl hf9_.1 ht10_.2 ht10_.1 hbt12 hbt13 hbt14 hbt15 hbt16
  · exact tl_3 q1 q3 p4 p5 p6 p7 b1 f9 t10 t12 t13 t14 t15 t16 l_ _ X11 hx hZ hw hby hml hown Bd.returns Bd.notSynchronized eh11 N11 (Nat.le_trans (Nat.le_trans (Nat.le_trans (Nat.le_trans (Nat.le_trans (Nat.le_trans Z0 E1.1) (Keep.of_wr W2).1) (Keep.of_wr W3).1) (Keep.of_wr W4).1) (Keep.of_wr W5).1) (Keep.of_wr W6).1) Vl hf9_.1 ht10_.2 ht10_.1 hbt12 hbt13 hbt14 hbt15 hbt16
  · exact tl_4 q1 q3 p4 p5 p6 p7 b1 f9 t10 t12 t13 t14 t15 t16 l_ _ X11 hx hZ hw hby hml hown Bd.returns Bd.notSynchronized eh11 N11 (Nat.le_trans (Nat.le_trans (Nat.le_trans (Nat.le_trans (Nat.le_trans (Nat.le_trans Z0 E1.1) (Keep.of_wr W2).1) (Keep.of_wr W3).1) (Keep.of_wr W4).1) (Keep.of_wr W5).1) (Keep.of_wr W6).1) Vl hf9_.1 ht10_.2 ht10_.1 hbt12 hbt13 hbt14 hbt15 hbt16
  · exact tl_5 q1 q3 p4 p5 p6 p7 b1 f9 t10 t12 t13 t14 t15 t16 l_ _ X11 hx hZ hw hby hml hown Bd.returns Bd.notSynchronized eh11 N11 (Nat.le_trans (Nat.le_trans (Nat.le_trans (Nat.le_trans (Nat.le_trans (Nat.le_trans Z0 E1.1) (Keep.of_wr W2).1) (Keep.of_wr W3).1) (Keep.of_wr W4).1) (Keep.of_wr W5).1) (Keep.of_wr W6).1) Vl hf9_.1 ht10_.2 ht10_.1 hbt12 hbt13 hbt14 hbt15 hbt16
set_option maxRecDepth 65536 in
set_option maxHeartbeats 40000000 in
theorem comes_1 {Post : Tables → Env → Array Value → State → Outcome → State → Prop} (hpost : ∀ tb e args s v u, (limb_1_1.after args s (.returned v) u = true ∧ limb_1_2.after args s (.returned v) u = true ∧ True) → FrameEnd s (.returned v) u (Jvm.fieldLocs frame_1_writes args s ++ Jvm.arrayLocs frame_1_arrays args s ++ Jvm.staticLocs frame_1_statics s) 16 128 → Post tb e args s (.returned v) u) :
    ArmFor flags0 classFile x code maxLocals ret World_1 tables_1 room_1 Calls_1 rest_1 Pre_1 Post := by
  intro l hfl _ _ p e ha hc hk s m args below hf hA hF happ hP
  obtain ⟨hcalls, hrest, hpre⟩ := hP
  obtain ⟨-, -, -, hnamed, -, -, -, hat⟩ := (Spec.applies_iff hf).mp happ
  obtain ⟨hg, hn⟩ := and_e (Cond.before_iff.mp (show (Jvm.Cond.and given_1 narrow_1).before args s = true from hpre))
  obtain ⟨hcount, r0⟩ := and_e hg
  obtain ⟨v0, r1⟩ := and_e r0
  obtain ⟨v1, r2⟩ := and_e r1
  obtain ⟨v2, r3⟩ := and_e r2
  obtain ⟨v3, r4⟩ := and_e r3
  obtain ⟨v4, r5⟩ := and_e r4
  obtain ⟨w0, w1, w2, w3, w4, w5, rfl⟩ : ∃ w0 w1 w2 w3 w4 w5 : Value, args = #[w0, w1, w2, w3, w4, w5] := by
    have hs : args.size = 6 := by simpa [Cond.value, given_1] using hcount
    obtain ⟨L⟩ := args
    match L, hs with
    | [w0, w1, w2, w3, w4, w5], _ => exact ⟨w0, w1, w2, w3, w4, w5, rfl⟩
  have hw := fun d (hd : d ∈ tables_1) => atoms_spec (ws := Jvm.Cond.code x code maxLocals ret :: tables_1) hat d (List.mem_cons_of_mem _ hd)
  have hfit : Fit s := fun {y c} hc i hi => by
    obtain ⟨ha, rfl⟩ := Array.getElem?_eq_some_iff.mp hc
    have q := List.all_eq_true.mp ((Array.all_eq_true_iff_forall_mem.mp hF) _ (Array.getElem_mem ha)) i (List.mem_range.mpr hi)
    simpa [Array.getElem?_eq_getElem hi] using q
  obtain ⟨i0, ei0⟩ := isL_v v0
  obtain rfl : w0 = (.long i0) := Option.some.inj ei0
  obtain ⟨i1, ei1⟩ := isL_v v1
  obtain rfl : w1 = (.long i1) := Option.some.inj ei1
  obtain ⟨i2, ei2⟩ := is_v v2
  obtain rfl : w2 = (.int i2) := Option.some.inj ei2
  obtain ⟨i3, ei3⟩ := is_v v3
  obtain rfl : w3 = (.int i3) := Option.some.inj ei3
  obtain ⟨i4, ei4⟩ := is_v v4
  obtain rfl : w4 = (.int i4) := Option.some.inj ei4
  obtain ⟨i5, ei5⟩ := is_v r5
  obtain rfl : w5 = (.int i5) := Option.some.inj ei5
  obtain ⟨n, o, h1, h2, h3, _, L, rfl, ⟨rfl, N⟩, hq⟩ := rm0 l s _ hw tables_1 i0 i1 i2 i3 i4 i5 s.heap s.heap.size (Nat.le_refl _) p e ha hc hk s m _ below hf ((Spec.applies_iff_loose hf).mp happ).1 ⟨rfl, State.Warmed39.refl s, rfl⟩ trivial
  refine ⟨n, _, h1, h2, h3, hpost _ _ _ _ _ _ ⟨Cond.after_iff.mpr rfl, Cond.after_iff.mpr (eq_i res_at (Term.int_eval (1)) rfl), trivial⟩ ⟨hq.1, hq.2.1, (hq.2.2.sift fun y hy => Or.inr (N y hy)).mono (by decide) (by decide)⟩⟩
theorem main_1_1 : Claimed_1_1 := comes_1 fun _ _ _ _ _ _ h hF => ⟨h.1, hF⟩
theorem main_1_2 : Claimed_1_2 := comes_1 fun _ _ _ _ _ _ h hF => ⟨h.2.1, hF⟩
end Jvm.Pilot.@@N@@
namespace Jvm.Pilot.@@N@@
open Jvm Jvm.ClassFile Sem Op Lib Jvm.Free Jvm.Stand Jvm.Pilot.@@N@@.Jvm.D
/-! MADE BY PROGRAM (witnessworld.py) out of the Statement's table words and the real class files: 9 classes; the members and pool entries that the words name. The judged class is class 1, her method 2. -/
namespace start1
open Jvm.ClassFile
def u (s : String) : CpInfo := .utf8 (stringToUtf16 s)
/-- a pool by its gaps: so many unusable entries, then the entry; so many at the end -/
def gap : Nat → List CpInfo → List CpInfo
  | 0, r => r
  | n + 1, r => .unusable :: gap n r
def poolList (es : List (Nat × CpInfo)) (last : Nat) : List CpInfo := es.foldr (fun e r => gap e.1 (e.2 :: r)) (gap last [])
def pool (es : List (Nat × CpInfo)) (last : Nat) : Array CpInfo := ⟨poolList es last⟩
def fileOf (pool : Array CpInfo) (this : Nat) (attrs : Array Attribute := #[]) (ms : Array MethodInfo := #[]) (fl : Nat := 33) (sup : Nat := 0) (ifs : Array Nat := #[]) (fds : Array FieldInfo := #[]) : ClassFile where
  minorVersion := 0
  majorVersion := 65
  constantPool := pool
  accessFlags := fl
  thisClass := this
  superClass := sup
  interfaces := ifs
  fields := fds
  methods := ms
  attributes := attrs
def plain (name : String) (sup : Option ClassId) : Class where
  name := name
  kind := .ordinary
  loader := none
  accessFlags := 33
  super := sup
  interfaces := #[]
  cf := none
  fields := #[]
  methods := #[]
  instanceTypes := #[]
  staticTypes := #[]
  resolved := #[]
  callSites := []
  init := .initialized
  statics := none
  mirror := none

def pool0 : Array CpInfo := pool [(5, u "<init>"), (0, u "()V"), (1, .class_ 10), (1, u "java/lang/Object")] 113

def k0m0 : Method := { name := "<init>", desc := "()V", sig := { parameters := [], returnType := none }, accessFlags := 1, code := none }
/-- java/lang/Object -/
def k0 : Class := { plain "java/lang/Object" none with
  accessFlags := 33
  interfaces := #[]
  cf := some (fileOf pool0 8 #[] #[{ accessFlags := 1, nameIndex := 5, descriptorIndex := 6, attributes := #[] }] 33 0 #[] #[])
  fields := #[]
  methods := #[k0m0]
  instanceTypes := #[]
  staticTypes := #[]
  resolved := Array.replicate 124 none
  statics := none }

def pool1 : Array CpInfo := pool [(2, .class_ 4), (1, u "java/lang/Object"), (0, u "<init>"), (0, u "()V"), (0, .integer 2147483647), (0, .methodref 9 10), (0, .class_ 11), (0, .nameAndType 12 13), (0, u "com/example/lastkey/lastkey/exec/TextFormatIsNullPinLaw"), (0, u "pick"), (0, u "([BIIIJ)B"), (0, .methodref 15 16), (0, .class_ 17), (0, .nameAndType 18 19), (0, u "com/example/lastkey/lastkey/exec/TextFormat"), (0, u "isNull"), (0, u "([BII[B)Z"), (3, u "law"), (0, u "(JJIIII)Z")] 4

def k1m0 : Method := { name := "<init>", desc := "()V", sig := { parameters := [], returnType := none }, accessFlags := 1, code := none }
def k1c1 : Code := { maxStack := 4, maxLocals := 9, code := method_2_code, exceptionTable := #[], attributes := #[] }
def k1m1 : Method := { name := "pick", desc := "([BIIIJ)B", sig := { parameters := [(.array .byte), .int, .int, .int, .long], returnType := some .byte }, accessFlags := 10, code := some k1c1 }
def k1c2 : Code := { maxStack := 6, maxLocals := 19, code := code, exceptionTable := #[], attributes := #[] }
def k1m2 : Method := { name := "law", desc := "(JJIIII)Z", sig := { parameters := [.long, .long, .int, .int, .int, .int], returnType := some .boolean }, accessFlags := 9, code := some k1c2 }
/-- com/example/lastkey/lastkey/exec/TextFormatIsNullPinLaw -/
def k1 : Class := { plain "com/example/lastkey/lastkey/exec/TextFormatIsNullPinLaw" (some 0) with
  accessFlags := 49
  interfaces := #[]
  cf := some (fileOf pool1 9 #[] #[{ accessFlags := 1, nameIndex := 5, descriptorIndex := 6, attributes := #[] }, { accessFlags := 10, nameIndex := 12, descriptorIndex := 13, attributes := #[] }, { accessFlags := 9, nameIndex := 23, descriptorIndex := 24, attributes := #[] }] 49 2 #[] #[])
  fields := #[]
  methods := #[k1m0, k1m1, k1m2]
  instanceTypes := #[]
  staticTypes := #[]
  resolved := Array.replicate 29 none
  statics := none }

def pool2 : Array CpInfo := pool [(2, .class_ 4), (1, u "java/lang/Object"), (0, u "<init>"), (0, u "()V"), (23, .class_ 32), (1, u "com/example/lastkey/lastkey/exec/TextFormat"), (0, u "NULL"), (0, u "[B"), (2, u "isNull"), (2, u "([BII[B)Z")] 4

def k2m0 : Method := { name := "<init>", desc := "()V", sig := { parameters := [], returnType := none }, accessFlags := 2, code := none }
def k2c1 : Code := { maxStack := 3, maxLocals := 5, code := prog_61_method_3_code, exceptionTable := #[], attributes := #[] }
def k2m1 : Method := { name := "isNull", desc := "([BII[B)Z", sig := { parameters := [(.array .byte), .int, .int, (.array .byte)], returnType := some .boolean }, accessFlags := 8, code := some k2c1 }
/-- com/example/lastkey/lastkey/exec/TextFormat -/
def k2 : Class := { plain "com/example/lastkey/lastkey/exec/TextFormat" (some 0) with
  accessFlags := 48
  interfaces := #[]
  cf := some (fileOf pool2 30 #[] #[{ accessFlags := 2, nameIndex := 5, descriptorIndex := 6, attributes := #[] }, { accessFlags := 8, nameIndex := 37, descriptorIndex := 40, attributes := #[] }] 48 2 #[] #[{ accessFlags := 24, nameIndex := 33, descriptorIndex := 34, attributes := #[] }])
  fields := #[{ name := "NULL", type := (.array .byte), accessFlags := 24, slot := 0, constantValue := 0 }]
  methods := #[k2m0, k2m1]
  instanceTypes := #[]
  staticTypes := #[(.array .byte)]
  resolved := Array.replicate 45 none
  statics := none }

def pool3 : Array CpInfo := pool [(1, u "java/lang/Cloneable"), (0, .class_ 1), (0, u "java/lang/Object"), (0, .class_ 3)] 3

/-- java/lang/Cloneable -/
def k3 : Class := { plain "java/lang/Cloneable" (some 0) with
  accessFlags := 1537
  interfaces := #[]
  cf := some (fileOf pool3 2 #[] #[] 1537 4 #[] #[])
  fields := #[]
  methods := #[]
  instanceTypes := #[]
  staticTypes := #[]
  resolved := Array.replicate 8 none
  statics := none }

def pool4 : Array CpInfo := pool [(1, u "java/io/Serializable"), (0, .class_ 1), (0, u "java/lang/Object"), (0, .class_ 3)] 3

/-- java/io/Serializable -/
def k4 : Class := { plain "java/io/Serializable" (some 0) with
  accessFlags := 1537
  interfaces := #[]
  cf := some (fileOf pool4 2 #[] #[] 1537 4 #[] #[])
  fields := #[]
  methods := #[]
  instanceTypes := #[]
  staticTypes := #[]
  resolved := Array.replicate 8 none
  statics := none }

/-- the primitive byte -/
def k5 : Class := { plain "byte" none with kind := .primitive 'B', accessFlags := 0x411 }
/-- [B -/
def k6 : Class := { plain "[B" (some 0) with kind := .array 5 .byte, interfaces := #[3, 4], accessFlags := 1041 }

/-- the primitive int -/
def k7 : Class := { plain "int" none with kind := .primitive 'I', accessFlags := 0x411 }
/-- [I -/
def k8 : Class := { plain "[I" (some 0) with kind := .array 7 .int, interfaces := #[3, 4], accessFlags := 1041 }

def heap : Heap := #[]
def classes : Array Class := #[k0, k1, k2, k3, k4, k5, k6, k7, k8]
def interned : List (Array UInt16 × Addr) := []
def slotsUsed : Nat := 0
def theMethod : MethodId := ⟨1, 2⟩
def args0 : Array Value := #[.long 7, .long 7, .int 5, .int 5, .int 5, .int 5]
def aboutOver (below : List Frame) : State where
  vm := { classes := classes, interned := interned.toArray }
  heap := heap
  slotsUsed := slotsUsed
  threads := #[{ frames := .invoking theMethod args0 :: below }]
def below0 : List Frame := [.native { method := ⟨0, 0⟩, args := #[] }]
def about1 : State := aboutOver below0
def p0 : Program := .bare "" "" ""
def e0 : Env := launch0.env 0 0 0
theorem w_frames : about1.frames = Frame.invoking theMethod args0 :: below0 := rfl
set_option maxRecDepth 65536 in
theorem w_args : argsFit about1.vm theMethod args0 = true := by decide +kernel
set_option maxRecDepth 65536 in
theorem w_heap : heapFits about1 = true := by decide +kernel
set_option maxRecDepth 65536 in
theorem w_runnable : about1.curStatus? = some .runnable := by decide +kernel
set_option maxRecDepth 65536 in
theorem w_alone : about1.alone = true := by decide +kernel
set_option maxRecDepth 65536 in
theorem w_named : about1.methodNamed? x = some theMethod := by decide +kernel
set_option maxRecDepth 65536 in
theorem w_hears : about1.hears theMethod below0 = true := by decide +kernel
set_option maxRecDepth 65536 in
theorem w_ripe : about1.ripe theMethod args0 below0 = true := by decide +kernel
theorem w_running : about1.status = .running := rfl
set_option maxRecDepth 65536 in
theorem w_room : about1.hasRoom e0.platform room_1 = true :=
  launch0.hasRoom_least _ room_1 (by decide +kernel) (by decide +kernel) (by decide +kernel) (by decide +kernel) (by decide +kernel) (by decide +kernel)
theorem allAtoms_all (ts : List Jvm.Cond) (a : Array Jvm.Value) (st : Jvm.State) : (allAtoms ts).before a st = ts.all (fun c => c.before a st) := by
  induction ts with
  | nil => rfl
  | cons c t ih =>
    show (Jvm.Cond.and c (allAtoms t)).before a st = _
    rw [Jvm.Cond.before_and, ih, List.all_cons]
def words1 : List Jvm.Cond := Jvm.Cond.code x code maxLocals ret :: tables_1
/-- a 'code' word, met by the world's own term for the bytes: nothing is compared byte by byte -/
theorem code_word {y : MethodName} {bytes : ByteArray} {mx : Nat} {rt : Option FieldType} {a : Array Value} {s : State} {m : MethodId} {meth : Method} {c : Code} (h1 : s.methodNamed? y = some m) (h2 : s.vm.method? m = some meth) (h3 : meth.code = some c) (h4 : c.code = bytes)
    (h5 : (c.maxLocals == mx && c.exceptionTable.isEmpty && decide (c.maxStack ≤ mostOperands) && decide (meth.sig.returnType = rt) && !meth.locks && decide (parseMethodDescriptor y.desc = some meth.sig)) = true) : (Jvm.Cond.code y bytes mx rt).before a s = true := by
  simp only [Bool.and_eq_true, beq_iff_eq, Bool.not_eq_true', decide_eq_true_eq] at h5
  obtain ⟨⟨⟨⟨⟨g1, g2⟩, g3⟩, g4⟩, g5⟩, g6⟩ := h5
  simp [Cond.before, Cond.holds, Cond.value, h1, h2, h3, h4, g1, g2, g3, g4, g5, g6]
def isCode : Jvm.Cond → Bool
  | .code _ _ _ _ => true
  | _ => false
theorem all_split {L : List Jvm.Cond} {P : Jvm.Cond → Bool} (h1 : L.all (fun c => isCode c || P c) = true) (h2 : ∀ c ∈ L.filter isCode, P c = true) : L.all P = true := by
  refine List.all_eq_true.mpr fun c hc => ?_
  have h := List.all_eq_true.mp h1 c hc
  rcases Bool.eq_false_or_eq_true (isCode c) with hi | hi
  · exact h2 c (List.mem_filter.mpr ⟨hc, hi⟩)
  · simpa [hi] using h
set_option maxRecDepth 65536 in
theorem w_c0 : (Jvm.Cond.code x code maxLocals ret).before args0 about1 = true := code_word (m := ⟨1, 2⟩) (meth := k1m2) (c := k1c2) (by decide +kernel) rfl rfl rfl (by decide +kernel)
set_option maxRecDepth 65536 in
theorem w_c1 : (Jvm.Cond.code ({ cls := "com/example/lastkey/lastkey/exec/TextFormatIsNullPinLaw", name := "pick", desc := "([BIIIJ)B" } : Jvm.MethodName) method_2_code (9 : Nat) (Option.some Jvm.ClassFile.FieldType.byte)).before args0 about1 = true := code_word (m := ⟨1, 1⟩) (meth := k1m1) (c := k1c1) (by decide +kernel) rfl rfl rfl (by decide +kernel)
set_option maxRecDepth 65536 in
theorem w_c2 : (Jvm.Cond.code ({ cls := "com/example/lastkey/lastkey/exec/TextFormat", name := "isNull", desc := "([BII[B)Z" } : Jvm.MethodName) prog_61_method_3_code (5 : Nat) (Option.some Jvm.ClassFile.FieldType.boolean)).before args0 about1 = true := code_word (m := ⟨2, 1⟩) (meth := k2m1) (c := k2c1) (by decide +kernel) rfl rfl rfl (by decide +kernel)
def codes1 : List Jvm.Cond := [Jvm.Cond.code x code maxLocals ret, Jvm.Cond.code ({ cls := "com/example/lastkey/lastkey/exec/TextFormatIsNullPinLaw", name := "pick", desc := "([BIIIJ)B" } : Jvm.MethodName) method_2_code (9 : Nat) (Option.some Jvm.ClassFile.FieldType.byte), Jvm.Cond.code ({ cls := "com/example/lastkey/lastkey/exec/TextFormat", name := "isNull", desc := "([BII[B)Z" } : Jvm.MethodName) prog_61_method_3_code (5 : Nat) (Option.some Jvm.ClassFile.FieldType.boolean)]
set_option maxRecDepth 65536 in
theorem codes_eq : words1.filter isCode = codes1 := rfl
theorem w_codes : ∀ c ∈ words1.filter isCode, c.before args0 about1 = true := by
  rw [codes_eq]
  intro c hc
  simp only [codes1, List.mem_cons, List.not_mem_nil, or_false] at hc
  rcases hc with rfl | rfl | rfl
  · exact w_c0
  · exact w_c1
  · exact w_c2
set_option maxRecDepth 65536 in
theorem w_t1 : words1.all (fun c => isCode c || c.before args0 about1) = true := by decide +kernel
theorem w_tables : (allAtoms (Jvm.Cond.code x code maxLocals ret :: tables_1)).before args0 about1 = true := by
  rw [allAtoms_all]
  show words1.all (fun c => c.before args0 about1) = true
  refine all_split ?_ w_codes
  rw [w_t1]
set_option maxRecDepth 65536 in
theorem w_case : (Jvm.Cond.and given_1 narrow_1).before args0 about1 = true := by decide +kernel
theorem w_applies : (headSpec (Jvm.Cond.code x code maxLocals ret :: tables_1) room_1).applies x e0.platform about1 = true :=
  (Spec.applies_iff w_frames).mpr ⟨w_running, w_runnable, w_alone, w_named, w_hears, w_ripe, w_room, w_tables⟩
theorem atStart : AtStart classFile x code maxLocals ret World_1 tables_1 room_1 Calls_1 rest_1 Pre_1 launch0 p0 e0 about1 theMethod args0 below0 :=
  ⟨lists_1, trivial, launch0.admits_env _ _ _, launch0.least_env, fairChoices_fair.cas, fairChoices_fair.clock, w_frames, w_args, w_heap, w_applies, trivial, trivial, w_case⟩
end start1
theorem witness_1 : WitnessClaimed_1 := ⟨start1.p0, start1.e0, start1.about1, start1.theMethod, start1.args0, start1.below0, start1.atStart⟩
end Jvm.Pilot.@@N@@
