import JvmDerived
import JvmDerived.Pilot.@@N@@Statement
import JvmDerived.Pilot.@@N@@Code
set_option linter.unusedVariables false
set_option linter.unusedSimpArgs false

namespace Jvm.Pilot.@@N@@
open Jvm Jvm.ClassFile Sem Op Lib Jvm.Free Jvm.Stand Jvm.LawKit Jvm.RoadKit Bundle Jvm.Pilot.@@N@@.Jvm.D
/-! the walk's own frame: a goal that goes forward step by step -/
def Go (p : Program) (e : Env) (below : List Frame) (P : State → Outcome → Prop) (A : State) : Prop := ∃ s₂ o, Steps p.tables e below A s₂ ∧ P s₂ o
theorem go {p : Program} {e : Env} {below : List Frame} {P : State → Outcome → Prop} {A B : State} (h : ∀ t, Steps p.tables e below B t → Steps p.tables e below A t) (k : Go p e below P B) : Go p e below P A := by
  obtain ⟨t, o, a, b⟩ := k
  exact ⟨t, o, h t a, b⟩
def PP (s : State) (below : List Frame) (Q : Option Value → Heap → List Loc → Prop) (ce sl : Nat) (s₂ : State) (o : Outcome) : Prop := s₂.status = .running ∧ Ended s₂ below o ∧ ∃ v L, o = .returned v ∧ Q v s₂.heap L ∧ FrameEnd s o s₂ L ce sl
theorem leaf {p : Program} {e : Env} {s A : State} {below : List Frame} {Q : Option Value → Heap → List Loc → Prop} {ce sl : Nat} {T : State} {v : Option Value} {locs : List Loc} {cells slots : Nat}
    (h : ∃ fs, Steps p.tables e below A (T.setFrames fs) ∧ (T.setFrames fs).status = .running ∧ Ended (T.setFrames fs) below (.returned v) ∧ s.WarmedH (T.setFrames fs).vm ∧ s.sameButNew ({ T.setFrames fs with vm := s.vm } : State) locs cells slots)
    (hQ : Q v T.heap locs) (hc : cells ≤ ce) (hs : slots ≤ sl) : Go p e below (PP s below Q ce sl) A := by
  obtain ⟨fs, h1, h2, h3, h4, h5⟩ := h
  exact ⟨_, _, h1, h2, h3, v, locs, rfl, hQ, ⟨_, rfl⟩, h4, h5.mono hc hs⟩
theorem retI {p : Program} {l : Launch} {e : Env} {R : Room} {s : State} {m : MethodId} {args : Array Value} {below : List Frame} {meth : Method} {c : Code} {T : State} {locs : List Loc} {cells slots : Nat} (X : Stand p l e R s m args below meth c T locs cells slots) (hx : p.tables.exec = Jvm.exec) {pc : Nat} {Ls : Array Slot} {z : Int32} {rest : List Value} (hret : meth.sig.returnType = some .int) (hd : decode c.code pc = .ok (.ireturn, 1)) {fs : List Frame}
    (hl : ∀ (f : JFrame) (acts : List Action), f.method = m → f.locked = none → f.entered = [] → (doReturn e (T.setTop f) acts (some (.int z))).1 = T.setFrames fs) : Steps p.tables e below (T.setTop (mkF m pc Ls (.int z :: rest))) (T.setFrames fs) :=
  retOut X hx hret rfl (Or.inl ⟨rfl, Or.inl rfl, z, rfl⟩) hd hl
theorem retJ {p : Program} {l : Launch} {e : Env} {R : Room} {s : State} {m : MethodId} {args : Array Value} {below : List Frame} {meth : Method} {c : Code} {T : State} {locs : List Loc} {cells slots : Nat} (X : Stand p l e R s m args below meth c T locs cells slots) (hx : p.tables.exec = Jvm.exec) {pc : Nat} {Ls : Array Slot} {z : Int64} {rest : List Value} (hret : meth.sig.returnType = some .long) (hd : decode c.code pc = .ok (.lreturn, 1)) {fs : List Frame}
    (hl : ∀ (f : JFrame) (acts : List Action), f.method = m → f.locked = none → f.entered = [] → (doReturn e (T.setTop f) acts (some (.long z))).1 = T.setFrames fs) : Steps p.tables e below (T.setTop (mkF m pc Ls (.long z :: rest))) (T.setFrames fs) :=
  retOut X hx hret rfl (Or.inr (Or.inl ⟨rfl, rfl, z, rfl⟩)) hd hl
theorem retA {p : Program} {l : Launch} {e : Env} {R : Room} {s : State} {m : MethodId} {args : Array Value} {below : List Frame} {meth : Method} {c : Code} {T : State} {locs : List Loc} {cells slots : Nat} (X : Stand p l e R s m args below meth c T locs cells slots) (hx : p.tables.exec = Jvm.exec) {pc : Nat} {Ls : Array Slot} {w : Value} {t : FieldType} {rest : List Value} (hret : meth.sig.returnType = some t) (ht : t.isReference = true) (hw : w.isRef = true) (hn : narrow t w = w) (hd : decode c.code pc = .ok (.areturn, 1)) {fs : List Frame}
    (hl : ∀ (f : JFrame) (acts : List Action), f.method = m → f.locked = none → f.entered = [] → (doReturn e (T.setTop f) acts (some w)).1 = T.setFrames fs) : Steps p.tables e below (T.setTop (mkF m pc Ls (w :: rest))) (T.setFrames fs) :=
  retOut X hx hret hn (Or.inr (Or.inr (Or.inr (Or.inr ⟨rfl, ht, hw⟩)))) hd hl
theorem own_psel {Z s : State} {a0 args : Array Value} {y : MethodName} {n : Nat} (hZ : Z.Warmed39 s.vm) (hi : (Jvm.Cond.instantiable y.cls n).before a0 Z = true) (hp : (Jvm.Cond.privateMethod y).before a0 Z = true) (hinst : (Jvm.Cond.instanceMethod y).before a0 Z = true) (hy : y.cls ≠ "java/lang/invoke/MethodHandle" ∧ y.cls ≠ "java/lang/invoke/VarHandle") : (Jvm.Cond.selects y.cls y y).before args s = true := by
  have hi' : (Jvm.Cond.instantiable y.cls n).before args s = true := mvT hZ hi
  obtain ⟨c, k, h1, h2, h3, h4, h5, h6⟩ := Cond.instantiable_spec hi'
  have h7 : k.isInterface = false := by
    cases hq : k.isInterface
    · rfl
    · rw [hq] at h4; simp at h4
  exact selects_self_of_private h1 h2 h7 (Cond.privateMethod_at (mvP hZ hp (args := args))) (mvT hZ hinst) hy
def PPW (s : State) (below : List Frame) (Q : Option Value → Heap → List Loc → Prop) (ce sl : Nat) (s₂ : State) (o : Outcome) : Prop := s₂.status = .running ∧ Ended s₂ below o ∧ ∃ v L, o = .returned v ∧ Q v s₂.heap L ∧ ReturnedEndW s o s₂ L ce sl
theorem endW_mono {s t : State} {o : Outcome} {L : List Loc} {k n k' n' : Nat} (h : ReturnedEndW s o t L k n) (hk : k ≤ k') (hn : n ≤ n') : ReturnedEndW s o t L k' n' := ⟨h.1, h.2.1, h.2.2.1, h.2.2.2.mono hk hn⟩
theorem leafW {p : Program} {e : Env} {s A : State} {below : List Frame} {Q : Option Value → Heap → List Loc → Prop} {ce sl : Nat} {T : State} {v : Option Value} {locs : List Loc} {cells slots : Nat}
    (h : ∃ fs, Steps p.tables e below A (T.setFrames fs) ∧ (T.setFrames fs).status = .running ∧ Ended (T.setFrames fs) below (.returned v) ∧ ReturnedEndW s (.returned v) (T.setFrames fs) locs cells slots)
    (hQ : Q v T.heap locs) (hc : cells ≤ ce) (hs : slots ≤ sl) : Go p e below (PPW s below Q ce sl) A := by
  obtain ⟨fs, h1, h2, h3, h4⟩ := h
  exact ⟨_, _, h1, h2, h3, v, locs, rfl, hQ, endW_mono h4 hc hs⟩
def PPH (Z : State) (EL : List (String × Nat)) (s : State) (below : List Frame) (Q : Option Value → Heap → List Loc → Prop) (ce sl : Nat) (s₂ : State) (o : Outcome) : Prop := s₂.status = .running ∧ Ended s₂ below o ∧ ∃ v L, o = .returned v ∧ Q v s₂.heap L ∧ CHr Z EL s.vm s.heap s₂.vm s₂.heap ∧ ReturnedEndW s o s₂ L ce sl
theorem leafH {Z : State} {EL : List (String × Nat)} {p : Program} {e : Env} {s A : State} {below : List Frame} {Q : Option Value → Heap → List Loc → Prop} {ce sl : Nat} {T : State} {v : Option Value} {locs : List Loc} {cells slots : Nat}
    (h : ∃ fs, Steps p.tables e below A (T.setFrames fs) ∧ (T.setFrames fs).status = .running ∧ Ended (T.setFrames fs) below (.returned v) ∧ ReturnedEndW s (.returned v) (T.setFrames fs) locs cells slots)
    (hQ : Q v T.heap locs) (hR : CHr Z EL s.vm s.heap T.vm T.heap) (hc : cells ≤ ce) (hs : slots ≤ sl) : Go p e below (PPH Z EL s below Q ce sl) A := by
  obtain ⟨fs, h1, h2, h3, h4⟩ := h
  exact ⟨_, _, h1, h2, h3, v, locs, rfl, hQ, hR, endW_mono h4 hc hs⟩
theorem coldZ {Z s : State} {vm0 vm1 : Vm} {n : Nat} (hZ : Z.Warmed39 (s.setVm vm0).vm) (h2 : (s.setVm vm0).Since vm1 n) : Z.Warmed39 (s.setVm vm1).vm := State.Warmed39.trans (t := s.setVm vm0) hZ h2.1
theorem coldO {s : State} {vm0 vm1 : Vm} {n : Nat} {own : String} {c : ClassId} (hown : (s.setVm vm0).vm.findClass own = some c) (h2 : (s.setVm vm0).Since vm1 n) : (s.setVm vm1).vm.findClass own = some c := by
  rw [show (s.setVm vm1).vm = vm1 from rfl, h2.1.alike.findClass]; exact hown
/-! a truth as Java's int -/
def bz (c : Prop) [Decidable c] : Int32 := if c then 1 else 0
theorem bz_t {c : Prop} [Decidable c] (h : c) : bz c = 1 := if_pos h
theorem bz_f {c : Prop} [Decidable c] (h : ¬ c) : bz c = 0 := if_neg h
theorem bz_ne {c : Prop} [Decidable c] (h : c) : ¬ (bz c = 0) := by rw [bz_t h]; decide
theorem bz_nf {c : Prop} [Decidable c] (h : ¬ c) : ¬ (bz c = 1) := by rw [bz_f h]; decide
theorem bz_congr {c d : Prop} [Decidable c] [Decidable d] (h : c ↔ d) : bz c = bz d := by by_cases q : c; rw [bz_t q, bz_t (h.mp q)]; rw [bz_f q, bz_f (fun z => q (h.mpr z))]
theorem bz_nar (c : Prop) [Decidable c] : nar .boolean (bz c) = bz c := by by_cases q : c; rw [bz_t q]; rfl; rw [bz_f q]; rfl

theorem own_bz0 (c : Prop) [Decidable c] : (bz c = 0) ↔ ¬ c := by
  by_cases q : c
  · rw [bz_t q]; simp [q]
  · rw [bz_f q]; simp [q]
theorem own_nbz (c : Prop) [Decidable c] : (nar .boolean (bz c) = 0) ↔ ¬ c := by rw [bz_nar]; exact own_bz0 c
theorem own_st (a b : Prop) [Decidable a] [Decidable b] : (bz (¬ ((nar .boolean (bz a)) = (0 : Int32)) ∧ ¬ ((nar .boolean (bz b)) = (0 : Int32)))) = bz (a ∧ b) := by
  refine bz_congr ?_
  rw [own_nbz, own_nbz]
  simp
theorem pn_0 : plainName "java/lang/Record" = true := by first | (simp [plainName, overriddenIn]; done) | decide +kernel
theorem d2_0 : decode jdk_30_method_1_code 0 = .ok (.aload_n 0, 1) := by decide +kernel
theorem d2_1 : decode jdk_30_method_1_code 1 = .ok (.invokespecial 1, 3) := by decide +kernel
theorem d2_4 : decode jdk_30_method_1_code 4 = .ok (.return_, 1) := by decide +kernel
theorem ef_rm2 (m : MethodId) (a1 : Addr) : entryFrame m #[(.ref a1)] 1 = mkF m 0 #[.val (.ref a1)] [] := by first | (simp [entryFrame, mkF, argsToLocals, Value.category]; done) | rfl
def Q2 (Z : State) (a1 : Addr) (h0 : Heap) (n0 : Nat) (v : Option Value) (h : Heap) (L : List Loc) : Prop := v = none ∧ Fr n0 L ∧ h = h0
set_option maxRecDepth 65536 in
set_option maxHeartbeats 40000000 in
theorem rm2 (l : Launch) (Z : State) (a0 : Array Value) (hw : ∀ d ∈ tables_1, d.before a0 Z = true) (ws : List Jvm.Cond) (a1 : Addr) (h0 : Heap) (n0 : Nat) (Z0 : n0 ≤ h0.size) :
    MetFree l (⟨"java/lang/Record", "<init>", "()V"⟩ : MethodName) (head1 (Jvm.Cond.code (⟨"java/lang/Record", "<init>", "()V"⟩ : MethodName) jdk_30_method_1_code 1 none :: ws) ({ frames := 1, cells := 0, slots := 0, locals := 12 } : Room)) (fun a U => a = #[(.ref a1)] ∧ Z.Warmed39 U.vm ∧ U.heap = h0) (fun _ _ _ _ _ => True) (fun _ U o U' => ∃ v L, o = .returned v ∧ Q2 Z a1 h0 n0 v U'.heap L ∧ FrameEnd U o U' L ({ frames := 1, cells := 0, slots := 0, locals := 12 } : Room).cells ({ frames := 1, cells := 0, slots := 0, locals := 12 } : Room).slots) := by
  refine MetFree.of_bodySF (plainFor_of_name pn_0) hisR ?_
  intro p e s m args below meth c s₁ Bd hml0 hP hK
  obtain ⟨rfl, hZ, hh⟩ := hP
  have hx := Bd.exec
  have hby := Bd.bytes
  have hml : c.maxLocals = 1 := hml0
  have hown : s.vm.findClass "java/lang/Record" = some m.cls := findClass_of_methodNamed Bd.named
  have hnm := (name_of_methodNamed Bd.named Bd.method).1
  have X0 : Stand p l e ({ frames := 1, cells := 0, slots := 0, locals := 12 } : Room) s m #[(.ref a1)] below meth c s₁ [] 0 0 := Stand.of_body Bd
  have e0 : s₁.heap = h0 := by rw [← hh, Bd.state]; rfl
  have N0 := Fr.nil n0
  show Go p e below (PP s below (Q2 Z a1 h0 n0) ({ frames := 1, cells := 0, slots := 0, locals := 12 } : Room).cells ({ frames := 1, cells := 0, slots := 0, locals := 12 } : Room).slots) (s₁.setTop (entryFrame m #[(.ref a1)] 1))
  refine go (fun _ k => castTop (ef_rm2 m a1) k) ?_
  show Go p e below _ (s₁.setTop (mkF m 0 #[.val (.ref a1)] []))
  refine go (fun _ k => XS.aloadN X0.here hx rfl (hb hby d2_0) rfl rfl  k) ?_
  show Go p e below _ (s₁.setTop (mkF m 1 #[.val (.ref a1)] [(.ref a1)]))
  obtain ⟨T1, X1, e1, st1⟩ := initO X0 hx hZ hown (hw _ (List.mem_of_getElem? (i := 11) rfl)) (hw _ (List.mem_of_getElem? (i := 12) rfl)) (hw _ (List.mem_of_getElem? (i := 13) rfl)) e0 (g := (mkF m 1 #[.val (.ref a1)] [(.ref a1)])) rfl (by rw [hml]; rfl) rfl (hb hby d2_1) (by decide) (W := 0) (by show 2 * 0 + _ ≤ _; exact Nat.le_of_eq rfl) (by decide)
  refine go st1 ?_
  show Go p e below _ (T1.setTop (mkF m 4 #[.val (.ref a1)] []))
  obtain ⟨fs, hr, hrun, hended, hW, hsame⟩ := X1.leave (v := none) (fun _ => rfl)
  refine leaf (T := T1) ⟨fs, X1.returnOut hx Bd.returns (hb hby d2_4) hr, hrun, hended, hW, hsame⟩ ?_ (by decide) (by decide)
  show Q2 Z a1 h0 n0 _ T1.heap _
  rw [e1]
  exact ⟨rfl, N0, rfl⟩
theorem pd_0 : parseMethodDescriptor "()V" = some ⟨[], none⟩ := by decide +kernel
theorem pn_1 : plainName "com/example/quotewright/quotewright/pricing/VoucherStacking" = true := by first | (simp [plainName, overriddenIn]; done) | decide +kernel
theorem d1_0 : decode prog_106_method_1_code 0 = .ok (.aload_n 0, 1) := by decide +kernel
theorem d1_1 : decode prog_106_method_1_code 1 = .ok (.invokespecial 1, 3) := by decide +kernel
theorem d1_4 : decode prog_106_method_1_code 4 = .ok (.aload_n 0, 1) := by decide +kernel
theorem d1_5 : decode prog_106_method_1_code 5 = .ok (.iload_n 1, 1) := by decide +kernel
theorem d1_6 : decode prog_106_method_1_code 6 = .ok (.putfield 7, 3) := by decide +kernel
theorem d1_9 : decode prog_106_method_1_code 9 = .ok (.aload_n 0, 1) := by decide +kernel
theorem d1_10 : decode prog_106_method_1_code 10 = .ok (.iload_n 2, 1) := by decide +kernel
theorem d1_11 : decode prog_106_method_1_code 11 = .ok (.putfield 13, 3) := by decide +kernel
theorem d1_14 : decode prog_106_method_1_code 14 = .ok (.return_, 1) := by decide +kernel
theorem ef_rm1 (m : MethodId) (a1 : Addr) (p2 : Int32) (p3 : Int32) : entryFrame m #[(.ref a1), (.int p2), (.int p3)] 3 = mkF m 0 #[.val (.ref a1), .val (.int p2), .val (.int p3)] [] := by first | (simp [entryFrame, mkF, argsToLocals, Value.category]; done) | rfl
def Q1 (Z : State) (a1 : Addr) (p2 : Int32) (p3 : Int32) (u1 : Value) (u2 : Value) (h0 : Heap) (n0 : Nat) (v : Option Value) (h : Heap) (L : List Loc) : Prop := v = none ∧ Fr n0 L ∧ Keep h0 h [a1] ∧ Exa Z h a1 "com/example/quotewright/quotewright/pricing/VoucherStacking" ∧ Fld Z h a1 "com/example/quotewright/quotewright/pricing/VoucherStacking" "withPromotion" "Z" (.int (nar .boolean p2)) ∧ Fld Z h a1 "com/example/quotewright/quotewright/pricing/VoucherStacking" "withVoucher" "Z" (.int (nar .boolean p3))
set_option maxRecDepth 65536 in
set_option maxHeartbeats 40000000 in
theorem rm1 (l : Launch) (Z : State) (a0 : Array Value) (hw : ∀ d ∈ tables_1, d.before a0 Z = true) (ws : List Jvm.Cond) (a1 : Addr) (p2 : Int32) (p3 : Int32) (u1 : Value) (u2 : Value) (h0 : Heap) (n0 : Nat) (Z0 : n0 ≤ h0.size) (E_a1 : Exa Z h0 a1 "com/example/quotewright/quotewright/pricing/VoucherStacking") (g_a1 : n0 ≤ a1) (F_withPromotion_a1 : Fld Z h0 a1 "com/example/quotewright/quotewright/pricing/VoucherStacking" "withPromotion" "Z" u1) (F_withVoucher_a1 : Fld Z h0 a1 "com/example/quotewright/quotewright/pricing/VoucherStacking" "withVoucher" "Z" u2) :
    MetFree l (⟨"com/example/quotewright/quotewright/pricing/VoucherStacking", "<init>", "(ZZ)V"⟩ : MethodName) (head1 (Jvm.Cond.code (⟨"com/example/quotewright/quotewright/pricing/VoucherStacking", "<init>", "(ZZ)V"⟩ : MethodName) prog_106_method_1_code 3 none :: ws) ({ frames := 2, cells := 0, slots := 0, locals := 24 } : Room)) (fun a U => a = #[(.ref a1), (.int p2), (.int p3)] ∧ Z.Warmed39 U.vm ∧ U.heap = h0) (fun _ _ _ _ _ => True) (fun _ U o U' => ∃ v L, o = .returned v ∧ Q1 Z a1 p2 p3 u1 u2 h0 n0 v U'.heap L ∧ FrameEnd U o U' L ({ frames := 2, cells := 0, slots := 0, locals := 24 } : Room).cells ({ frames := 2, cells := 0, slots := 0, locals := 24 } : Room).slots) := by
  refine MetFree.of_bodySF (plainFor_of_name pn_1) hisR ?_
  intro p e s m args below meth c s₁ Bd hml0 hP hK
  obtain ⟨rfl, hZ, hh⟩ := hP
  have hx := Bd.exec
  have hby := Bd.bytes
  have hml : c.maxLocals = 3 := hml0
  have hown : s.vm.findClass "com/example/quotewright/quotewright/pricing/VoucherStacking" = some m.cls := findClass_of_methodNamed Bd.named
  have hnm := (name_of_methodNamed Bd.named Bd.method).1
  have X0 : Stand p l e ({ frames := 2, cells := 0, slots := 0, locals := 24 } : Room) s m #[(.ref a1), (.int p2), (.int p3)] below meth c s₁ [] 0 0 := Stand.of_body Bd
  have e0 : s₁.heap = h0 := by rw [← hh, Bd.state]; rfl
  have N0 := Fr.nil n0
  show Go p e below (PP s below (Q1 Z a1 p2 p3 u1 u2 h0 n0) ({ frames := 2, cells := 0, slots := 0, locals := 24 } : Room).cells ({ frames := 2, cells := 0, slots := 0, locals := 24 } : Room).slots) (s₁.setTop (entryFrame m #[(.ref a1), (.int p2), (.int p3)] 3))
  refine go (fun _ k => castTop (ef_rm1 m a1 p2 p3) k) ?_
  show Go p e below _ (s₁.setTop (mkF m 0 #[.val (.ref a1), .val (.int p2), .val (.int p3)] []))
  refine go (fun _ k => XS.aloadN X0.here hx rfl (hb hby d1_0) rfl rfl  k) ?_
  show Go p e below _ (s₁.setTop (mkF m 1 #[.val (.ref a1), .val (.int p2), .val (.int p3)] [(.ref a1)]))
  obtain ⟨_, _, ⟨T1, L1, k1, n1⟩, -, X1, ⟨Lc1, hQ1, l1, y1, z1⟩, st1⟩ := X0.specialBack hx (y := (⟨"java/lang/Record", "<init>", "()V"⟩ : MethodName)) rfl hown (mvT hZ (hw _ (List.mem_of_getElem? (i := 6) rfl))) (mvT hZ (hw _ (List.mem_of_getElem? (i := 7) rfl))) (mvT hZ (hw _ (List.mem_of_getElem? (i := 10) rfl))) (by decide) (backOf (W := 0) (rm2 l Z a0 hw [] a1 h0 n0 (Nat.le_trans Z0 (Keep.refl h0 [a1]).1) ) hZ (hw _ (List.mem_of_getElem? (i := 10) rfl)) (hw _ (List.mem_of_getElem? (i := 9) rfl)) (by decide) (by decide)) (g := (mkF m 1 #[.val (.ref a1), .val (.int p2), .val (.int p3)] [(.ref a1)])) rfl (by rw [hml]; rfl) (Steps.refl _) (a := a1) (argsL := []) (rest := []) (lenOf pd_0 rfl) rfl (by show 2 * 0 + _ ≤ _; exact Nat.le_of_eq rfl) (hb hby d1_1) (fun _ _ => ⟨rfl, e0, (by decide : 0 + 0 ≤ _), (by decide : 0 + 0 ≤ _)⟩)
  dsimp only [Pt.U, Pt.locs, Pt.cells, Pt.slots] at X1 l1 y1 z1 st1 hQ1
  subst l1 y1 z1
  obtain ⟨rfl, N1q, e1⟩ := hQ1
  have N1 := Fr.app N0 N1q
  refine go (fun _ k => st1.trans k) ?_
  show Go p e below _ (T1.setTop (mkF m 4 #[.val (.ref a1), .val (.int p2), .val (.int p3)] []))
  refine go (fun _ k => XS.aloadN X1.here hx rfl (hb hby d1_4) rfl rfl  k) ?_
  show Go p e below _ (T1.setTop (mkF m 5 #[.val (.ref a1), .val (.int p2), .val (.int p3)] [(.ref a1)]))
  refine go (fun _ k => XS.iloadN X1.here hx rfl (hb hby d1_5) rfl  k) ?_
  show Go p e below _ (T1.setTop (mkF m 6 #[.val (.ref a1), .val (.int p2), .val (.int p3)] [(.int p2), (.ref a1)]))
  obtain ⟨T2, h2, X2, e2, W2, st2⟩ := putFN X1 hx hZ hown (hw _ (List.mem_of_getElem? (i := 14) rfl)) Via.refl e1 F_withPromotion_a1 E_a1 (Or.inr ⟨(hw _ (List.mem_of_getElem? (i := 15) rfl)), rfl, hnm⟩) (hw _ (List.mem_of_getElem? (i := 1) rfl)) (ty := .boolean) (v' := (.int (nar .boolean p2))) (by decide) rfl (fits_nar_bool _) (g := (mkF m 6 #[.val (.ref a1), .val (.int p2), .val (.int p3)] [(.int p2), (.ref a1)])) rfl rfl (hb hby d1_6)
  have Fw2 := F_withPromotion_a1.same W2
  have N2 := Fr.snoc X2 N1 g_a1
  refine go st2 ?_
  show Go p e below _ (T2.setTop (mkF m 9 #[.val (.ref a1), .val (.int p2), .val (.int p3)] []))
  refine go (fun _ k => XS.aloadN X2.here hx rfl (hb hby d1_9) rfl rfl  k) ?_
  show Go p e below _ (T2.setTop (mkF m 10 #[.val (.ref a1), .val (.int p2), .val (.int p3)] [(.ref a1)]))
  refine go (fun _ k => XS.iloadN X2.here hx rfl (hb hby d1_10) rfl  k) ?_
  show Go p e below _ (T2.setTop (mkF m 11 #[.val (.ref a1), .val (.int p2), .val (.int p3)] [(.int p3), (.ref a1)]))
  have f3 := (F_withVoucher_a1.other W2 (Or.inr (slot_ne (Or.inr (hw _ (List.mem_of_getElem? (i := 17) rfl))) (Or.inr (hw _ (List.mem_of_getElem? (i := 15) rfl))) (by decide) (t := .boolean) (t' := .boolean) (by decide) (by decide))))
  obtain ⟨T4, h4, X4, e4, W4, st4⟩ := putFN X2 hx hZ hown (hw _ (List.mem_of_getElem? (i := 16) rfl)) Via.refl e2 f3 (E_a1.wr W2) (Or.inr ⟨(hw _ (List.mem_of_getElem? (i := 17) rfl)), rfl, hnm⟩) (hw _ (List.mem_of_getElem? (i := 1) rfl)) (ty := .boolean) (v' := (.int (nar .boolean p3))) (by decide) rfl (fits_nar_bool _) (g := (mkF m 11 #[.val (.ref a1), .val (.int p2), .val (.int p3)] [(.int p3), (.ref a1)])) rfl rfl (hb hby d1_11)
  have Fw4 := f3.same W4
  have N4 := Fr.snoc X4 N2 g_a1
  refine go st4 ?_
  show Go p e below _ (T4.setTop (mkF m 14 #[.val (.ref a1), .val (.int p2), .val (.int p3)] []))
  obtain ⟨fs, hr, hrun, hended, hW, hsame⟩ := X4.leave (v := none) (fun _ => rfl)
  have K5 : Keep h0 h4 [a1] := (((Keep.refl h0 [a1]).wr W2 (Or.inl (List.mem_of_getElem? (i := 0) rfl))).wr W4 (Or.inl (List.mem_of_getElem? (i := 0) rfl)))
  have f6 := (Fw2.other W4 (Or.inr (slot_ne (Or.inr (hw _ (List.mem_of_getElem? (i := 15) rfl))) (Or.inr (hw _ (List.mem_of_getElem? (i := 17) rfl))) (by decide) (t := .boolean) (t' := .boolean) (by decide) (by decide))))
  refine leaf (T := T4) ⟨fs, X4.returnOut hx Bd.returns (hb hby d1_14) hr, hrun, hended, hW, hsame⟩ ?_ (by decide) (by decide)
  show Q1 Z a1 p2 p3 u1 u2 h0 n0 _ T4.heap _
  rw [e4]
  exact ⟨rfl, N4, K5, ((E_a1.wr W2).wr W4), f6, Fw4⟩
theorem d4_0 : decode prog_106_method_2_code 0 = .ok (.aload_n 0, 1) := by decide +kernel
theorem d4_1 : decode prog_106_method_2_code 1 = .ok (.getfield 13, 3) := by decide +kernel
theorem d4_4 : decode prog_106_method_2_code 4 = .ok (.ifCond .eq 14, 3) := by decide +kernel
theorem d4_7 : decode prog_106_method_2_code 7 = .ok (.aload_n 1, 1) := by decide +kernel
theorem d4_8 : decode prog_106_method_2_code 8 = .ok (.getfield 13, 3) := by decide +kernel
theorem d4_11 : decode prog_106_method_2_code 11 = .ok (.ifCond .eq 7, 3) := by decide +kernel
theorem d4_14 : decode prog_106_method_2_code 14 = .ok (.iconst 1, 1) := by decide +kernel
theorem d4_15 : decode prog_106_method_2_code 15 = .ok (.goto 4, 3) := by decide +kernel
theorem d4_18 : decode prog_106_method_2_code 18 = .ok (.iconst 0, 1) := by decide +kernel
theorem d4_19 : decode prog_106_method_2_code 19 = .ok (.ireturn, 1) := by decide +kernel
theorem ef_rm4 (m : MethodId) (a1 : Addr) (a2 : Addr) : entryFrame m #[(.ref a1), (.ref a2)] 2 = mkF m 0 #[.val (.ref a1), .val (.ref a2)] [] := by first | (simp [entryFrame, mkF, argsToLocals, Value.category]; done) | rfl
def Q4 (Z : State) (a1 : Addr) (a2 : Addr) (w1 : Int32) (w2 : Int32) (h0 : Heap) (n0 : Nat) (v : Option Value) (h : Heap) (L : List Loc) : Prop := v = some (.int (bz (¬ (w1 = (0 : Int32)) ∧ ¬ (w2 = (0 : Int32))))) ∧ Fr n0 L ∧ h = h0
set_option maxRecDepth 65536 in
set_option maxHeartbeats 40000000 in
theorem rm4 (l : Launch) (Z : State) (a0 : Array Value) (hw : ∀ d ∈ tables_1, d.before a0 Z = true) (ws : List Jvm.Cond) (a1 : Addr) (a2 : Addr) (w1 : Int32) (w2 : Int32) (h0 : Heap) (n0 : Nat) (Z0 : n0 ≤ h0.size) (E_a1 : Exa Z h0 a1 "com/example/quotewright/quotewright/pricing/VoucherStacking") (F_withVoucher_a1 : Fld Z h0 a1 "com/example/quotewright/quotewright/pricing/VoucherStacking" "withVoucher" "Z" (.int w1)) (F_withVoucher_a2 : Fld Z h0 a2 "com/example/quotewright/quotewright/pricing/VoucherStacking" "withVoucher" "Z" (.int w2)) :
    MetFree l (⟨"com/example/quotewright/quotewright/pricing/VoucherStacking", "stacksOn", "(Lcom/example/quotewright/quotewright/pricing/VoucherStacking;)Z"⟩ : MethodName) (head1 (Jvm.Cond.code (⟨"com/example/quotewright/quotewright/pricing/VoucherStacking", "stacksOn", "(Lcom/example/quotewright/quotewright/pricing/VoucherStacking;)Z"⟩ : MethodName) prog_106_method_2_code 2 (some .boolean) :: ws) ({ frames := 0, cells := 0, slots := 0, locals := 0 } : Room)) (fun a U => a = #[(.ref a1), (.ref a2)] ∧ Z.Warmed39 U.vm ∧ U.heap = h0) (fun _ _ _ _ _ => True) (fun _ U o U' => ∃ v L, o = .returned v ∧ Q4 Z a1 a2 w1 w2 h0 n0 v U'.heap L ∧ FrameEnd U o U' L ({ frames := 0, cells := 0, slots := 0, locals := 0 } : Room).cells ({ frames := 0, cells := 0, slots := 0, locals := 0 } : Room).slots) := by
  refine MetFree.of_bodySF (plainFor_of_name pn_1) hisR ?_
  intro p e s m args below meth c s₁ Bd hml0 hP hK
  obtain ⟨rfl, hZ, hh⟩ := hP
  have hx := Bd.exec
  have hby := Bd.bytes
  have hml : c.maxLocals = 2 := hml0
  have hown : s.vm.findClass "com/example/quotewright/quotewright/pricing/VoucherStacking" = some m.cls := findClass_of_methodNamed Bd.named
  have hnm := (name_of_methodNamed Bd.named Bd.method).1
  have X0 : Stand p l e ({ frames := 0, cells := 0, slots := 0, locals := 0 } : Room) s m #[(.ref a1), (.ref a2)] below meth c s₁ [] 0 0 := Stand.of_body Bd
  have e0 : s₁.heap = h0 := by rw [← hh, Bd.state]; rfl
  have N0 := Fr.nil n0
  show Go p e below (PP s below (Q4 Z a1 a2 w1 w2 h0 n0) ({ frames := 0, cells := 0, slots := 0, locals := 0 } : Room).cells ({ frames := 0, cells := 0, slots := 0, locals := 0 } : Room).slots) (s₁.setTop (entryFrame m #[(.ref a1), (.ref a2)] 2))
  refine go (fun _ k => castTop (ef_rm4 m a1 a2) k) ?_
  show Go p e below _ (s₁.setTop (mkF m 0 #[.val (.ref a1), .val (.ref a2)] []))
  refine go (fun _ k => XS.aloadN X0.here hx rfl (hb hby d4_0) rfl rfl  k) ?_
  show Go p e below _ (s₁.setTop (mkF m 1 #[.val (.ref a1), .val (.ref a2)] [(.ref a1)]))
  obtain ⟨T1, X1, e1, st1⟩ := getF X0 hx hZ hown (host := "") (Or.inl (hw _ (List.mem_of_getElem? (i := 16) rfl))) Via.refl e0 F_withVoucher_a1 (g := (mkF m 1 #[.val (.ref a1), .val (.ref a2)] [(.ref a1)])) rfl rfl (hb hby d4_1)
  refine go st1 ?_
  show Go p e below _ (T1.setTop (mkF m 4 #[.val (.ref a1), .val (.ref a2)] [(.int w1)]))
  by_cases hc4_1 : w1 = (0 : Int32)
  · skip
    refine go (fun _ k => XS.ifYes X1.here hx rfl (pc0 := 4) (pc' := 18) rfl (hb hby d4_4) rfl ((if0 _ _).trans (teq hc4_1).1) (by decide) (by decide) k) ?_
    show Go p e below _ (T1.setTop (mkF m 18 #[.val (.ref a1), .val (.ref a2)] []))
    refine go (fun _ k => XS.iconst X1.here hx rfl (hb hby d4_18) k) ?_
    show Go p e below _ (T1.setTop (mkF m 19 #[.val (.ref a1), .val (.ref a2)] [(.int (0 : Int32))]))
    obtain ⟨fs, hr, hrun, hended, hW, hsame⟩ := X1.leave (v := some (.int (0 : Int32))) (fun h => by rw [Bd.returns] at h; cases h)
    refine leaf (T := T1) ⟨fs, retN X1 hx (t := .boolean) Bd.returns (by simp) (hb hby d4_19) hr, hrun, hended, hW, hsame⟩ ?_ (by decide) (by decide)
    show Q4 Z a1 a2 w1 w2 h0 n0 _ T1.heap _
    rw [e1]
    exact ⟨(by rw [bz_f (fun q => q.1 hc4_1)]), N0, rfl⟩
  · skip
    refine go (fun _ k => XS.ifNo X1.here hx rfl (hb hby d4_4) rfl ((if0 _ _).trans (feq hc4_1).1) k) ?_
    show Go p e below _ (T1.setTop (mkF m 7 #[.val (.ref a1), .val (.ref a2)] []))
    refine go (fun _ k => XS.aloadN X1.here hx rfl (hb hby d4_7) rfl rfl  k) ?_
    show Go p e below _ (T1.setTop (mkF m 8 #[.val (.ref a1), .val (.ref a2)] [(.ref a2)]))
    obtain ⟨T2, X2, e2, st2⟩ := getF X1 hx hZ hown (host := "") (Or.inl (hw _ (List.mem_of_getElem? (i := 16) rfl))) Via.refl e1 F_withVoucher_a2 (g := (mkF m 8 #[.val (.ref a1), .val (.ref a2)] [(.ref a2)])) rfl rfl (hb hby d4_8)
    refine go st2 ?_
    show Go p e below _ (T2.setTop (mkF m 11 #[.val (.ref a1), .val (.ref a2)] [(.int w2)]))
    by_cases hc11_2 : w2 = (0 : Int32)
    · skip
      refine go (fun _ k => XS.ifYes X2.here hx rfl (pc0 := 11) (pc' := 18) rfl (hb hby d4_11) rfl ((if0 _ _).trans (teq hc11_2).1) (by decide) (by decide) k) ?_
      show Go p e below _ (T2.setTop (mkF m 18 #[.val (.ref a1), .val (.ref a2)] []))
      refine go (fun _ k => XS.iconst X2.here hx rfl (hb hby d4_18) k) ?_
      show Go p e below _ (T2.setTop (mkF m 19 #[.val (.ref a1), .val (.ref a2)] [(.int (0 : Int32))]))
      obtain ⟨fs, hr, hrun, hended, hW, hsame⟩ := X2.leave (v := some (.int (0 : Int32))) (fun h => by rw [Bd.returns] at h; cases h)
      refine leaf (T := T2) ⟨fs, retN X2 hx (t := .boolean) Bd.returns (by simp) (hb hby d4_19) hr, hrun, hended, hW, hsame⟩ ?_ (by decide) (by decide)
      show Q4 Z a1 a2 w1 w2 h0 n0 _ T2.heap _
      rw [e2]
      exact ⟨(by rw [bz_f (fun q => q.2 hc11_2)]), N0, rfl⟩
    · skip
      refine go (fun _ k => XS.ifNo X2.here hx rfl (hb hby d4_11) rfl ((if0 _ _).trans (feq hc11_2).1) k) ?_
      show Go p e below _ (T2.setTop (mkF m 14 #[.val (.ref a1), .val (.ref a2)] []))
      refine go (fun _ k => XS.iconst X2.here hx rfl (hb hby d4_14) k) ?_
      show Go p e below _ (T2.setTop (mkF m 15 #[.val (.ref a1), .val (.ref a2)] [(.int (1 : Int32))]))
      refine go (fun _ k => XS.goto X2.here hx rfl (pc0 := 15) (pc' := 19) rfl (hb hby d4_15) (by decide) (by decide) k) ?_
      show Go p e below _ (T2.setTop (mkF m 19 #[.val (.ref a1), .val (.ref a2)] [(.int (1 : Int32))]))
      obtain ⟨fs, hr, hrun, hended, hW, hsame⟩ := X2.leave (v := some (.int (1 : Int32))) (fun h => by rw [Bd.returns] at h; cases h)
      refine leaf (T := T2) ⟨fs, retN X2 hx (t := .boolean) Bd.returns (by simp) (hb hby d4_19) hr, hrun, hended, hW, hsame⟩ ?_ (by decide) (by decide)
      show Q4 Z a1 a2 w1 w2 h0 n0 _ T2.heap _
      rw [e2]
      exact ⟨(by rw [bz_t ⟨hc4_1, hc11_2⟩]), N0, rfl⟩
theorem pd_1 : parseMethodDescriptor "(ZZ)V" = some ⟨[.boolean, .boolean], none⟩ := by decide +kernel
theorem pd_2 : parseMethodDescriptor "(Lcom/example/quotewright/quotewright/pricing/VoucherStacking;)Z" = some ⟨[(.object "com/example/quotewright/quotewright/pricing/VoucherStacking")], some .boolean⟩ := by decide +kernel
theorem pn_2 : plainName "com/example/quotewright/quotewright/pricing/VoucherStackingStacksOnPinLaw" = true := by first | (simp [plainName, overriddenIn]; done) | decide +kernel
theorem ef_rm0 (m : MethodId) (p1 : Int32) : entryFrame m #[(.int p1)] maxLocals = mkF m 0 #[.val (.int p1), .unset, .unset, .unset, .unset, .unset, .unset, .unset, .unset, .unset] [] := by first | (simp [entryFrame, mkF, argsToLocals, Value.category, maxLocals]; done) | rfl
def Q0 (Z : State) (p1 : Int32) (h0 : Heap) (n0 : Nat) (v : Option Value) (h : Heap) (L : List Loc) : Prop := v = some (.int (1 : Int32)) ∧ Fr n0 L
set_option maxRecDepth 65536 in
set_option maxHeartbeats 40000000 in
theorem rm0 (l : Launch) (Z : State) (a0 : Array Value) (hw : ∀ d ∈ tables_1, d.before a0 Z = true) (ws : List Jvm.Cond) (p1 : Int32) (h0 : Heap) (n0 : Nat) (Z0 : n0 ≤ h0.size) :
    MetFree l x (head1 (Jvm.Cond.code x code maxLocals ret :: ws) room_1) (fun a U => a = #[(.int p1)] ∧ Z.Warmed39 U.vm ∧ U.heap = h0) (fun _ _ _ _ _ => True) (fun _ U o U' => ∃ v L, o = .returned v ∧ Q0 Z p1 h0 n0 v U'.heap L ∧ FrameEnd U o U' L room_1.cells room_1.slots) := by
  refine MetFree.of_bodySF (plainFor_of_name pn_2) hisR ?_
  intro p e s m args below meth c s₁ Bd hml0 hP hK
  obtain ⟨rfl, hZ, hh⟩ := hP
  have hx := Bd.exec
  have hby := Bd.bytes
  have hml : c.maxLocals = 10 := hml0
  have hown : s.vm.findClass "com/example/quotewright/quotewright/pricing/VoucherStackingStacksOnPinLaw" = some m.cls := findClass_of_methodNamed Bd.named
  have hnm := (name_of_methodNamed Bd.named Bd.method).1
  have X0 : Stand p l e room_1 s m #[(.int p1)] below meth c s₁ [] 0 0 := Stand.of_body Bd
  have e0 : s₁.heap = h0 := by rw [← hh, Bd.state]; rfl
  have N0 := Fr.nil n0
  show Go p e below (PP s below (Q0 Z p1 h0 n0) room_1.cells room_1.slots) (s₁.setTop (entryFrame m #[(.int p1)] maxLocals))
  refine go (fun _ k => castTop (ef_rm0 m p1) k) ?_
  show Go p e below _ (s₁.setTop (mkF m 0 #[.val (.int p1), .unset, .unset, .unset, .unset, .unset, .unset, .unset, .unset, .unset] []))
  refine go (fun _ k => XS.iloadN X0.here hx rfl (hb hby at_0) rfl  k) ?_
  show Go p e below _ (s₁.setTop (mkF m 1 #[.val (.int p1), .unset, .unset, .unset, .unset, .unset, .unset, .unset, .unset, .unset] [(.int p1)]))
  refine go (fun _ k => XS.iconst X0.here hx rfl (hb hby at_1) k) ?_
  show Go p e below _ (s₁.setTop (mkF m 2 #[.val (.int p1), .unset, .unset, .unset, .unset, .unset, .unset, .unset, .unset, .unset] [(.int (1 : Int32)), (.int p1)]))
  refine go (fun _ k => XS.iand X0.here hx rfl (hb hby at_2) rfl k) ?_
  show Go p e below _ (s₁.setTop (mkF m 3 #[.val (.int p1), .unset, .unset, .unset, .unset, .unset, .unset, .unset, .unset, .unset] [(.int (p1 &&& (1 : Int32)))]))
  have J11_1 : ∀ (v11_2 : Int32), v11_2 = (bz (¬ ((p1 &&& (1 : Int32)) = (0 : Int32)))) → Go p e below (PP s below (Q0 Z p1 h0 n0) room_1.cells room_1.slots) (s₁.setTop (mkF m 11 #[.val (.int p1), .unset, .unset, .unset, .unset, .unset, .unset, .unset, .unset, .unset] [(.int v11_2)])) := by
    intro v11_2 hv11_2
    subst hv11_2
    show Go p e below _ (s₁.setTop (mkF m 11 #[.val (.int p1), .unset, .unset, .unset, .unset, .unset, .unset, .unset, .unset, .unset] [(.int (bz (¬ ((p1 &&& (1 : Int32)) = (0 : Int32)))))]))
    refine go (fun _ k => XS.istoreN X0.here hx rfl (hb hby at_11) rfl (l' := #[.val (.int p1), .val (.int (bz (¬ ((p1 &&& (1 : Int32)) = (0 : Int32))))), .unset, .unset, .unset, .unset, .unset, .unset, .unset, .unset]) rfl k) ?_
    show Go p e below _ (s₁.setTop (mkF m 12 #[.val (.int p1), .val (.int (bz (¬ ((p1 &&& (1 : Int32)) = (0 : Int32))))), .unset, .unset, .unset, .unset, .unset, .unset, .unset, .unset] []))
    refine go (fun _ k => XS.iloadN X0.here hx rfl (hb hby at_12) rfl  k) ?_
    show Go p e below _ (s₁.setTop (mkF m 13 #[.val (.int p1), .val (.int (bz (¬ ((p1 &&& (1 : Int32)) = (0 : Int32))))), .unset, .unset, .unset, .unset, .unset, .unset, .unset, .unset] [(.int p1)]))
    refine go (fun _ k => XS.iconst X0.here hx rfl (hb hby at_13) k) ?_
    show Go p e below _ (s₁.setTop (mkF m 14 #[.val (.int p1), .val (.int (bz (¬ ((p1 &&& (1 : Int32)) = (0 : Int32))))), .unset, .unset, .unset, .unset, .unset, .unset, .unset, .unset] [(.int (2 : Int32)), (.int p1)]))
    refine go (fun _ k => XS.iand X0.here hx rfl (hb hby at_14) rfl k) ?_
    show Go p e below _ (s₁.setTop (mkF m 15 #[.val (.int p1), .val (.int (bz (¬ ((p1 &&& (1 : Int32)) = (0 : Int32))))), .unset, .unset, .unset, .unset, .unset, .unset, .unset, .unset] [(.int (p1 &&& (2 : Int32)))]))
    have J23_2 : ∀ (v23_4 : Int32), v23_4 = (bz (¬ ((p1 &&& (2 : Int32)) = (0 : Int32)))) → Go p e below (PP s below (Q0 Z p1 h0 n0) room_1.cells room_1.slots) (s₁.setTop (mkF m 23 #[.val (.int p1), .val (.int (bz (¬ ((p1 &&& (1 : Int32)) = (0 : Int32))))), .unset, .unset, .unset, .unset, .unset, .unset, .unset, .unset] [(.int v23_4)])) := by
      intro v23_4 hv23_4
      subst hv23_4
      show Go p e below _ (s₁.setTop (mkF m 23 #[.val (.int p1), .val (.int (bz (¬ ((p1 &&& (1 : Int32)) = (0 : Int32))))), .unset, .unset, .unset, .unset, .unset, .unset, .unset, .unset] [(.int (bz (¬ ((p1 &&& (2 : Int32)) = (0 : Int32)))))]))
      refine go (fun _ k => XS.istoreN X0.here hx rfl (hb hby at_23) rfl (l' := #[.val (.int p1), .val (.int (bz (¬ ((p1 &&& (1 : Int32)) = (0 : Int32))))), .val (.int (bz (¬ ((p1 &&& (2 : Int32)) = (0 : Int32))))), .unset, .unset, .unset, .unset, .unset, .unset, .unset]) rfl k) ?_
      show Go p e below _ (s₁.setTop (mkF m 24 #[.val (.int p1), .val (.int (bz (¬ ((p1 &&& (1 : Int32)) = (0 : Int32))))), .val (.int (bz (¬ ((p1 &&& (2 : Int32)) = (0 : Int32))))), .unset, .unset, .unset, .unset, .unset, .unset, .unset] []))
      refine go (fun _ k => XS.iloadN X0.here hx rfl (hb hby at_24) rfl  k) ?_
      show Go p e below _ (s₁.setTop (mkF m 25 #[.val (.int p1), .val (.int (bz (¬ ((p1 &&& (1 : Int32)) = (0 : Int32))))), .val (.int (bz (¬ ((p1 &&& (2 : Int32)) = (0 : Int32))))), .unset, .unset, .unset, .unset, .unset, .unset, .unset] [(.int p1)]))
      refine go (fun _ k => XS.iconst X0.here hx rfl (hb hby at_25) k) ?_
      show Go p e below _ (s₁.setTop (mkF m 26 #[.val (.int p1), .val (.int (bz (¬ ((p1 &&& (1 : Int32)) = (0 : Int32))))), .val (.int (bz (¬ ((p1 &&& (2 : Int32)) = (0 : Int32))))), .unset, .unset, .unset, .unset, .unset, .unset, .unset] [(.int (4 : Int32)), (.int p1)]))
      refine go (fun _ k => XS.iand X0.here hx rfl (hb hby at_26) rfl k) ?_
      show Go p e below _ (s₁.setTop (mkF m 27 #[.val (.int p1), .val (.int (bz (¬ ((p1 &&& (1 : Int32)) = (0 : Int32))))), .val (.int (bz (¬ ((p1 &&& (2 : Int32)) = (0 : Int32))))), .unset, .unset, .unset, .unset, .unset, .unset, .unset] [(.int (p1 &&& (4 : Int32)))]))
      have J35_3 : ∀ (v35_6 : Int32), v35_6 = (bz (¬ ((p1 &&& (4 : Int32)) = (0 : Int32)))) → Go p e below (PP s below (Q0 Z p1 h0 n0) room_1.cells room_1.slots) (s₁.setTop (mkF m 35 #[.val (.int p1), .val (.int (bz (¬ ((p1 &&& (1 : Int32)) = (0 : Int32))))), .val (.int (bz (¬ ((p1 &&& (2 : Int32)) = (0 : Int32))))), .unset, .unset, .unset, .unset, .unset, .unset, .unset] [(.int v35_6)])) := by
        intro v35_6 hv35_6
        subst hv35_6
        show Go p e below _ (s₁.setTop (mkF m 35 #[.val (.int p1), .val (.int (bz (¬ ((p1 &&& (1 : Int32)) = (0 : Int32))))), .val (.int (bz (¬ ((p1 &&& (2 : Int32)) = (0 : Int32))))), .unset, .unset, .unset, .unset, .unset, .unset, .unset] [(.int (bz (¬ ((p1 &&& (4 : Int32)) = (0 : Int32)))))]))
        refine go (fun _ k => XS.istoreN X0.here hx rfl (hb hby at_35) rfl (l' := #[.val (.int p1), .val (.int (bz (¬ ((p1 &&& (1 : Int32)) = (0 : Int32))))), .val (.int (bz (¬ ((p1 &&& (2 : Int32)) = (0 : Int32))))), .val (.int (bz (¬ ((p1 &&& (4 : Int32)) = (0 : Int32))))), .unset, .unset, .unset, .unset, .unset, .unset]) rfl k) ?_
        show Go p e below _ (s₁.setTop (mkF m 36 #[.val (.int p1), .val (.int (bz (¬ ((p1 &&& (1 : Int32)) = (0 : Int32))))), .val (.int (bz (¬ ((p1 &&& (2 : Int32)) = (0 : Int32))))), .val (.int (bz (¬ ((p1 &&& (4 : Int32)) = (0 : Int32))))), .unset, .unset, .unset, .unset, .unset, .unset] []))
        refine go (fun _ k => XS.iloadN X0.here hx rfl (hb hby at_36) rfl  k) ?_
        show Go p e below _ (s₁.setTop (mkF m 37 #[.val (.int p1), .val (.int (bz (¬ ((p1 &&& (1 : Int32)) = (0 : Int32))))), .val (.int (bz (¬ ((p1 &&& (2 : Int32)) = (0 : Int32))))), .val (.int (bz (¬ ((p1 &&& (4 : Int32)) = (0 : Int32))))), .unset, .unset, .unset, .unset, .unset, .unset] [(.int p1)]))
        refine go (fun _ k => XS.bipush X0.here hx rfl (hb hby at_37) k) ?_
        show Go p e below _ (s₁.setTop (mkF m 39 #[.val (.int p1), .val (.int (bz (¬ ((p1 &&& (1 : Int32)) = (0 : Int32))))), .val (.int (bz (¬ ((p1 &&& (2 : Int32)) = (0 : Int32))))), .val (.int (bz (¬ ((p1 &&& (4 : Int32)) = (0 : Int32))))), .unset, .unset, .unset, .unset, .unset, .unset] [(.int (8 : Int32)), (.int p1)]))
        refine go (fun _ k => XS.iand X0.here hx rfl (hb hby at_39) rfl k) ?_
        show Go p e below _ (s₁.setTop (mkF m 40 #[.val (.int p1), .val (.int (bz (¬ ((p1 &&& (1 : Int32)) = (0 : Int32))))), .val (.int (bz (¬ ((p1 &&& (2 : Int32)) = (0 : Int32))))), .val (.int (bz (¬ ((p1 &&& (4 : Int32)) = (0 : Int32))))), .unset, .unset, .unset, .unset, .unset, .unset] [(.int (p1 &&& (8 : Int32)))]))
        have J48_4 : ∀ (v48_8 : Int32), v48_8 = (bz (¬ ((p1 &&& (8 : Int32)) = (0 : Int32)))) → Go p e below (PP s below (Q0 Z p1 h0 n0) room_1.cells room_1.slots) (s₁.setTop (mkF m 48 #[.val (.int p1), .val (.int (bz (¬ ((p1 &&& (1 : Int32)) = (0 : Int32))))), .val (.int (bz (¬ ((p1 &&& (2 : Int32)) = (0 : Int32))))), .val (.int (bz (¬ ((p1 &&& (4 : Int32)) = (0 : Int32))))), .unset, .unset, .unset, .unset, .unset, .unset] [(.int v48_8)])) := by
          intro v48_8 hv48_8
          subst hv48_8
          show Go p e below _ (s₁.setTop (mkF m 48 #[.val (.int p1), .val (.int (bz (¬ ((p1 &&& (1 : Int32)) = (0 : Int32))))), .val (.int (bz (¬ ((p1 &&& (2 : Int32)) = (0 : Int32))))), .val (.int (bz (¬ ((p1 &&& (4 : Int32)) = (0 : Int32))))), .unset, .unset, .unset, .unset, .unset, .unset] [(.int (bz (¬ ((p1 &&& (8 : Int32)) = (0 : Int32)))))]))
          refine go (fun _ k => XS.istore X0.here hx rfl (hb hby at_48) rfl (l' := #[.val (.int p1), .val (.int (bz (¬ ((p1 &&& (1 : Int32)) = (0 : Int32))))), .val (.int (bz (¬ ((p1 &&& (2 : Int32)) = (0 : Int32))))), .val (.int (bz (¬ ((p1 &&& (4 : Int32)) = (0 : Int32))))), .val (.int (bz (¬ ((p1 &&& (8 : Int32)) = (0 : Int32))))), .unset, .unset, .unset, .unset, .unset]) rfl k) ?_
          show Go p e below _ (s₁.setTop (mkF m 50 #[.val (.int p1), .val (.int (bz (¬ ((p1 &&& (1 : Int32)) = (0 : Int32))))), .val (.int (bz (¬ ((p1 &&& (2 : Int32)) = (0 : Int32))))), .val (.int (bz (¬ ((p1 &&& (4 : Int32)) = (0 : Int32))))), .val (.int (bz (¬ ((p1 &&& (8 : Int32)) = (0 : Int32))))), .unset, .unset, .unset, .unset, .unset] []))
          obtain ⟨T5, h5, X5, e5, E5, A5, D5, -, st5⟩ := newO X0 hx hZ hown (hw _ (List.mem_of_getElem? (i := 0) rfl)) (hw _ (List.mem_of_getElem? (i := 1) rfl)) (hw _ (List.mem_of_getElem? (i := 2) rfl)) e0 (g := (mkF m 50 #[.val (.int p1), .val (.int (bz (¬ ((p1 &&& (1 : Int32)) = (0 : Int32))))), .val (.int (bz (¬ ((p1 &&& (2 : Int32)) = (0 : Int32))))), .val (.int (bz (¬ ((p1 &&& (4 : Int32)) = (0 : Int32))))), .val (.int (bz (¬ ((p1 &&& (8 : Int32)) = (0 : Int32))))), .unset, .unset, .unset, .unset, .unset] [])) rfl (hb hby at_50) (by decide) (by decide)
          obtain ⟨b5, g5⟩ : ∃ z, z = h0.size := ⟨_, rfl⟩
          rw [← g5] at A5 D5 st5
          have sz_b5 : h0.size ≤ b5 := Nat.le_trans (Keep.refl h0 []).1 (Nat.le_of_eq g5.symm)
          have g_b5 : n0 ≤ b5 := Nat.le_trans Z0 sz_b5
          have F_withPromotion_b5 : Fld Z h5 b5 "com/example/quotewright/quotewright/pricing/VoucherStacking" "withPromotion" "Z" (.int (0 : Int32)) := D5 (Or.inr (hw _ (List.mem_of_getElem? (i := 15) rfl))) (ty := .boolean) (by decide)
          have F_withVoucher_b5 : Fld Z h5 b5 "com/example/quotewright/quotewright/pricing/VoucherStacking" "withVoucher" "Z" (.int (0 : Int32)) := D5 (Or.inr (hw _ (List.mem_of_getElem? (i := 17) rfl))) (ty := .boolean) (by decide)
          refine go st5 ?_
          show Go p e below _ (T5.setTop (mkF m 53 #[.val (.int p1), .val (.int (bz (¬ ((p1 &&& (1 : Int32)) = (0 : Int32))))), .val (.int (bz (¬ ((p1 &&& (2 : Int32)) = (0 : Int32))))), .val (.int (bz (¬ ((p1 &&& (4 : Int32)) = (0 : Int32))))), .val (.int (bz (¬ ((p1 &&& (8 : Int32)) = (0 : Int32))))), .unset, .unset, .unset, .unset, .unset] [(.ref b5)]))
          refine go (fun _ k => XS.dup X5.here hx rfl (hb hby at_53) rfl rfl k) ?_
          show Go p e below _ (T5.setTop (mkF m 54 #[.val (.int p1), .val (.int (bz (¬ ((p1 &&& (1 : Int32)) = (0 : Int32))))), .val (.int (bz (¬ ((p1 &&& (2 : Int32)) = (0 : Int32))))), .val (.int (bz (¬ ((p1 &&& (4 : Int32)) = (0 : Int32))))), .val (.int (bz (¬ ((p1 &&& (8 : Int32)) = (0 : Int32))))), .unset, .unset, .unset, .unset, .unset] [(.ref b5), (.ref b5)]))
          refine go (fun _ k => XS.iloadN X5.here hx rfl (hb hby at_54) rfl  k) ?_
          show Go p e below _ (T5.setTop (mkF m 55 #[.val (.int p1), .val (.int (bz (¬ ((p1 &&& (1 : Int32)) = (0 : Int32))))), .val (.int (bz (¬ ((p1 &&& (2 : Int32)) = (0 : Int32))))), .val (.int (bz (¬ ((p1 &&& (4 : Int32)) = (0 : Int32))))), .val (.int (bz (¬ ((p1 &&& (8 : Int32)) = (0 : Int32))))), .unset, .unset, .unset, .unset, .unset] [(.int (bz (¬ ((p1 &&& (1 : Int32)) = (0 : Int32))))), (.ref b5), (.ref b5)]))
          refine go (fun _ k => XS.iloadN X5.here hx rfl (hb hby at_55) rfl  k) ?_
          show Go p e below _ (T5.setTop (mkF m 56 #[.val (.int p1), .val (.int (bz (¬ ((p1 &&& (1 : Int32)) = (0 : Int32))))), .val (.int (bz (¬ ((p1 &&& (2 : Int32)) = (0 : Int32))))), .val (.int (bz (¬ ((p1 &&& (4 : Int32)) = (0 : Int32))))), .val (.int (bz (¬ ((p1 &&& (8 : Int32)) = (0 : Int32))))), .unset, .unset, .unset, .unset, .unset] [(.int (bz (¬ ((p1 &&& (2 : Int32)) = (0 : Int32))))), (.int (bz (¬ ((p1 &&& (1 : Int32)) = (0 : Int32))))), (.ref b5), (.ref b5)]))
          have K7 : Keep h0 h5 [] := ((Keep.refl h0 []).ext E5)
          obtain ⟨_, _, ⟨T6, L6, k6, n6⟩, -, X6, ⟨Lc6, hQ6, l6, y6, z6⟩, st6⟩ := X5.specialBack hx (y := (⟨"com/example/quotewright/quotewright/pricing/VoucherStacking", "<init>", "(ZZ)V"⟩ : MethodName)) rfl hown (mvT hZ (hw _ (List.mem_of_getElem? (i := 3) rfl))) (mvT hZ (hw _ (List.mem_of_getElem? (i := 4) rfl))) (mvT hZ (hw _ (List.mem_of_getElem? (i := 5) rfl))) (by decide) (backOf (W := 1) (rm1 l Z a0 hw [] b5 (bz (¬ ((p1 &&& (1 : Int32)) = (0 : Int32)))) (bz (¬ ((p1 &&& (2 : Int32)) = (0 : Int32)))) (.int (0 : Int32)) (.int (0 : Int32)) h5 n0 (Nat.le_trans Z0 K7.1) A5 g_b5 F_withPromotion_b5 F_withVoucher_b5) hZ (hw _ (List.mem_of_getElem? (i := 5) rfl)) (hw _ (List.mem_of_getElem? (i := 2) rfl)) (by decide) (by decide)) (g := (mkF m 56 #[.val (.int p1), .val (.int (bz (¬ ((p1 &&& (1 : Int32)) = (0 : Int32))))), .val (.int (bz (¬ ((p1 &&& (2 : Int32)) = (0 : Int32))))), .val (.int (bz (¬ ((p1 &&& (4 : Int32)) = (0 : Int32))))), .val (.int (bz (¬ ((p1 &&& (8 : Int32)) = (0 : Int32))))), .unset, .unset, .unset, .unset, .unset] [(.int (bz (¬ ((p1 &&& (2 : Int32)) = (0 : Int32))))), (.int (bz (¬ ((p1 &&& (1 : Int32)) = (0 : Int32))))), (.ref b5), (.ref b5)])) rfl (by rw [hml]; rfl) (Steps.refl _) (a := b5) (argsL := [(.int (bz (¬ ((p1 &&& (1 : Int32)) = (0 : Int32))))), (.int (bz (¬ ((p1 &&& (2 : Int32)) = (0 : Int32)))))]) (rest := [(.ref b5)]) (lenOf pd_1 rfl) rfl (by show 2 * 0 + _ ≤ _; exact Nat.le_of_eq rfl) (hb hby at_56) (fun _ _ => ⟨rfl, e5, (by decide : 1 + 0 ≤ _), (by decide : 2 + 0 ≤ _)⟩)
          dsimp only [Pt.U, Pt.locs, Pt.cells, Pt.slots] at X6 l6 y6 z6 st6 hQ6
          subst l6 y6 z6
          obtain ⟨rfl, N6q, r6_0, r6_1, r6_2, r6_3⟩ := hQ6
          have N6 := Fr.app N0 N6q
          refine go (fun _ k => st6.trans k) ?_
          show Go p e below _ (T6.setTop (mkF m 59 #[.val (.int p1), .val (.int (bz (¬ ((p1 &&& (1 : Int32)) = (0 : Int32))))), .val (.int (bz (¬ ((p1 &&& (2 : Int32)) = (0 : Int32))))), .val (.int (bz (¬ ((p1 &&& (4 : Int32)) = (0 : Int32))))), .val (.int (bz (¬ ((p1 &&& (8 : Int32)) = (0 : Int32))))), .unset, .unset, .unset, .unset, .unset] [(.ref b5)]))
          refine go (fun _ k => XS.astore X6.here hx rfl (hb hby at_59) rfl rfl (l' := #[.val (.int p1), .val (.int (bz (¬ ((p1 &&& (1 : Int32)) = (0 : Int32))))), .val (.int (bz (¬ ((p1 &&& (2 : Int32)) = (0 : Int32))))), .val (.int (bz (¬ ((p1 &&& (4 : Int32)) = (0 : Int32))))), .val (.int (bz (¬ ((p1 &&& (8 : Int32)) = (0 : Int32))))), .val (.ref b5), .unset, .unset, .unset, .unset]) rfl k) ?_
          show Go p e below _ (T6.setTop (mkF m 61 #[.val (.int p1), .val (.int (bz (¬ ((p1 &&& (1 : Int32)) = (0 : Int32))))), .val (.int (bz (¬ ((p1 &&& (2 : Int32)) = (0 : Int32))))), .val (.int (bz (¬ ((p1 &&& (4 : Int32)) = (0 : Int32))))), .val (.int (bz (¬ ((p1 &&& (8 : Int32)) = (0 : Int32))))), .val (.ref b5), .unset, .unset, .unset, .unset] []))
          obtain ⟨T8, h8, X8, e8, E8, A8, D8, -, st8⟩ := newO X6 hx hZ hown (hw _ (List.mem_of_getElem? (i := 0) rfl)) (hw _ (List.mem_of_getElem? (i := 1) rfl)) (hw _ (List.mem_of_getElem? (i := 2) rfl)) rfl (g := (mkF m 61 #[.val (.int p1), .val (.int (bz (¬ ((p1 &&& (1 : Int32)) = (0 : Int32))))), .val (.int (bz (¬ ((p1 &&& (2 : Int32)) = (0 : Int32))))), .val (.int (bz (¬ ((p1 &&& (4 : Int32)) = (0 : Int32))))), .val (.int (bz (¬ ((p1 &&& (8 : Int32)) = (0 : Int32))))), .val (.ref b5), .unset, .unset, .unset, .unset] [])) rfl (hb hby at_61) (by decide) (by decide)
          obtain ⟨b8, g8⟩ : ∃ z, z = T6.heap.size := ⟨_, rfl⟩
          rw [← g8] at A8 D8 st8
          have K9 : Keep h0 T6.heap [] := (K7.trans r6_0 (allS (Or.inr sz_b5) all0))
          have sz_b8 : h0.size ≤ b8 := Nat.le_trans K9.1 (Nat.le_of_eq g8.symm)
          have g_b8 : n0 ≤ b8 := Nat.le_trans Z0 sz_b8
          have F_withPromotion_b8 : Fld Z h8 b8 "com/example/quotewright/quotewright/pricing/VoucherStacking" "withPromotion" "Z" (.int (0 : Int32)) := D8 (Or.inr (hw _ (List.mem_of_getElem? (i := 15) rfl))) (ty := .boolean) (by decide)
          have F_withVoucher_b8 : Fld Z h8 b8 "com/example/quotewright/quotewright/pricing/VoucherStacking" "withVoucher" "Z" (.int (0 : Int32)) := D8 (Or.inr (hw _ (List.mem_of_getElem? (i := 17) rfl))) (ty := .boolean) (by decide)
          refine go st8 ?_
          show Go p e below _ (T8.setTop (mkF m 64 #[.val (.int p1), .val (.int (bz (¬ ((p1 &&& (1 : Int32)) = (0 : Int32))))), .val (.int (bz (¬ ((p1 &&& (2 : Int32)) = (0 : Int32))))), .val (.int (bz (¬ ((p1 &&& (4 : Int32)) = (0 : Int32))))), .val (.int (bz (¬ ((p1 &&& (8 : Int32)) = (0 : Int32))))), .val (.ref b5), .unset, .unset, .unset, .unset] [(.ref b8)]))
          refine go (fun _ k => XS.dup X8.here hx rfl (hb hby at_64) rfl rfl k) ?_
          show Go p e below _ (T8.setTop (mkF m 65 #[.val (.int p1), .val (.int (bz (¬ ((p1 &&& (1 : Int32)) = (0 : Int32))))), .val (.int (bz (¬ ((p1 &&& (2 : Int32)) = (0 : Int32))))), .val (.int (bz (¬ ((p1 &&& (4 : Int32)) = (0 : Int32))))), .val (.int (bz (¬ ((p1 &&& (8 : Int32)) = (0 : Int32))))), .val (.ref b5), .unset, .unset, .unset, .unset] [(.ref b8), (.ref b8)]))
          refine go (fun _ k => XS.iloadN X8.here hx rfl (hb hby at_65) rfl  k) ?_
          show Go p e below _ (T8.setTop (mkF m 66 #[.val (.int p1), .val (.int (bz (¬ ((p1 &&& (1 : Int32)) = (0 : Int32))))), .val (.int (bz (¬ ((p1 &&& (2 : Int32)) = (0 : Int32))))), .val (.int (bz (¬ ((p1 &&& (4 : Int32)) = (0 : Int32))))), .val (.int (bz (¬ ((p1 &&& (8 : Int32)) = (0 : Int32))))), .val (.ref b5), .unset, .unset, .unset, .unset] [(.int (bz (¬ ((p1 &&& (4 : Int32)) = (0 : Int32))))), (.ref b8), (.ref b8)]))
          refine go (fun _ k => XS.iload X8.here hx rfl (hb hby at_66) rfl  k) ?_
          show Go p e below _ (T8.setTop (mkF m 68 #[.val (.int p1), .val (.int (bz (¬ ((p1 &&& (1 : Int32)) = (0 : Int32))))), .val (.int (bz (¬ ((p1 &&& (2 : Int32)) = (0 : Int32))))), .val (.int (bz (¬ ((p1 &&& (4 : Int32)) = (0 : Int32))))), .val (.int (bz (¬ ((p1 &&& (8 : Int32)) = (0 : Int32))))), .val (.ref b5), .unset, .unset, .unset, .unset] [(.int (bz (¬ ((p1 &&& (8 : Int32)) = (0 : Int32))))), (.int (bz (¬ ((p1 &&& (4 : Int32)) = (0 : Int32))))), (.ref b8), (.ref b8)]))
          have K11 : Keep h0 h8 [] := (K9.ext E8)
          obtain ⟨_, _, ⟨T10, L10, k10, n10⟩, -, X10, ⟨Lc10, hQ10, l10, y10, z10⟩, st10⟩ := X8.specialBack hx (y := (⟨"com/example/quotewright/quotewright/pricing/VoucherStacking", "<init>", "(ZZ)V"⟩ : MethodName)) rfl hown (mvT hZ (hw _ (List.mem_of_getElem? (i := 3) rfl))) (mvT hZ (hw _ (List.mem_of_getElem? (i := 4) rfl))) (mvT hZ (hw _ (List.mem_of_getElem? (i := 5) rfl))) (by decide) (backOf (W := 1) (rm1 l Z a0 hw [] b8 (bz (¬ ((p1 &&& (4 : Int32)) = (0 : Int32)))) (bz (¬ ((p1 &&& (8 : Int32)) = (0 : Int32)))) (.int (0 : Int32)) (.int (0 : Int32)) h8 n0 (Nat.le_trans Z0 K11.1) A8 g_b8 F_withPromotion_b8 F_withVoucher_b8) hZ (hw _ (List.mem_of_getElem? (i := 5) rfl)) (hw _ (List.mem_of_getElem? (i := 2) rfl)) (by decide) (by decide)) (g := (mkF m 68 #[.val (.int p1), .val (.int (bz (¬ ((p1 &&& (1 : Int32)) = (0 : Int32))))), .val (.int (bz (¬ ((p1 &&& (2 : Int32)) = (0 : Int32))))), .val (.int (bz (¬ ((p1 &&& (4 : Int32)) = (0 : Int32))))), .val (.int (bz (¬ ((p1 &&& (8 : Int32)) = (0 : Int32))))), .val (.ref b5), .unset, .unset, .unset, .unset] [(.int (bz (¬ ((p1 &&& (8 : Int32)) = (0 : Int32))))), (.int (bz (¬ ((p1 &&& (4 : Int32)) = (0 : Int32))))), (.ref b8), (.ref b8)])) rfl (by rw [hml]; rfl) (Steps.refl _) (a := b8) (argsL := [(.int (bz (¬ ((p1 &&& (4 : Int32)) = (0 : Int32))))), (.int (bz (¬ ((p1 &&& (8 : Int32)) = (0 : Int32)))))]) (rest := [(.ref b8)]) (lenOf pd_1 rfl) rfl (by show 2 * 0 + _ ≤ _; exact Nat.le_of_eq rfl) (hb hby at_68) (fun _ _ => ⟨rfl, e8, (by decide : 2 + 0 ≤ _), (by decide : 4 + 0 ≤ _)⟩)
          dsimp only [Pt.U, Pt.locs, Pt.cells, Pt.slots] at X10 l10 y10 z10 st10 hQ10
          subst l10 y10 z10
          obtain ⟨rfl, N10q, r10_0, r10_1, r10_2, r10_3⟩ := hQ10
          have N10 := Fr.app N6 N10q
          refine go (fun _ k => st10.trans k) ?_
          show Go p e below _ (T10.setTop (mkF m 71 #[.val (.int p1), .val (.int (bz (¬ ((p1 &&& (1 : Int32)) = (0 : Int32))))), .val (.int (bz (¬ ((p1 &&& (2 : Int32)) = (0 : Int32))))), .val (.int (bz (¬ ((p1 &&& (4 : Int32)) = (0 : Int32))))), .val (.int (bz (¬ ((p1 &&& (8 : Int32)) = (0 : Int32))))), .val (.ref b5), .unset, .unset, .unset, .unset] [(.ref b8)]))
          refine go (fun _ k => XS.astore X10.here hx rfl (hb hby at_71) rfl rfl (l' := #[.val (.int p1), .val (.int (bz (¬ ((p1 &&& (1 : Int32)) = (0 : Int32))))), .val (.int (bz (¬ ((p1 &&& (2 : Int32)) = (0 : Int32))))), .val (.int (bz (¬ ((p1 &&& (4 : Int32)) = (0 : Int32))))), .val (.int (bz (¬ ((p1 &&& (8 : Int32)) = (0 : Int32))))), .val (.ref b5), .val (.ref b8), .unset, .unset, .unset]) rfl k) ?_
          show Go p e below _ (T10.setTop (mkF m 73 #[.val (.int p1), .val (.int (bz (¬ ((p1 &&& (1 : Int32)) = (0 : Int32))))), .val (.int (bz (¬ ((p1 &&& (2 : Int32)) = (0 : Int32))))), .val (.int (bz (¬ ((p1 &&& (4 : Int32)) = (0 : Int32))))), .val (.int (bz (¬ ((p1 &&& (8 : Int32)) = (0 : Int32))))), .val (.ref b5), .val (.ref b8), .unset, .unset, .unset] []))
          refine go (fun _ k => XS.aload X10.here hx rfl (hb hby at_73) rfl rfl  k) ?_
          show Go p e below _ (T10.setTop (mkF m 75 #[.val (.int p1), .val (.int (bz (¬ ((p1 &&& (1 : Int32)) = (0 : Int32))))), .val (.int (bz (¬ ((p1 &&& (2 : Int32)) = (0 : Int32))))), .val (.int (bz (¬ ((p1 &&& (4 : Int32)) = (0 : Int32))))), .val (.int (bz (¬ ((p1 &&& (8 : Int32)) = (0 : Int32))))), .val (.ref b5), .val (.ref b8), .unset, .unset, .unset] [(.ref b5)]))
          refine go (fun _ k => XS.aload X10.here hx rfl (hb hby at_75) rfl rfl  k) ?_
          show Go p e below _ (T10.setTop (mkF m 77 #[.val (.int p1), .val (.int (bz (¬ ((p1 &&& (1 : Int32)) = (0 : Int32))))), .val (.int (bz (¬ ((p1 &&& (2 : Int32)) = (0 : Int32))))), .val (.int (bz (¬ ((p1 &&& (4 : Int32)) = (0 : Int32))))), .val (.int (bz (¬ ((p1 &&& (8 : Int32)) = (0 : Int32))))), .val (.ref b5), .val (.ref b8), .unset, .unset, .unset] [(.ref b8), (.ref b5)]))
          have f12 := ((r6_3.ext E8).keep r10_0 (ninS (Nat.ne_of_lt (Nat.lt_of_lt_of_le r6_1.lt (Nat.le_of_eq g8.symm))) nin0))
          have K14 : Keep h0 T10.heap [] := (K11.trans r10_0 (allS (Or.inr sz_b8) all0))
          obtain ⟨cq13, kq13, q13a, q13b, q13c⟩ := isOf hZ rfl ((r6_1.ext E8).keep r10_0)
          obtain ⟨_, _, ⟨T13, L13, k13, n13⟩, -, X13, ⟨Lc13, hQ13, l13, y13, z13⟩, st13⟩ := X10.virtualBack hx (y := (⟨"com/example/quotewright/quotewright/pricing/VoucherStacking", "stacksOn", "(Lcom/example/quotewright/quotewright/pricing/VoucherStacking;)Z"⟩ : MethodName)) (z := (⟨"com/example/quotewright/quotewright/pricing/VoucherStacking", "stacksOn", "(Lcom/example/quotewright/quotewright/pricing/VoucherStacking;)Z"⟩ : MethodName)) hown (mvT hZ (hw _ (List.mem_of_getElem? (i := 18) rfl))) (mvT hZ (hw _ (List.mem_of_getElem? (i := 19) rfl))) (notFace_of_selects (args := #[]) (mvT hZ (hw _ (List.mem_of_getElem? (i := 21) rfl)))) (mvT hZ (hw _ (List.mem_of_getElem? (i := 21) rfl))) (mvT hZ (hw _ (List.mem_of_getElem? (i := 20) rfl))) (by decide) (backOf (W := 0) (rm4 l Z a0 hw [] b5 b8 (nar .boolean (bz (¬ ((p1 &&& (2 : Int32)) = (0 : Int32))))) (nar .boolean (bz (¬ ((p1 &&& (8 : Int32)) = (0 : Int32))))) T10.heap n0 (Nat.le_trans Z0 K14.1) ((r6_1.ext E8).keep r10_0) f12 r10_3) hZ (hw _ (List.mem_of_getElem? (i := 22) rfl)) (hw _ (List.mem_of_getElem? (i := 2) rfl)) (by decide) (by decide)) q13a q13c (g := (mkF m 77 #[.val (.int p1), .val (.int (bz (¬ ((p1 &&& (1 : Int32)) = (0 : Int32))))), .val (.int (bz (¬ ((p1 &&& (2 : Int32)) = (0 : Int32))))), .val (.int (bz (¬ ((p1 &&& (4 : Int32)) = (0 : Int32))))), .val (.int (bz (¬ ((p1 &&& (8 : Int32)) = (0 : Int32))))), .val (.ref b5), .val (.ref b8), .unset, .unset, .unset] [(.ref b8), (.ref b5)])) rfl (by rw [hml]; rfl) (Steps.refl _) (argsL := [(.ref b8)]) (rest := []) (lenOf pd_2 rfl) rfl (by show 2 * 0 + _ ≤ _; exact Nat.le_of_eq rfl) (hb hby at_77) (fun _ _ => ⟨rfl, rfl, (by decide : 2 + 0 ≤ _), (by decide : 4 + 0 ≤ _)⟩)
          dsimp only [Pt.U, Pt.locs, Pt.cells, Pt.slots] at X13 l13 y13 z13 st13 hQ13
          subst l13 y13 z13
          obtain ⟨rfl, N13q, e13⟩ := hQ13
          have N13 := Fr.app N10 N13q
          skip
          refine go (fun _ k => st13.trans k) ?_
          show Go p e below _ (T13.setTop (mkF m 80 #[.val (.int p1), .val (.int (bz (¬ ((p1 &&& (1 : Int32)) = (0 : Int32))))), .val (.int (bz (¬ ((p1 &&& (2 : Int32)) = (0 : Int32))))), .val (.int (bz (¬ ((p1 &&& (4 : Int32)) = (0 : Int32))))), .val (.int (bz (¬ ((p1 &&& (8 : Int32)) = (0 : Int32))))), .val (.ref b5), .val (.ref b8), .unset, .unset, .unset] [(.int (bz (¬ ((nar .boolean (bz (¬ ((p1 &&& (2 : Int32)) = (0 : Int32))))) = (0 : Int32)) ∧ ¬ ((nar .boolean (bz (¬ ((p1 &&& (8 : Int32)) = (0 : Int32))))) = (0 : Int32)))))]))
          refine go (fun _ k => XS.istore X13.here hx rfl (hb hby at_80) rfl (l' := #[.val (.int p1), .val (.int (bz (¬ ((p1 &&& (1 : Int32)) = (0 : Int32))))), .val (.int (bz (¬ ((p1 &&& (2 : Int32)) = (0 : Int32))))), .val (.int (bz (¬ ((p1 &&& (4 : Int32)) = (0 : Int32))))), .val (.int (bz (¬ ((p1 &&& (8 : Int32)) = (0 : Int32))))), .val (.ref b5), .val (.ref b8), .val (.int (bz (¬ ((nar .boolean (bz (¬ ((p1 &&& (2 : Int32)) = (0 : Int32))))) = (0 : Int32)) ∧ ¬ ((nar .boolean (bz (¬ ((p1 &&& (8 : Int32)) = (0 : Int32))))) = (0 : Int32))))), .unset, .unset]) rfl k) ?_
          show Go p e below _ (T13.setTop (mkF m 82 #[.val (.int p1), .val (.int (bz (¬ ((p1 &&& (1 : Int32)) = (0 : Int32))))), .val (.int (bz (¬ ((p1 &&& (2 : Int32)) = (0 : Int32))))), .val (.int (bz (¬ ((p1 &&& (4 : Int32)) = (0 : Int32))))), .val (.int (bz (¬ ((p1 &&& (8 : Int32)) = (0 : Int32))))), .val (.ref b5), .val (.ref b8), .val (.int (bz (¬ ((nar .boolean (bz (¬ ((p1 &&& (2 : Int32)) = (0 : Int32))))) = (0 : Int32)) ∧ ¬ ((nar .boolean (bz (¬ ((p1 &&& (8 : Int32)) = (0 : Int32))))) = (0 : Int32))))), .unset, .unset] []))
          refine go (fun _ k => XS.aload X13.here hx rfl (hb hby at_82) rfl rfl  k) ?_
          show Go p e below _ (T13.setTop (mkF m 84 #[.val (.int p1), .val (.int (bz (¬ ((p1 &&& (1 : Int32)) = (0 : Int32))))), .val (.int (bz (¬ ((p1 &&& (2 : Int32)) = (0 : Int32))))), .val (.int (bz (¬ ((p1 &&& (4 : Int32)) = (0 : Int32))))), .val (.int (bz (¬ ((p1 &&& (8 : Int32)) = (0 : Int32))))), .val (.ref b5), .val (.ref b8), .val (.int (bz (¬ ((nar .boolean (bz (¬ ((p1 &&& (2 : Int32)) = (0 : Int32))))) = (0 : Int32)) ∧ ¬ ((nar .boolean (bz (¬ ((p1 &&& (8 : Int32)) = (0 : Int32))))) = (0 : Int32))))), .unset, .unset] [(.ref b8)]))
          refine go (fun _ k => XS.aload X13.here hx rfl (hb hby at_84) rfl rfl  k) ?_
          show Go p e below _ (T13.setTop (mkF m 86 #[.val (.int p1), .val (.int (bz (¬ ((p1 &&& (1 : Int32)) = (0 : Int32))))), .val (.int (bz (¬ ((p1 &&& (2 : Int32)) = (0 : Int32))))), .val (.int (bz (¬ ((p1 &&& (4 : Int32)) = (0 : Int32))))), .val (.int (bz (¬ ((p1 &&& (8 : Int32)) = (0 : Int32))))), .val (.ref b5), .val (.ref b8), .val (.int (bz (¬ ((nar .boolean (bz (¬ ((p1 &&& (2 : Int32)) = (0 : Int32))))) = (0 : Int32)) ∧ ¬ ((nar .boolean (bz (¬ ((p1 &&& (8 : Int32)) = (0 : Int32))))) = (0 : Int32))))), .unset, .unset] [(.ref b5), (.ref b8)]))
          obtain ⟨cq15, kq15, q15a, q15b, q15c⟩ := isOf hZ e13 r10_1
          obtain ⟨_, _, ⟨T15, L15, k15, n15⟩, -, X15, ⟨Lc15, hQ15, l15, y15, z15⟩, st15⟩ := X13.virtualBack hx (y := (⟨"com/example/quotewright/quotewright/pricing/VoucherStacking", "stacksOn", "(Lcom/example/quotewright/quotewright/pricing/VoucherStacking;)Z"⟩ : MethodName)) (z := (⟨"com/example/quotewright/quotewright/pricing/VoucherStacking", "stacksOn", "(Lcom/example/quotewright/quotewright/pricing/VoucherStacking;)Z"⟩ : MethodName)) hown (mvT hZ (hw _ (List.mem_of_getElem? (i := 18) rfl))) (mvT hZ (hw _ (List.mem_of_getElem? (i := 19) rfl))) (notFace_of_selects (args := #[]) (mvT hZ (hw _ (List.mem_of_getElem? (i := 21) rfl)))) (mvT hZ (hw _ (List.mem_of_getElem? (i := 21) rfl))) (mvT hZ (hw _ (List.mem_of_getElem? (i := 20) rfl))) (by decide) (backOf (W := 0) (rm4 l Z a0 hw [] b8 b5 (nar .boolean (bz (¬ ((p1 &&& (8 : Int32)) = (0 : Int32))))) (nar .boolean (bz (¬ ((p1 &&& (2 : Int32)) = (0 : Int32))))) T10.heap n0 (Nat.le_trans Z0 K14.1) r10_1 r10_3 f12) hZ (hw _ (List.mem_of_getElem? (i := 22) rfl)) (hw _ (List.mem_of_getElem? (i := 2) rfl)) (by decide) (by decide)) q15a q15c (g := (mkF m 86 #[.val (.int p1), .val (.int (bz (¬ ((p1 &&& (1 : Int32)) = (0 : Int32))))), .val (.int (bz (¬ ((p1 &&& (2 : Int32)) = (0 : Int32))))), .val (.int (bz (¬ ((p1 &&& (4 : Int32)) = (0 : Int32))))), .val (.int (bz (¬ ((p1 &&& (8 : Int32)) = (0 : Int32))))), .val (.ref b5), .val (.ref b8), .val (.int (bz (¬ ((nar .boolean (bz (¬ ((p1 &&& (2 : Int32)) = (0 : Int32))))) = (0 : Int32)) ∧ ¬ ((nar .boolean (bz (¬ ((p1 &&& (8 : Int32)) = (0 : Int32))))) = (0 : Int32))))), .unset, .unset] [(.ref b5), (.ref b8)])) rfl (by rw [hml]; rfl) (Steps.refl _) (argsL := [(.ref b5)]) (rest := []) (lenOf pd_2 rfl) rfl (by show 2 * 0 + _ ≤ _; exact Nat.le_of_eq rfl) (hb hby at_86) (fun _ _ => ⟨rfl, e13, (by decide : 2 + 0 ≤ _), (by decide : 4 + 0 ≤ _)⟩)
          dsimp only [Pt.U, Pt.locs, Pt.cells, Pt.slots] at X15 l15 y15 z15 st15 hQ15
          subst l15 y15 z15
          obtain ⟨rfl, N15q, e15⟩ := hQ15
          have N15 := Fr.app N13 N15q
          skip
          refine go (fun _ k => st15.trans k) ?_
          show Go p e below _ (T15.setTop (mkF m 89 #[.val (.int p1), .val (.int (bz (¬ ((p1 &&& (1 : Int32)) = (0 : Int32))))), .val (.int (bz (¬ ((p1 &&& (2 : Int32)) = (0 : Int32))))), .val (.int (bz (¬ ((p1 &&& (4 : Int32)) = (0 : Int32))))), .val (.int (bz (¬ ((p1 &&& (8 : Int32)) = (0 : Int32))))), .val (.ref b5), .val (.ref b8), .val (.int (bz (¬ ((nar .boolean (bz (¬ ((p1 &&& (2 : Int32)) = (0 : Int32))))) = (0 : Int32)) ∧ ¬ ((nar .boolean (bz (¬ ((p1 &&& (8 : Int32)) = (0 : Int32))))) = (0 : Int32))))), .unset, .unset] [(.int (bz (¬ ((nar .boolean (bz (¬ ((p1 &&& (8 : Int32)) = (0 : Int32))))) = (0 : Int32)) ∧ ¬ ((nar .boolean (bz (¬ ((p1 &&& (2 : Int32)) = (0 : Int32))))) = (0 : Int32)))))]))
          refine go (fun _ k => XS.istore X15.here hx rfl (hb hby at_89) rfl (l' := #[.val (.int p1), .val (.int (bz (¬ ((p1 &&& (1 : Int32)) = (0 : Int32))))), .val (.int (bz (¬ ((p1 &&& (2 : Int32)) = (0 : Int32))))), .val (.int (bz (¬ ((p1 &&& (4 : Int32)) = (0 : Int32))))), .val (.int (bz (¬ ((p1 &&& (8 : Int32)) = (0 : Int32))))), .val (.ref b5), .val (.ref b8), .val (.int (bz (¬ ((nar .boolean (bz (¬ ((p1 &&& (2 : Int32)) = (0 : Int32))))) = (0 : Int32)) ∧ ¬ ((nar .boolean (bz (¬ ((p1 &&& (8 : Int32)) = (0 : Int32))))) = (0 : Int32))))), .val (.int (bz (¬ ((nar .boolean (bz (¬ ((p1 &&& (8 : Int32)) = (0 : Int32))))) = (0 : Int32)) ∧ ¬ ((nar .boolean (bz (¬ ((p1 &&& (2 : Int32)) = (0 : Int32))))) = (0 : Int32))))), .unset]) rfl k) ?_
          show Go p e below _ (T15.setTop (mkF m 91 #[.val (.int p1), .val (.int (bz (¬ ((p1 &&& (1 : Int32)) = (0 : Int32))))), .val (.int (bz (¬ ((p1 &&& (2 : Int32)) = (0 : Int32))))), .val (.int (bz (¬ ((p1 &&& (4 : Int32)) = (0 : Int32))))), .val (.int (bz (¬ ((p1 &&& (8 : Int32)) = (0 : Int32))))), .val (.ref b5), .val (.ref b8), .val (.int (bz (¬ ((nar .boolean (bz (¬ ((p1 &&& (2 : Int32)) = (0 : Int32))))) = (0 : Int32)) ∧ ¬ ((nar .boolean (bz (¬ ((p1 &&& (8 : Int32)) = (0 : Int32))))) = (0 : Int32))))), .val (.int (bz (¬ ((nar .boolean (bz (¬ ((p1 &&& (8 : Int32)) = (0 : Int32))))) = (0 : Int32)) ∧ ¬ ((nar .boolean (bz (¬ ((p1 &&& (2 : Int32)) = (0 : Int32))))) = (0 : Int32))))), .unset] []))
          refine go (fun _ k => XS.iloadN X15.here hx rfl (hb hby at_91) rfl  k) ?_
          show Go p e below _ (T15.setTop (mkF m 92 #[.val (.int p1), .val (.int (bz (¬ ((p1 &&& (1 : Int32)) = (0 : Int32))))), .val (.int (bz (¬ ((p1 &&& (2 : Int32)) = (0 : Int32))))), .val (.int (bz (¬ ((p1 &&& (4 : Int32)) = (0 : Int32))))), .val (.int (bz (¬ ((p1 &&& (8 : Int32)) = (0 : Int32))))), .val (.ref b5), .val (.ref b8), .val (.int (bz (¬ ((nar .boolean (bz (¬ ((p1 &&& (2 : Int32)) = (0 : Int32))))) = (0 : Int32)) ∧ ¬ ((nar .boolean (bz (¬ ((p1 &&& (8 : Int32)) = (0 : Int32))))) = (0 : Int32))))), .val (.int (bz (¬ ((nar .boolean (bz (¬ ((p1 &&& (8 : Int32)) = (0 : Int32))))) = (0 : Int32)) ∧ ¬ ((nar .boolean (bz (¬ ((p1 &&& (2 : Int32)) = (0 : Int32))))) = (0 : Int32))))), .unset] [(.int (bz (¬ ((p1 &&& (2 : Int32)) = (0 : Int32)))))]))
          by_cases hc92_9 : ¬ ((p1 &&& (2 : Int32)) = (0 : Int32))
          · skip
            refine go (fun _ k => XS.ifNo X15.here hx rfl (hb hby at_92) rfl ((if0 _ _).trans (feq (bz_ne hc92_9)).1) k) ?_
            show Go p e below _ (T15.setTop (mkF m 95 #[.val (.int p1), .val (.int (bz (¬ ((p1 &&& (1 : Int32)) = (0 : Int32))))), .val (.int (bz (¬ ((p1 &&& (2 : Int32)) = (0 : Int32))))), .val (.int (bz (¬ ((p1 &&& (4 : Int32)) = (0 : Int32))))), .val (.int (bz (¬ ((p1 &&& (8 : Int32)) = (0 : Int32))))), .val (.ref b5), .val (.ref b8), .val (.int (bz (¬ ((nar .boolean (bz (¬ ((p1 &&& (2 : Int32)) = (0 : Int32))))) = (0 : Int32)) ∧ ¬ ((nar .boolean (bz (¬ ((p1 &&& (8 : Int32)) = (0 : Int32))))) = (0 : Int32))))), .val (.int (bz (¬ ((nar .boolean (bz (¬ ((p1 &&& (8 : Int32)) = (0 : Int32))))) = (0 : Int32)) ∧ ¬ ((nar .boolean (bz (¬ ((p1 &&& (2 : Int32)) = (0 : Int32))))) = (0 : Int32))))), .unset] []))
            refine go (fun _ k => XS.iload X15.here hx rfl (hb hby at_95) rfl  k) ?_
            show Go p e below _ (T15.setTop (mkF m 97 #[.val (.int p1), .val (.int (bz (¬ ((p1 &&& (1 : Int32)) = (0 : Int32))))), .val (.int (bz (¬ ((p1 &&& (2 : Int32)) = (0 : Int32))))), .val (.int (bz (¬ ((p1 &&& (4 : Int32)) = (0 : Int32))))), .val (.int (bz (¬ ((p1 &&& (8 : Int32)) = (0 : Int32))))), .val (.ref b5), .val (.ref b8), .val (.int (bz (¬ ((nar .boolean (bz (¬ ((p1 &&& (2 : Int32)) = (0 : Int32))))) = (0 : Int32)) ∧ ¬ ((nar .boolean (bz (¬ ((p1 &&& (8 : Int32)) = (0 : Int32))))) = (0 : Int32))))), .val (.int (bz (¬ ((nar .boolean (bz (¬ ((p1 &&& (8 : Int32)) = (0 : Int32))))) = (0 : Int32)) ∧ ¬ ((nar .boolean (bz (¬ ((p1 &&& (2 : Int32)) = (0 : Int32))))) = (0 : Int32))))), .unset] [(.int (bz (¬ ((p1 &&& (8 : Int32)) = (0 : Int32)))))]))
            by_cases hc97_10 : ¬ ((p1 &&& (8 : Int32)) = (0 : Int32))
            · skip
              refine go (fun _ k => XS.ifNo X15.here hx rfl (hb hby at_97) rfl ((if0 _ _).trans (feq (bz_ne hc97_10)).1) k) ?_
              show Go p e below _ (T15.setTop (mkF m 100 #[.val (.int p1), .val (.int (bz (¬ ((p1 &&& (1 : Int32)) = (0 : Int32))))), .val (.int (bz (¬ ((p1 &&& (2 : Int32)) = (0 : Int32))))), .val (.int (bz (¬ ((p1 &&& (4 : Int32)) = (0 : Int32))))), .val (.int (bz (¬ ((p1 &&& (8 : Int32)) = (0 : Int32))))), .val (.ref b5), .val (.ref b8), .val (.int (bz (¬ ((nar .boolean (bz (¬ ((p1 &&& (2 : Int32)) = (0 : Int32))))) = (0 : Int32)) ∧ ¬ ((nar .boolean (bz (¬ ((p1 &&& (8 : Int32)) = (0 : Int32))))) = (0 : Int32))))), .val (.int (bz (¬ ((nar .boolean (bz (¬ ((p1 &&& (8 : Int32)) = (0 : Int32))))) = (0 : Int32)) ∧ ¬ ((nar .boolean (bz (¬ ((p1 &&& (2 : Int32)) = (0 : Int32))))) = (0 : Int32))))), .unset] []))
              refine go (fun _ k => XS.iconst X15.here hx rfl (hb hby at_100) k) ?_
              show Go p e below _ (T15.setTop (mkF m 101 #[.val (.int p1), .val (.int (bz (¬ ((p1 &&& (1 : Int32)) = (0 : Int32))))), .val (.int (bz (¬ ((p1 &&& (2 : Int32)) = (0 : Int32))))), .val (.int (bz (¬ ((p1 &&& (4 : Int32)) = (0 : Int32))))), .val (.int (bz (¬ ((p1 &&& (8 : Int32)) = (0 : Int32))))), .val (.ref b5), .val (.ref b8), .val (.int (bz (¬ ((nar .boolean (bz (¬ ((p1 &&& (2 : Int32)) = (0 : Int32))))) = (0 : Int32)) ∧ ¬ ((nar .boolean (bz (¬ ((p1 &&& (8 : Int32)) = (0 : Int32))))) = (0 : Int32))))), .val (.int (bz (¬ ((nar .boolean (bz (¬ ((p1 &&& (8 : Int32)) = (0 : Int32))))) = (0 : Int32)) ∧ ¬ ((nar .boolean (bz (¬ ((p1 &&& (2 : Int32)) = (0 : Int32))))) = (0 : Int32))))), .unset] [(.int (1 : Int32))]))
              refine go (fun _ k => XS.istore X15.here hx rfl (hb hby at_101) rfl (l' := #[.val (.int p1), .val (.int (bz (¬ ((p1 &&& (1 : Int32)) = (0 : Int32))))), .val (.int (bz (¬ ((p1 &&& (2 : Int32)) = (0 : Int32))))), .val (.int (bz (¬ ((p1 &&& (4 : Int32)) = (0 : Int32))))), .val (.int (bz (¬ ((p1 &&& (8 : Int32)) = (0 : Int32))))), .val (.ref b5), .val (.ref b8), .val (.int (bz (¬ ((nar .boolean (bz (¬ ((p1 &&& (2 : Int32)) = (0 : Int32))))) = (0 : Int32)) ∧ ¬ ((nar .boolean (bz (¬ ((p1 &&& (8 : Int32)) = (0 : Int32))))) = (0 : Int32))))), .val (.int (bz (¬ ((nar .boolean (bz (¬ ((p1 &&& (8 : Int32)) = (0 : Int32))))) = (0 : Int32)) ∧ ¬ ((nar .boolean (bz (¬ ((p1 &&& (2 : Int32)) = (0 : Int32))))) = (0 : Int32))))), .val (.int (1 : Int32))]) rfl k) ?_
              show Go p e below _ (T15.setTop (mkF m 103 #[.val (.int p1), .val (.int (bz (¬ ((p1 &&& (1 : Int32)) = (0 : Int32))))), .val (.int (bz (¬ ((p1 &&& (2 : Int32)) = (0 : Int32))))), .val (.int (bz (¬ ((p1 &&& (4 : Int32)) = (0 : Int32))))), .val (.int (bz (¬ ((p1 &&& (8 : Int32)) = (0 : Int32))))), .val (.ref b5), .val (.ref b8), .val (.int (bz (¬ ((nar .boolean (bz (¬ ((p1 &&& (2 : Int32)) = (0 : Int32))))) = (0 : Int32)) ∧ ¬ ((nar .boolean (bz (¬ ((p1 &&& (8 : Int32)) = (0 : Int32))))) = (0 : Int32))))), .val (.int (bz (¬ ((nar .boolean (bz (¬ ((p1 &&& (8 : Int32)) = (0 : Int32))))) = (0 : Int32)) ∧ ¬ ((nar .boolean (bz (¬ ((p1 &&& (2 : Int32)) = (0 : Int32))))) = (0 : Int32))))), .val (.int (1 : Int32))] []))
              refine go (fun _ k => XS.goto X15.here hx rfl (pc0 := 103) (pc' := 115) rfl (hb hby at_103) (by decide) (by decide) k) ?_
              show Go p e below _ (T15.setTop (mkF m 115 #[.val (.int p1), .val (.int (bz (¬ ((p1 &&& (1 : Int32)) = (0 : Int32))))), .val (.int (bz (¬ ((p1 &&& (2 : Int32)) = (0 : Int32))))), .val (.int (bz (¬ ((p1 &&& (4 : Int32)) = (0 : Int32))))), .val (.int (bz (¬ ((p1 &&& (8 : Int32)) = (0 : Int32))))), .val (.ref b5), .val (.ref b8), .val (.int (bz (¬ ((nar .boolean (bz (¬ ((p1 &&& (2 : Int32)) = (0 : Int32))))) = (0 : Int32)) ∧ ¬ ((nar .boolean (bz (¬ ((p1 &&& (8 : Int32)) = (0 : Int32))))) = (0 : Int32))))), .val (.int (bz (¬ ((nar .boolean (bz (¬ ((p1 &&& (8 : Int32)) = (0 : Int32))))) = (0 : Int32)) ∧ ¬ ((nar .boolean (bz (¬ ((p1 &&& (2 : Int32)) = (0 : Int32))))) = (0 : Int32))))), .val (.int (1 : Int32))] []))
              refine go (fun _ k => XS.iload X15.here hx rfl (hb hby at_115) rfl  k) ?_
              show Go p e below _ (T15.setTop (mkF m 117 #[.val (.int p1), .val (.int (bz (¬ ((p1 &&& (1 : Int32)) = (0 : Int32))))), .val (.int (bz (¬ ((p1 &&& (2 : Int32)) = (0 : Int32))))), .val (.int (bz (¬ ((p1 &&& (4 : Int32)) = (0 : Int32))))), .val (.int (bz (¬ ((p1 &&& (8 : Int32)) = (0 : Int32))))), .val (.ref b5), .val (.ref b8), .val (.int (bz (¬ ((nar .boolean (bz (¬ ((p1 &&& (2 : Int32)) = (0 : Int32))))) = (0 : Int32)) ∧ ¬ ((nar .boolean (bz (¬ ((p1 &&& (8 : Int32)) = (0 : Int32))))) = (0 : Int32))))), .val (.int (bz (¬ ((nar .boolean (bz (¬ ((p1 &&& (8 : Int32)) = (0 : Int32))))) = (0 : Int32)) ∧ ¬ ((nar .boolean (bz (¬ ((p1 &&& (2 : Int32)) = (0 : Int32))))) = (0 : Int32))))), .val (.int (1 : Int32))] [(.int (bz (¬ ((nar .boolean (bz (¬ ((p1 &&& (2 : Int32)) = (0 : Int32))))) = (0 : Int32)) ∧ ¬ ((nar .boolean (bz (¬ ((p1 &&& (8 : Int32)) = (0 : Int32))))) = (0 : Int32)))))]))
              refine go (fun _ k => XS.iload X15.here hx rfl (hb hby at_117) rfl  k) ?_
              show Go p e below _ (T15.setTop (mkF m 119 #[.val (.int p1), .val (.int (bz (¬ ((p1 &&& (1 : Int32)) = (0 : Int32))))), .val (.int (bz (¬ ((p1 &&& (2 : Int32)) = (0 : Int32))))), .val (.int (bz (¬ ((p1 &&& (4 : Int32)) = (0 : Int32))))), .val (.int (bz (¬ ((p1 &&& (8 : Int32)) = (0 : Int32))))), .val (.ref b5), .val (.ref b8), .val (.int (bz (¬ ((nar .boolean (bz (¬ ((p1 &&& (2 : Int32)) = (0 : Int32))))) = (0 : Int32)) ∧ ¬ ((nar .boolean (bz (¬ ((p1 &&& (8 : Int32)) = (0 : Int32))))) = (0 : Int32))))), .val (.int (bz (¬ ((nar .boolean (bz (¬ ((p1 &&& (8 : Int32)) = (0 : Int32))))) = (0 : Int32)) ∧ ¬ ((nar .boolean (bz (¬ ((p1 &&& (2 : Int32)) = (0 : Int32))))) = (0 : Int32))))), .val (.int (1 : Int32))] [(.int (1 : Int32)), (.int (bz (¬ ((nar .boolean (bz (¬ ((p1 &&& (2 : Int32)) = (0 : Int32))))) = (0 : Int32)) ∧ ¬ ((nar .boolean (bz (¬ ((p1 &&& (8 : Int32)) = (0 : Int32))))) = (0 : Int32)))))]))
              have hc119_11 : (bz (¬ ((nar .boolean (bz (¬ ((p1 &&& (2 : Int32)) = (0 : Int32))))) = (0 : Int32)) ∧ ¬ ((nar .boolean (bz (¬ ((p1 &&& (8 : Int32)) = (0 : Int32))))) = (0 : Int32)))) = (1 : Int32) := by rw [own_st]; first | exact bz_t ⟨by assumption, by assumption⟩ | exact bz_f (fun q => absurd q.1 (by assumption)) | exact bz_f (fun q => absurd q.2 (by assumption))
              refine go (fun _ k => XS.icmpNo X15.here hx rfl (hb hby at_119) rfl (teq hc119_11).2 k) ?_
              show Go p e below _ (T15.setTop (mkF m 122 #[.val (.int p1), .val (.int (bz (¬ ((p1 &&& (1 : Int32)) = (0 : Int32))))), .val (.int (bz (¬ ((p1 &&& (2 : Int32)) = (0 : Int32))))), .val (.int (bz (¬ ((p1 &&& (4 : Int32)) = (0 : Int32))))), .val (.int (bz (¬ ((p1 &&& (8 : Int32)) = (0 : Int32))))), .val (.ref b5), .val (.ref b8), .val (.int (bz (¬ ((nar .boolean (bz (¬ ((p1 &&& (2 : Int32)) = (0 : Int32))))) = (0 : Int32)) ∧ ¬ ((nar .boolean (bz (¬ ((p1 &&& (8 : Int32)) = (0 : Int32))))) = (0 : Int32))))), .val (.int (bz (¬ ((nar .boolean (bz (¬ ((p1 &&& (8 : Int32)) = (0 : Int32))))) = (0 : Int32)) ∧ ¬ ((nar .boolean (bz (¬ ((p1 &&& (2 : Int32)) = (0 : Int32))))) = (0 : Int32))))), .val (.int (1 : Int32))] []))
              refine go (fun _ k => XS.iload X15.here hx rfl (hb hby at_122) rfl  k) ?_
              show Go p e below _ (T15.setTop (mkF m 124 #[.val (.int p1), .val (.int (bz (¬ ((p1 &&& (1 : Int32)) = (0 : Int32))))), .val (.int (bz (¬ ((p1 &&& (2 : Int32)) = (0 : Int32))))), .val (.int (bz (¬ ((p1 &&& (4 : Int32)) = (0 : Int32))))), .val (.int (bz (¬ ((p1 &&& (8 : Int32)) = (0 : Int32))))), .val (.ref b5), .val (.ref b8), .val (.int (bz (¬ ((nar .boolean (bz (¬ ((p1 &&& (2 : Int32)) = (0 : Int32))))) = (0 : Int32)) ∧ ¬ ((nar .boolean (bz (¬ ((p1 &&& (8 : Int32)) = (0 : Int32))))) = (0 : Int32))))), .val (.int (bz (¬ ((nar .boolean (bz (¬ ((p1 &&& (8 : Int32)) = (0 : Int32))))) = (0 : Int32)) ∧ ¬ ((nar .boolean (bz (¬ ((p1 &&& (2 : Int32)) = (0 : Int32))))) = (0 : Int32))))), .val (.int (1 : Int32))] [(.int (bz (¬ ((nar .boolean (bz (¬ ((p1 &&& (8 : Int32)) = (0 : Int32))))) = (0 : Int32)) ∧ ¬ ((nar .boolean (bz (¬ ((p1 &&& (2 : Int32)) = (0 : Int32))))) = (0 : Int32)))))]))
              refine go (fun _ k => XS.iload X15.here hx rfl (hb hby at_124) rfl  k) ?_
              show Go p e below _ (T15.setTop (mkF m 126 #[.val (.int p1), .val (.int (bz (¬ ((p1 &&& (1 : Int32)) = (0 : Int32))))), .val (.int (bz (¬ ((p1 &&& (2 : Int32)) = (0 : Int32))))), .val (.int (bz (¬ ((p1 &&& (4 : Int32)) = (0 : Int32))))), .val (.int (bz (¬ ((p1 &&& (8 : Int32)) = (0 : Int32))))), .val (.ref b5), .val (.ref b8), .val (.int (bz (¬ ((nar .boolean (bz (¬ ((p1 &&& (2 : Int32)) = (0 : Int32))))) = (0 : Int32)) ∧ ¬ ((nar .boolean (bz (¬ ((p1 &&& (8 : Int32)) = (0 : Int32))))) = (0 : Int32))))), .val (.int (bz (¬ ((nar .boolean (bz (¬ ((p1 &&& (8 : Int32)) = (0 : Int32))))) = (0 : Int32)) ∧ ¬ ((nar .boolean (bz (¬ ((p1 &&& (2 : Int32)) = (0 : Int32))))) = (0 : Int32))))), .val (.int (1 : Int32))] [(.int (1 : Int32)), (.int (bz (¬ ((nar .boolean (bz (¬ ((p1 &&& (8 : Int32)) = (0 : Int32))))) = (0 : Int32)) ∧ ¬ ((nar .boolean (bz (¬ ((p1 &&& (2 : Int32)) = (0 : Int32))))) = (0 : Int32)))))]))
              have hc126_12 : (bz (¬ ((nar .boolean (bz (¬ ((p1 &&& (8 : Int32)) = (0 : Int32))))) = (0 : Int32)) ∧ ¬ ((nar .boolean (bz (¬ ((p1 &&& (2 : Int32)) = (0 : Int32))))) = (0 : Int32)))) = (1 : Int32) := by rw [own_st]; first | exact bz_t ⟨by assumption, by assumption⟩ | exact bz_f (fun q => absurd q.1 (by assumption)) | exact bz_f (fun q => absurd q.2 (by assumption))
              refine go (fun _ k => XS.icmpNo X15.here hx rfl (hb hby at_126) rfl (teq hc126_12).2 k) ?_
              show Go p e below _ (T15.setTop (mkF m 129 #[.val (.int p1), .val (.int (bz (¬ ((p1 &&& (1 : Int32)) = (0 : Int32))))), .val (.int (bz (¬ ((p1 &&& (2 : Int32)) = (0 : Int32))))), .val (.int (bz (¬ ((p1 &&& (4 : Int32)) = (0 : Int32))))), .val (.int (bz (¬ ((p1 &&& (8 : Int32)) = (0 : Int32))))), .val (.ref b5), .val (.ref b8), .val (.int (bz (¬ ((nar .boolean (bz (¬ ((p1 &&& (2 : Int32)) = (0 : Int32))))) = (0 : Int32)) ∧ ¬ ((nar .boolean (bz (¬ ((p1 &&& (8 : Int32)) = (0 : Int32))))) = (0 : Int32))))), .val (.int (bz (¬ ((nar .boolean (bz (¬ ((p1 &&& (8 : Int32)) = (0 : Int32))))) = (0 : Int32)) ∧ ¬ ((nar .boolean (bz (¬ ((p1 &&& (2 : Int32)) = (0 : Int32))))) = (0 : Int32))))), .val (.int (1 : Int32))] []))
              refine go (fun _ k => XS.iconst X15.here hx rfl (hb hby at_129) k) ?_
              show Go p e below _ (T15.setTop (mkF m 130 #[.val (.int p1), .val (.int (bz (¬ ((p1 &&& (1 : Int32)) = (0 : Int32))))), .val (.int (bz (¬ ((p1 &&& (2 : Int32)) = (0 : Int32))))), .val (.int (bz (¬ ((p1 &&& (4 : Int32)) = (0 : Int32))))), .val (.int (bz (¬ ((p1 &&& (8 : Int32)) = (0 : Int32))))), .val (.ref b5), .val (.ref b8), .val (.int (bz (¬ ((nar .boolean (bz (¬ ((p1 &&& (2 : Int32)) = (0 : Int32))))) = (0 : Int32)) ∧ ¬ ((nar .boolean (bz (¬ ((p1 &&& (8 : Int32)) = (0 : Int32))))) = (0 : Int32))))), .val (.int (bz (¬ ((nar .boolean (bz (¬ ((p1 &&& (8 : Int32)) = (0 : Int32))))) = (0 : Int32)) ∧ ¬ ((nar .boolean (bz (¬ ((p1 &&& (2 : Int32)) = (0 : Int32))))) = (0 : Int32))))), .val (.int (1 : Int32))] [(.int (1 : Int32))]))
              refine go (fun _ k => XS.goto X15.here hx rfl (pc0 := 130) (pc' := 134) rfl (hb hby at_130) (by decide) (by decide) k) ?_
              show Go p e below _ (T15.setTop (mkF m 134 #[.val (.int p1), .val (.int (bz (¬ ((p1 &&& (1 : Int32)) = (0 : Int32))))), .val (.int (bz (¬ ((p1 &&& (2 : Int32)) = (0 : Int32))))), .val (.int (bz (¬ ((p1 &&& (4 : Int32)) = (0 : Int32))))), .val (.int (bz (¬ ((p1 &&& (8 : Int32)) = (0 : Int32))))), .val (.ref b5), .val (.ref b8), .val (.int (bz (¬ ((nar .boolean (bz (¬ ((p1 &&& (2 : Int32)) = (0 : Int32))))) = (0 : Int32)) ∧ ¬ ((nar .boolean (bz (¬ ((p1 &&& (8 : Int32)) = (0 : Int32))))) = (0 : Int32))))), .val (.int (bz (¬ ((nar .boolean (bz (¬ ((p1 &&& (8 : Int32)) = (0 : Int32))))) = (0 : Int32)) ∧ ¬ ((nar .boolean (bz (¬ ((p1 &&& (2 : Int32)) = (0 : Int32))))) = (0 : Int32))))), .val (.int (1 : Int32))] [(.int (1 : Int32))]))
              obtain ⟨fs, hr, hrun, hended, hW, hsame⟩ := X15.leave (v := some (.int (1 : Int32))) (fun h => by rw [Bd.returns] at h; cases h)
              refine leaf (T := T15) ⟨fs, retN X15 hx (t := .boolean) Bd.returns (by simp) (hb hby at_134) hr, hrun, hended, hW, hsame⟩ ?_ (by decide) (by decide)
              show Q0 Z p1 h0 n0 _ T15.heap _
              rw [e15]
              exact ⟨rfl, N15⟩
            · skip
              refine go (fun _ k => XS.ifYes X15.here hx rfl (pc0 := 97) (pc' := 106) rfl (hb hby at_97) rfl ((if0 _ _).trans (teq (bz_f hc97_10)).1) (by decide) (by decide) k) ?_
              show Go p e below _ (T15.setTop (mkF m 106 #[.val (.int p1), .val (.int (bz (¬ ((p1 &&& (1 : Int32)) = (0 : Int32))))), .val (.int (bz (¬ ((p1 &&& (2 : Int32)) = (0 : Int32))))), .val (.int (bz (¬ ((p1 &&& (4 : Int32)) = (0 : Int32))))), .val (.int (bz (¬ ((p1 &&& (8 : Int32)) = (0 : Int32))))), .val (.ref b5), .val (.ref b8), .val (.int (bz (¬ ((nar .boolean (bz (¬ ((p1 &&& (2 : Int32)) = (0 : Int32))))) = (0 : Int32)) ∧ ¬ ((nar .boolean (bz (¬ ((p1 &&& (8 : Int32)) = (0 : Int32))))) = (0 : Int32))))), .val (.int (bz (¬ ((nar .boolean (bz (¬ ((p1 &&& (8 : Int32)) = (0 : Int32))))) = (0 : Int32)) ∧ ¬ ((nar .boolean (bz (¬ ((p1 &&& (2 : Int32)) = (0 : Int32))))) = (0 : Int32))))), .unset] []))
              refine go (fun _ k => XS.iconst X15.here hx rfl (hb hby at_106) k) ?_
              show Go p e below _ (T15.setTop (mkF m 107 #[.val (.int p1), .val (.int (bz (¬ ((p1 &&& (1 : Int32)) = (0 : Int32))))), .val (.int (bz (¬ ((p1 &&& (2 : Int32)) = (0 : Int32))))), .val (.int (bz (¬ ((p1 &&& (4 : Int32)) = (0 : Int32))))), .val (.int (bz (¬ ((p1 &&& (8 : Int32)) = (0 : Int32))))), .val (.ref b5), .val (.ref b8), .val (.int (bz (¬ ((nar .boolean (bz (¬ ((p1 &&& (2 : Int32)) = (0 : Int32))))) = (0 : Int32)) ∧ ¬ ((nar .boolean (bz (¬ ((p1 &&& (8 : Int32)) = (0 : Int32))))) = (0 : Int32))))), .val (.int (bz (¬ ((nar .boolean (bz (¬ ((p1 &&& (8 : Int32)) = (0 : Int32))))) = (0 : Int32)) ∧ ¬ ((nar .boolean (bz (¬ ((p1 &&& (2 : Int32)) = (0 : Int32))))) = (0 : Int32))))), .unset] [(.int (0 : Int32))]))
              refine go (fun _ k => XS.istore X15.here hx rfl (hb hby at_107) rfl (l' := #[.val (.int p1), .val (.int (bz (¬ ((p1 &&& (1 : Int32)) = (0 : Int32))))), .val (.int (bz (¬ ((p1 &&& (2 : Int32)) = (0 : Int32))))), .val (.int (bz (¬ ((p1 &&& (4 : Int32)) = (0 : Int32))))), .val (.int (bz (¬ ((p1 &&& (8 : Int32)) = (0 : Int32))))), .val (.ref b5), .val (.ref b8), .val (.int (bz (¬ ((nar .boolean (bz (¬ ((p1 &&& (2 : Int32)) = (0 : Int32))))) = (0 : Int32)) ∧ ¬ ((nar .boolean (bz (¬ ((p1 &&& (8 : Int32)) = (0 : Int32))))) = (0 : Int32))))), .val (.int (bz (¬ ((nar .boolean (bz (¬ ((p1 &&& (8 : Int32)) = (0 : Int32))))) = (0 : Int32)) ∧ ¬ ((nar .boolean (bz (¬ ((p1 &&& (2 : Int32)) = (0 : Int32))))) = (0 : Int32))))), .val (.int (0 : Int32))]) rfl k) ?_
              show Go p e below _ (T15.setTop (mkF m 109 #[.val (.int p1), .val (.int (bz (¬ ((p1 &&& (1 : Int32)) = (0 : Int32))))), .val (.int (bz (¬ ((p1 &&& (2 : Int32)) = (0 : Int32))))), .val (.int (bz (¬ ((p1 &&& (4 : Int32)) = (0 : Int32))))), .val (.int (bz (¬ ((p1 &&& (8 : Int32)) = (0 : Int32))))), .val (.ref b5), .val (.ref b8), .val (.int (bz (¬ ((nar .boolean (bz (¬ ((p1 &&& (2 : Int32)) = (0 : Int32))))) = (0 : Int32)) ∧ ¬ ((nar .boolean (bz (¬ ((p1 &&& (8 : Int32)) = (0 : Int32))))) = (0 : Int32))))), .val (.int (bz (¬ ((nar .boolean (bz (¬ ((p1 &&& (8 : Int32)) = (0 : Int32))))) = (0 : Int32)) ∧ ¬ ((nar .boolean (bz (¬ ((p1 &&& (2 : Int32)) = (0 : Int32))))) = (0 : Int32))))), .val (.int (0 : Int32))] []))
              refine go (fun _ k => XS.goto X15.here hx rfl (pc0 := 109) (pc' := 115) rfl (hb hby at_109) (by decide) (by decide) k) ?_
              show Go p e below _ (T15.setTop (mkF m 115 #[.val (.int p1), .val (.int (bz (¬ ((p1 &&& (1 : Int32)) = (0 : Int32))))), .val (.int (bz (¬ ((p1 &&& (2 : Int32)) = (0 : Int32))))), .val (.int (bz (¬ ((p1 &&& (4 : Int32)) = (0 : Int32))))), .val (.int (bz (¬ ((p1 &&& (8 : Int32)) = (0 : Int32))))), .val (.ref b5), .val (.ref b8), .val (.int (bz (¬ ((nar .boolean (bz (¬ ((p1 &&& (2 : Int32)) = (0 : Int32))))) = (0 : Int32)) ∧ ¬ ((nar .boolean (bz (¬ ((p1 &&& (8 : Int32)) = (0 : Int32))))) = (0 : Int32))))), .val (.int (bz (¬ ((nar .boolean (bz (¬ ((p1 &&& (8 : Int32)) = (0 : Int32))))) = (0 : Int32)) ∧ ¬ ((nar .boolean (bz (¬ ((p1 &&& (2 : Int32)) = (0 : Int32))))) = (0 : Int32))))), .val (.int (0 : Int32))] []))
              refine go (fun _ k => XS.iload X15.here hx rfl (hb hby at_115) rfl  k) ?_
              show Go p e below _ (T15.setTop (mkF m 117 #[.val (.int p1), .val (.int (bz (¬ ((p1 &&& (1 : Int32)) = (0 : Int32))))), .val (.int (bz (¬ ((p1 &&& (2 : Int32)) = (0 : Int32))))), .val (.int (bz (¬ ((p1 &&& (4 : Int32)) = (0 : Int32))))), .val (.int (bz (¬ ((p1 &&& (8 : Int32)) = (0 : Int32))))), .val (.ref b5), .val (.ref b8), .val (.int (bz (¬ ((nar .boolean (bz (¬ ((p1 &&& (2 : Int32)) = (0 : Int32))))) = (0 : Int32)) ∧ ¬ ((nar .boolean (bz (¬ ((p1 &&& (8 : Int32)) = (0 : Int32))))) = (0 : Int32))))), .val (.int (bz (¬ ((nar .boolean (bz (¬ ((p1 &&& (8 : Int32)) = (0 : Int32))))) = (0 : Int32)) ∧ ¬ ((nar .boolean (bz (¬ ((p1 &&& (2 : Int32)) = (0 : Int32))))) = (0 : Int32))))), .val (.int (0 : Int32))] [(.int (bz (¬ ((nar .boolean (bz (¬ ((p1 &&& (2 : Int32)) = (0 : Int32))))) = (0 : Int32)) ∧ ¬ ((nar .boolean (bz (¬ ((p1 &&& (8 : Int32)) = (0 : Int32))))) = (0 : Int32)))))]))
              refine go (fun _ k => XS.iload X15.here hx rfl (hb hby at_117) rfl  k) ?_
              show Go p e below _ (T15.setTop (mkF m 119 #[.val (.int p1), .val (.int (bz (¬ ((p1 &&& (1 : Int32)) = (0 : Int32))))), .val (.int (bz (¬ ((p1 &&& (2 : Int32)) = (0 : Int32))))), .val (.int (bz (¬ ((p1 &&& (4 : Int32)) = (0 : Int32))))), .val (.int (bz (¬ ((p1 &&& (8 : Int32)) = (0 : Int32))))), .val (.ref b5), .val (.ref b8), .val (.int (bz (¬ ((nar .boolean (bz (¬ ((p1 &&& (2 : Int32)) = (0 : Int32))))) = (0 : Int32)) ∧ ¬ ((nar .boolean (bz (¬ ((p1 &&& (8 : Int32)) = (0 : Int32))))) = (0 : Int32))))), .val (.int (bz (¬ ((nar .boolean (bz (¬ ((p1 &&& (8 : Int32)) = (0 : Int32))))) = (0 : Int32)) ∧ ¬ ((nar .boolean (bz (¬ ((p1 &&& (2 : Int32)) = (0 : Int32))))) = (0 : Int32))))), .val (.int (0 : Int32))] [(.int (0 : Int32)), (.int (bz (¬ ((nar .boolean (bz (¬ ((p1 &&& (2 : Int32)) = (0 : Int32))))) = (0 : Int32)) ∧ ¬ ((nar .boolean (bz (¬ ((p1 &&& (8 : Int32)) = (0 : Int32))))) = (0 : Int32)))))]))
              have hc119_13 : (bz (¬ ((nar .boolean (bz (¬ ((p1 &&& (2 : Int32)) = (0 : Int32))))) = (0 : Int32)) ∧ ¬ ((nar .boolean (bz (¬ ((p1 &&& (8 : Int32)) = (0 : Int32))))) = (0 : Int32)))) = (0 : Int32) := by rw [own_st]; first | exact bz_t ⟨by assumption, by assumption⟩ | exact bz_f (fun q => absurd q.1 (by assumption)) | exact bz_f (fun q => absurd q.2 (by assumption))
              refine go (fun _ k => XS.icmpNo X15.here hx rfl (hb hby at_119) rfl (teq hc119_13).2 k) ?_
              show Go p e below _ (T15.setTop (mkF m 122 #[.val (.int p1), .val (.int (bz (¬ ((p1 &&& (1 : Int32)) = (0 : Int32))))), .val (.int (bz (¬ ((p1 &&& (2 : Int32)) = (0 : Int32))))), .val (.int (bz (¬ ((p1 &&& (4 : Int32)) = (0 : Int32))))), .val (.int (bz (¬ ((p1 &&& (8 : Int32)) = (0 : Int32))))), .val (.ref b5), .val (.ref b8), .val (.int (bz (¬ ((nar .boolean (bz (¬ ((p1 &&& (2 : Int32)) = (0 : Int32))))) = (0 : Int32)) ∧ ¬ ((nar .boolean (bz (¬ ((p1 &&& (8 : Int32)) = (0 : Int32))))) = (0 : Int32))))), .val (.int (bz (¬ ((nar .boolean (bz (¬ ((p1 &&& (8 : Int32)) = (0 : Int32))))) = (0 : Int32)) ∧ ¬ ((nar .boolean (bz (¬ ((p1 &&& (2 : Int32)) = (0 : Int32))))) = (0 : Int32))))), .val (.int (0 : Int32))] []))
              refine go (fun _ k => XS.iload X15.here hx rfl (hb hby at_122) rfl  k) ?_
              show Go p e below _ (T15.setTop (mkF m 124 #[.val (.int p1), .val (.int (bz (¬ ((p1 &&& (1 : Int32)) = (0 : Int32))))), .val (.int (bz (¬ ((p1 &&& (2 : Int32)) = (0 : Int32))))), .val (.int (bz (¬ ((p1 &&& (4 : Int32)) = (0 : Int32))))), .val (.int (bz (¬ ((p1 &&& (8 : Int32)) = (0 : Int32))))), .val (.ref b5), .val (.ref b8), .val (.int (bz (¬ ((nar .boolean (bz (¬ ((p1 &&& (2 : Int32)) = (0 : Int32))))) = (0 : Int32)) ∧ ¬ ((nar .boolean (bz (¬ ((p1 &&& (8 : Int32)) = (0 : Int32))))) = (0 : Int32))))), .val (.int (bz (¬ ((nar .boolean (bz (¬ ((p1 &&& (8 : Int32)) = (0 : Int32))))) = (0 : Int32)) ∧ ¬ ((nar .boolean (bz (¬ ((p1 &&& (2 : Int32)) = (0 : Int32))))) = (0 : Int32))))), .val (.int (0 : Int32))] [(.int (bz (¬ ((nar .boolean (bz (¬ ((p1 &&& (8 : Int32)) = (0 : Int32))))) = (0 : Int32)) ∧ ¬ ((nar .boolean (bz (¬ ((p1 &&& (2 : Int32)) = (0 : Int32))))) = (0 : Int32)))))]))
              refine go (fun _ k => XS.iload X15.here hx rfl (hb hby at_124) rfl  k) ?_
              show Go p e below _ (T15.setTop (mkF m 126 #[.val (.int p1), .val (.int (bz (¬ ((p1 &&& (1 : Int32)) = (0 : Int32))))), .val (.int (bz (¬ ((p1 &&& (2 : Int32)) = (0 : Int32))))), .val (.int (bz (¬ ((p1 &&& (4 : Int32)) = (0 : Int32))))), .val (.int (bz (¬ ((p1 &&& (8 : Int32)) = (0 : Int32))))), .val (.ref b5), .val (.ref b8), .val (.int (bz (¬ ((nar .boolean (bz (¬ ((p1 &&& (2 : Int32)) = (0 : Int32))))) = (0 : Int32)) ∧ ¬ ((nar .boolean (bz (¬ ((p1 &&& (8 : Int32)) = (0 : Int32))))) = (0 : Int32))))), .val (.int (bz (¬ ((nar .boolean (bz (¬ ((p1 &&& (8 : Int32)) = (0 : Int32))))) = (0 : Int32)) ∧ ¬ ((nar .boolean (bz (¬ ((p1 &&& (2 : Int32)) = (0 : Int32))))) = (0 : Int32))))), .val (.int (0 : Int32))] [(.int (0 : Int32)), (.int (bz (¬ ((nar .boolean (bz (¬ ((p1 &&& (8 : Int32)) = (0 : Int32))))) = (0 : Int32)) ∧ ¬ ((nar .boolean (bz (¬ ((p1 &&& (2 : Int32)) = (0 : Int32))))) = (0 : Int32)))))]))
              have hc126_14 : (bz (¬ ((nar .boolean (bz (¬ ((p1 &&& (8 : Int32)) = (0 : Int32))))) = (0 : Int32)) ∧ ¬ ((nar .boolean (bz (¬ ((p1 &&& (2 : Int32)) = (0 : Int32))))) = (0 : Int32)))) = (0 : Int32) := by rw [own_st]; first | exact bz_t ⟨by assumption, by assumption⟩ | exact bz_f (fun q => absurd q.1 (by assumption)) | exact bz_f (fun q => absurd q.2 (by assumption))
              refine go (fun _ k => XS.icmpNo X15.here hx rfl (hb hby at_126) rfl (teq hc126_14).2 k) ?_
              show Go p e below _ (T15.setTop (mkF m 129 #[.val (.int p1), .val (.int (bz (¬ ((p1 &&& (1 : Int32)) = (0 : Int32))))), .val (.int (bz (¬ ((p1 &&& (2 : Int32)) = (0 : Int32))))), .val (.int (bz (¬ ((p1 &&& (4 : Int32)) = (0 : Int32))))), .val (.int (bz (¬ ((p1 &&& (8 : Int32)) = (0 : Int32))))), .val (.ref b5), .val (.ref b8), .val (.int (bz (¬ ((nar .boolean (bz (¬ ((p1 &&& (2 : Int32)) = (0 : Int32))))) = (0 : Int32)) ∧ ¬ ((nar .boolean (bz (¬ ((p1 &&& (8 : Int32)) = (0 : Int32))))) = (0 : Int32))))), .val (.int (bz (¬ ((nar .boolean (bz (¬ ((p1 &&& (8 : Int32)) = (0 : Int32))))) = (0 : Int32)) ∧ ¬ ((nar .boolean (bz (¬ ((p1 &&& (2 : Int32)) = (0 : Int32))))) = (0 : Int32))))), .val (.int (0 : Int32))] []))
              refine go (fun _ k => XS.iconst X15.here hx rfl (hb hby at_129) k) ?_
              show Go p e below _ (T15.setTop (mkF m 130 #[.val (.int p1), .val (.int (bz (¬ ((p1 &&& (1 : Int32)) = (0 : Int32))))), .val (.int (bz (¬ ((p1 &&& (2 : Int32)) = (0 : Int32))))), .val (.int (bz (¬ ((p1 &&& (4 : Int32)) = (0 : Int32))))), .val (.int (bz (¬ ((p1 &&& (8 : Int32)) = (0 : Int32))))), .val (.ref b5), .val (.ref b8), .val (.int (bz (¬ ((nar .boolean (bz (¬ ((p1 &&& (2 : Int32)) = (0 : Int32))))) = (0 : Int32)) ∧ ¬ ((nar .boolean (bz (¬ ((p1 &&& (8 : Int32)) = (0 : Int32))))) = (0 : Int32))))), .val (.int (bz (¬ ((nar .boolean (bz (¬ ((p1 &&& (8 : Int32)) = (0 : Int32))))) = (0 : Int32)) ∧ ¬ ((nar .boolean (bz (¬ ((p1 &&& (2 : Int32)) = (0 : Int32))))) = (0 : Int32))))), .val (.int (0 : Int32))] [(.int (1 : Int32))]))
              refine go (fun _ k => XS.goto X15.here hx rfl (pc0 := 130) (pc' := 134) rfl (hb hby at_130) (by decide) (by decide) k) ?_
              show Go p e below _ (T15.setTop (mkF m 134 #[.val (.int p1), .val (.int (bz (¬ ((p1 &&& (1 : Int32)) = (0 : Int32))))), .val (.int (bz (¬ ((p1 &&& (2 : Int32)) = (0 : Int32))))), .val (.int (bz (¬ ((p1 &&& (4 : Int32)) = (0 : Int32))))), .val (.int (bz (¬ ((p1 &&& (8 : Int32)) = (0 : Int32))))), .val (.ref b5), .val (.ref b8), .val (.int (bz (¬ ((nar .boolean (bz (¬ ((p1 &&& (2 : Int32)) = (0 : Int32))))) = (0 : Int32)) ∧ ¬ ((nar .boolean (bz (¬ ((p1 &&& (8 : Int32)) = (0 : Int32))))) = (0 : Int32))))), .val (.int (bz (¬ ((nar .boolean (bz (¬ ((p1 &&& (8 : Int32)) = (0 : Int32))))) = (0 : Int32)) ∧ ¬ ((nar .boolean (bz (¬ ((p1 &&& (2 : Int32)) = (0 : Int32))))) = (0 : Int32))))), .val (.int (0 : Int32))] [(.int (1 : Int32))]))
              obtain ⟨fs, hr, hrun, hended, hW, hsame⟩ := X15.leave (v := some (.int (1 : Int32))) (fun h => by rw [Bd.returns] at h; cases h)
              refine leaf (T := T15) ⟨fs, retN X15 hx (t := .boolean) Bd.returns (by simp) (hb hby at_134) hr, hrun, hended, hW, hsame⟩ ?_ (by decide) (by decide)
              show Q0 Z p1 h0 n0 _ T15.heap _
              rw [e15]
              exact ⟨rfl, N15⟩
          · skip
            refine go (fun _ k => XS.ifYes X15.here hx rfl (pc0 := 92) (pc' := 112) rfl (hb hby at_92) rfl ((if0 _ _).trans (teq (bz_f hc92_9)).1) (by decide) (by decide) k) ?_
            show Go p e below _ (T15.setTop (mkF m 112 #[.val (.int p1), .val (.int (bz (¬ ((p1 &&& (1 : Int32)) = (0 : Int32))))), .val (.int (bz (¬ ((p1 &&& (2 : Int32)) = (0 : Int32))))), .val (.int (bz (¬ ((p1 &&& (4 : Int32)) = (0 : Int32))))), .val (.int (bz (¬ ((p1 &&& (8 : Int32)) = (0 : Int32))))), .val (.ref b5), .val (.ref b8), .val (.int (bz (¬ ((nar .boolean (bz (¬ ((p1 &&& (2 : Int32)) = (0 : Int32))))) = (0 : Int32)) ∧ ¬ ((nar .boolean (bz (¬ ((p1 &&& (8 : Int32)) = (0 : Int32))))) = (0 : Int32))))), .val (.int (bz (¬ ((nar .boolean (bz (¬ ((p1 &&& (8 : Int32)) = (0 : Int32))))) = (0 : Int32)) ∧ ¬ ((nar .boolean (bz (¬ ((p1 &&& (2 : Int32)) = (0 : Int32))))) = (0 : Int32))))), .unset] []))
            refine go (fun _ k => XS.iconst X15.here hx rfl (hb hby at_112) k) ?_
            show Go p e below _ (T15.setTop (mkF m 113 #[.val (.int p1), .val (.int (bz (¬ ((p1 &&& (1 : Int32)) = (0 : Int32))))), .val (.int (bz (¬ ((p1 &&& (2 : Int32)) = (0 : Int32))))), .val (.int (bz (¬ ((p1 &&& (4 : Int32)) = (0 : Int32))))), .val (.int (bz (¬ ((p1 &&& (8 : Int32)) = (0 : Int32))))), .val (.ref b5), .val (.ref b8), .val (.int (bz (¬ ((nar .boolean (bz (¬ ((p1 &&& (2 : Int32)) = (0 : Int32))))) = (0 : Int32)) ∧ ¬ ((nar .boolean (bz (¬ ((p1 &&& (8 : Int32)) = (0 : Int32))))) = (0 : Int32))))), .val (.int (bz (¬ ((nar .boolean (bz (¬ ((p1 &&& (8 : Int32)) = (0 : Int32))))) = (0 : Int32)) ∧ ¬ ((nar .boolean (bz (¬ ((p1 &&& (2 : Int32)) = (0 : Int32))))) = (0 : Int32))))), .unset] [(.int (0 : Int32))]))
            refine go (fun _ k => XS.istore X15.here hx rfl (hb hby at_113) rfl (l' := #[.val (.int p1), .val (.int (bz (¬ ((p1 &&& (1 : Int32)) = (0 : Int32))))), .val (.int (bz (¬ ((p1 &&& (2 : Int32)) = (0 : Int32))))), .val (.int (bz (¬ ((p1 &&& (4 : Int32)) = (0 : Int32))))), .val (.int (bz (¬ ((p1 &&& (8 : Int32)) = (0 : Int32))))), .val (.ref b5), .val (.ref b8), .val (.int (bz (¬ ((nar .boolean (bz (¬ ((p1 &&& (2 : Int32)) = (0 : Int32))))) = (0 : Int32)) ∧ ¬ ((nar .boolean (bz (¬ ((p1 &&& (8 : Int32)) = (0 : Int32))))) = (0 : Int32))))), .val (.int (bz (¬ ((nar .boolean (bz (¬ ((p1 &&& (8 : Int32)) = (0 : Int32))))) = (0 : Int32)) ∧ ¬ ((nar .boolean (bz (¬ ((p1 &&& (2 : Int32)) = (0 : Int32))))) = (0 : Int32))))), .val (.int (0 : Int32))]) rfl k) ?_
            show Go p e below _ (T15.setTop (mkF m 115 #[.val (.int p1), .val (.int (bz (¬ ((p1 &&& (1 : Int32)) = (0 : Int32))))), .val (.int (bz (¬ ((p1 &&& (2 : Int32)) = (0 : Int32))))), .val (.int (bz (¬ ((p1 &&& (4 : Int32)) = (0 : Int32))))), .val (.int (bz (¬ ((p1 &&& (8 : Int32)) = (0 : Int32))))), .val (.ref b5), .val (.ref b8), .val (.int (bz (¬ ((nar .boolean (bz (¬ ((p1 &&& (2 : Int32)) = (0 : Int32))))) = (0 : Int32)) ∧ ¬ ((nar .boolean (bz (¬ ((p1 &&& (8 : Int32)) = (0 : Int32))))) = (0 : Int32))))), .val (.int (bz (¬ ((nar .boolean (bz (¬ ((p1 &&& (8 : Int32)) = (0 : Int32))))) = (0 : Int32)) ∧ ¬ ((nar .boolean (bz (¬ ((p1 &&& (2 : Int32)) = (0 : Int32))))) = (0 : Int32))))), .val (.int (0 : Int32))] []))
            refine go (fun _ k => XS.iload X15.here hx rfl (hb hby at_115) rfl  k) ?_
            show Go p e below _ (T15.setTop (mkF m 117 #[.val (.int p1), .val (.int (bz (¬ ((p1 &&& (1 : Int32)) = (0 : Int32))))), .val (.int (bz (¬ ((p1 &&& (2 : Int32)) = (0 : Int32))))), .val (.int (bz (¬ ((p1 &&& (4 : Int32)) = (0 : Int32))))), .val (.int (bz (¬ ((p1 &&& (8 : Int32)) = (0 : Int32))))), .val (.ref b5), .val (.ref b8), .val (.int (bz (¬ ((nar .boolean (bz (¬ ((p1 &&& (2 : Int32)) = (0 : Int32))))) = (0 : Int32)) ∧ ¬ ((nar .boolean (bz (¬ ((p1 &&& (8 : Int32)) = (0 : Int32))))) = (0 : Int32))))), .val (.int (bz (¬ ((nar .boolean (bz (¬ ((p1 &&& (8 : Int32)) = (0 : Int32))))) = (0 : Int32)) ∧ ¬ ((nar .boolean (bz (¬ ((p1 &&& (2 : Int32)) = (0 : Int32))))) = (0 : Int32))))), .val (.int (0 : Int32))] [(.int (bz (¬ ((nar .boolean (bz (¬ ((p1 &&& (2 : Int32)) = (0 : Int32))))) = (0 : Int32)) ∧ ¬ ((nar .boolean (bz (¬ ((p1 &&& (8 : Int32)) = (0 : Int32))))) = (0 : Int32)))))]))
            refine go (fun _ k => XS.iload X15.here hx rfl (hb hby at_117) rfl  k) ?_
            show Go p e below _ (T15.setTop (mkF m 119 #[.val (.int p1), .val (.int (bz (¬ ((p1 &&& (1 : Int32)) = (0 : Int32))))), .val (.int (bz (¬ ((p1 &&& (2 : Int32)) = (0 : Int32))))), .val (.int (bz (¬ ((p1 &&& (4 : Int32)) = (0 : Int32))))), .val (.int (bz (¬ ((p1 &&& (8 : Int32)) = (0 : Int32))))), .val (.ref b5), .val (.ref b8), .val (.int (bz (¬ ((nar .boolean (bz (¬ ((p1 &&& (2 : Int32)) = (0 : Int32))))) = (0 : Int32)) ∧ ¬ ((nar .boolean (bz (¬ ((p1 &&& (8 : Int32)) = (0 : Int32))))) = (0 : Int32))))), .val (.int (bz (¬ ((nar .boolean (bz (¬ ((p1 &&& (8 : Int32)) = (0 : Int32))))) = (0 : Int32)) ∧ ¬ ((nar .boolean (bz (¬ ((p1 &&& (2 : Int32)) = (0 : Int32))))) = (0 : Int32))))), .val (.int (0 : Int32))] [(.int (0 : Int32)), (.int (bz (¬ ((nar .boolean (bz (¬ ((p1 &&& (2 : Int32)) = (0 : Int32))))) = (0 : Int32)) ∧ ¬ ((nar .boolean (bz (¬ ((p1 &&& (8 : Int32)) = (0 : Int32))))) = (0 : Int32)))))]))
            have hc119_15 : (bz (¬ ((nar .boolean (bz (¬ ((p1 &&& (2 : Int32)) = (0 : Int32))))) = (0 : Int32)) ∧ ¬ ((nar .boolean (bz (¬ ((p1 &&& (8 : Int32)) = (0 : Int32))))) = (0 : Int32)))) = (0 : Int32) := by rw [own_st]; first | exact bz_t ⟨by assumption, by assumption⟩ | exact bz_f (fun q => absurd q.1 (by assumption)) | exact bz_f (fun q => absurd q.2 (by assumption))
            refine go (fun _ k => XS.icmpNo X15.here hx rfl (hb hby at_119) rfl (teq hc119_15).2 k) ?_
            show Go p e below _ (T15.setTop (mkF m 122 #[.val (.int p1), .val (.int (bz (¬ ((p1 &&& (1 : Int32)) = (0 : Int32))))), .val (.int (bz (¬ ((p1 &&& (2 : Int32)) = (0 : Int32))))), .val (.int (bz (¬ ((p1 &&& (4 : Int32)) = (0 : Int32))))), .val (.int (bz (¬ ((p1 &&& (8 : Int32)) = (0 : Int32))))), .val (.ref b5), .val (.ref b8), .val (.int (bz (¬ ((nar .boolean (bz (¬ ((p1 &&& (2 : Int32)) = (0 : Int32))))) = (0 : Int32)) ∧ ¬ ((nar .boolean (bz (¬ ((p1 &&& (8 : Int32)) = (0 : Int32))))) = (0 : Int32))))), .val (.int (bz (¬ ((nar .boolean (bz (¬ ((p1 &&& (8 : Int32)) = (0 : Int32))))) = (0 : Int32)) ∧ ¬ ((nar .boolean (bz (¬ ((p1 &&& (2 : Int32)) = (0 : Int32))))) = (0 : Int32))))), .val (.int (0 : Int32))] []))
            refine go (fun _ k => XS.iload X15.here hx rfl (hb hby at_122) rfl  k) ?_
            show Go p e below _ (T15.setTop (mkF m 124 #[.val (.int p1), .val (.int (bz (¬ ((p1 &&& (1 : Int32)) = (0 : Int32))))), .val (.int (bz (¬ ((p1 &&& (2 : Int32)) = (0 : Int32))))), .val (.int (bz (¬ ((p1 &&& (4 : Int32)) = (0 : Int32))))), .val (.int (bz (¬ ((p1 &&& (8 : Int32)) = (0 : Int32))))), .val (.ref b5), .val (.ref b8), .val (.int (bz (¬ ((nar .boolean (bz (¬ ((p1 &&& (2 : Int32)) = (0 : Int32))))) = (0 : Int32)) ∧ ¬ ((nar .boolean (bz (¬ ((p1 &&& (8 : Int32)) = (0 : Int32))))) = (0 : Int32))))), .val (.int (bz (¬ ((nar .boolean (bz (¬ ((p1 &&& (8 : Int32)) = (0 : Int32))))) = (0 : Int32)) ∧ ¬ ((nar .boolean (bz (¬ ((p1 &&& (2 : Int32)) = (0 : Int32))))) = (0 : Int32))))), .val (.int (0 : Int32))] [(.int (bz (¬ ((nar .boolean (bz (¬ ((p1 &&& (8 : Int32)) = (0 : Int32))))) = (0 : Int32)) ∧ ¬ ((nar .boolean (bz (¬ ((p1 &&& (2 : Int32)) = (0 : Int32))))) = (0 : Int32)))))]))
            refine go (fun _ k => XS.iload X15.here hx rfl (hb hby at_124) rfl  k) ?_
            show Go p e below _ (T15.setTop (mkF m 126 #[.val (.int p1), .val (.int (bz (¬ ((p1 &&& (1 : Int32)) = (0 : Int32))))), .val (.int (bz (¬ ((p1 &&& (2 : Int32)) = (0 : Int32))))), .val (.int (bz (¬ ((p1 &&& (4 : Int32)) = (0 : Int32))))), .val (.int (bz (¬ ((p1 &&& (8 : Int32)) = (0 : Int32))))), .val (.ref b5), .val (.ref b8), .val (.int (bz (¬ ((nar .boolean (bz (¬ ((p1 &&& (2 : Int32)) = (0 : Int32))))) = (0 : Int32)) ∧ ¬ ((nar .boolean (bz (¬ ((p1 &&& (8 : Int32)) = (0 : Int32))))) = (0 : Int32))))), .val (.int (bz (¬ ((nar .boolean (bz (¬ ((p1 &&& (8 : Int32)) = (0 : Int32))))) = (0 : Int32)) ∧ ¬ ((nar .boolean (bz (¬ ((p1 &&& (2 : Int32)) = (0 : Int32))))) = (0 : Int32))))), .val (.int (0 : Int32))] [(.int (0 : Int32)), (.int (bz (¬ ((nar .boolean (bz (¬ ((p1 &&& (8 : Int32)) = (0 : Int32))))) = (0 : Int32)) ∧ ¬ ((nar .boolean (bz (¬ ((p1 &&& (2 : Int32)) = (0 : Int32))))) = (0 : Int32)))))]))
            have hc126_16 : (bz (¬ ((nar .boolean (bz (¬ ((p1 &&& (8 : Int32)) = (0 : Int32))))) = (0 : Int32)) ∧ ¬ ((nar .boolean (bz (¬ ((p1 &&& (2 : Int32)) = (0 : Int32))))) = (0 : Int32)))) = (0 : Int32) := by rw [own_st]; first | exact bz_t ⟨by assumption, by assumption⟩ | exact bz_f (fun q => absurd q.1 (by assumption)) | exact bz_f (fun q => absurd q.2 (by assumption))
            refine go (fun _ k => XS.icmpNo X15.here hx rfl (hb hby at_126) rfl (teq hc126_16).2 k) ?_
            show Go p e below _ (T15.setTop (mkF m 129 #[.val (.int p1), .val (.int (bz (¬ ((p1 &&& (1 : Int32)) = (0 : Int32))))), .val (.int (bz (¬ ((p1 &&& (2 : Int32)) = (0 : Int32))))), .val (.int (bz (¬ ((p1 &&& (4 : Int32)) = (0 : Int32))))), .val (.int (bz (¬ ((p1 &&& (8 : Int32)) = (0 : Int32))))), .val (.ref b5), .val (.ref b8), .val (.int (bz (¬ ((nar .boolean (bz (¬ ((p1 &&& (2 : Int32)) = (0 : Int32))))) = (0 : Int32)) ∧ ¬ ((nar .boolean (bz (¬ ((p1 &&& (8 : Int32)) = (0 : Int32))))) = (0 : Int32))))), .val (.int (bz (¬ ((nar .boolean (bz (¬ ((p1 &&& (8 : Int32)) = (0 : Int32))))) = (0 : Int32)) ∧ ¬ ((nar .boolean (bz (¬ ((p1 &&& (2 : Int32)) = (0 : Int32))))) = (0 : Int32))))), .val (.int (0 : Int32))] []))
            refine go (fun _ k => XS.iconst X15.here hx rfl (hb hby at_129) k) ?_
            show Go p e below _ (T15.setTop (mkF m 130 #[.val (.int p1), .val (.int (bz (¬ ((p1 &&& (1 : Int32)) = (0 : Int32))))), .val (.int (bz (¬ ((p1 &&& (2 : Int32)) = (0 : Int32))))), .val (.int (bz (¬ ((p1 &&& (4 : Int32)) = (0 : Int32))))), .val (.int (bz (¬ ((p1 &&& (8 : Int32)) = (0 : Int32))))), .val (.ref b5), .val (.ref b8), .val (.int (bz (¬ ((nar .boolean (bz (¬ ((p1 &&& (2 : Int32)) = (0 : Int32))))) = (0 : Int32)) ∧ ¬ ((nar .boolean (bz (¬ ((p1 &&& (8 : Int32)) = (0 : Int32))))) = (0 : Int32))))), .val (.int (bz (¬ ((nar .boolean (bz (¬ ((p1 &&& (8 : Int32)) = (0 : Int32))))) = (0 : Int32)) ∧ ¬ ((nar .boolean (bz (¬ ((p1 &&& (2 : Int32)) = (0 : Int32))))) = (0 : Int32))))), .val (.int (0 : Int32))] [(.int (1 : Int32))]))
            refine go (fun _ k => XS.goto X15.here hx rfl (pc0 := 130) (pc' := 134) rfl (hb hby at_130) (by decide) (by decide) k) ?_
            show Go p e below _ (T15.setTop (mkF m 134 #[.val (.int p1), .val (.int (bz (¬ ((p1 &&& (1 : Int32)) = (0 : Int32))))), .val (.int (bz (¬ ((p1 &&& (2 : Int32)) = (0 : Int32))))), .val (.int (bz (¬ ((p1 &&& (4 : Int32)) = (0 : Int32))))), .val (.int (bz (¬ ((p1 &&& (8 : Int32)) = (0 : Int32))))), .val (.ref b5), .val (.ref b8), .val (.int (bz (¬ ((nar .boolean (bz (¬ ((p1 &&& (2 : Int32)) = (0 : Int32))))) = (0 : Int32)) ∧ ¬ ((nar .boolean (bz (¬ ((p1 &&& (8 : Int32)) = (0 : Int32))))) = (0 : Int32))))), .val (.int (bz (¬ ((nar .boolean (bz (¬ ((p1 &&& (8 : Int32)) = (0 : Int32))))) = (0 : Int32)) ∧ ¬ ((nar .boolean (bz (¬ ((p1 &&& (2 : Int32)) = (0 : Int32))))) = (0 : Int32))))), .val (.int (0 : Int32))] [(.int (1 : Int32))]))
            obtain ⟨fs, hr, hrun, hended, hW, hsame⟩ := X15.leave (v := some (.int (1 : Int32))) (fun h => by rw [Bd.returns] at h; cases h)
            refine leaf (T := T15) ⟨fs, retN X15 hx (t := .boolean) Bd.returns (by simp) (hb hby at_134) hr, hrun, hended, hW, hsame⟩ ?_ (by decide) (by decide)
            show Q0 Z p1 h0 n0 _ T15.heap _
            rw [e15]
            exact ⟨rfl, N15⟩
        by_cases hc40_7 : (p1 &&& (8 : Int32)) = (0 : Int32)
        · skip
          refine go (fun _ k => XS.ifYes X0.here hx rfl (pc0 := 40) (pc' := 47) rfl (hb hby at_40) rfl ((if0 _ _).trans (teq hc40_7).1) (by decide) (by decide) k) ?_
          show Go p e below _ (s₁.setTop (mkF m 47 #[.val (.int p1), .val (.int (bz (¬ ((p1 &&& (1 : Int32)) = (0 : Int32))))), .val (.int (bz (¬ ((p1 &&& (2 : Int32)) = (0 : Int32))))), .val (.int (bz (¬ ((p1 &&& (4 : Int32)) = (0 : Int32))))), .unset, .unset, .unset, .unset, .unset, .unset] []))
          refine go (fun _ k => XS.iconst X0.here hx rfl (hb hby at_47) k) ?_
          show Go p e below _ (s₁.setTop (mkF m 48 #[.val (.int p1), .val (.int (bz (¬ ((p1 &&& (1 : Int32)) = (0 : Int32))))), .val (.int (bz (¬ ((p1 &&& (2 : Int32)) = (0 : Int32))))), .val (.int (bz (¬ ((p1 &&& (4 : Int32)) = (0 : Int32))))), .unset, .unset, .unset, .unset, .unset, .unset] [(.int (0 : Int32))]))
          exact J48_4 _ (by simp only [if_pos hc40_7, bz_t hc40_7, bz_f (fun q => q hc40_7 : ¬ ¬ ((p1 &&& (8 : Int32)) = (0 : Int32)))])
        · skip
          refine go (fun _ k => XS.ifNo X0.here hx rfl (hb hby at_40) rfl ((if0 _ _).trans (feq hc40_7).1) k) ?_
          show Go p e below _ (s₁.setTop (mkF m 43 #[.val (.int p1), .val (.int (bz (¬ ((p1 &&& (1 : Int32)) = (0 : Int32))))), .val (.int (bz (¬ ((p1 &&& (2 : Int32)) = (0 : Int32))))), .val (.int (bz (¬ ((p1 &&& (4 : Int32)) = (0 : Int32))))), .unset, .unset, .unset, .unset, .unset, .unset] []))
          refine go (fun _ k => XS.iconst X0.here hx rfl (hb hby at_43) k) ?_
          show Go p e below _ (s₁.setTop (mkF m 44 #[.val (.int p1), .val (.int (bz (¬ ((p1 &&& (1 : Int32)) = (0 : Int32))))), .val (.int (bz (¬ ((p1 &&& (2 : Int32)) = (0 : Int32))))), .val (.int (bz (¬ ((p1 &&& (4 : Int32)) = (0 : Int32))))), .unset, .unset, .unset, .unset, .unset, .unset] [(.int (1 : Int32))]))
          refine go (fun _ k => XS.goto X0.here hx rfl (pc0 := 44) (pc' := 48) rfl (hb hby at_44) (by decide) (by decide) k) ?_
          show Go p e below _ (s₁.setTop (mkF m 48 #[.val (.int p1), .val (.int (bz (¬ ((p1 &&& (1 : Int32)) = (0 : Int32))))), .val (.int (bz (¬ ((p1 &&& (2 : Int32)) = (0 : Int32))))), .val (.int (bz (¬ ((p1 &&& (4 : Int32)) = (0 : Int32))))), .unset, .unset, .unset, .unset, .unset, .unset] [(.int (1 : Int32))]))
          exact J48_4 _ (by simp only [if_neg hc40_7, bz_f hc40_7, bz_t hc40_7])
      by_cases hc27_5 : (p1 &&& (4 : Int32)) = (0 : Int32)
      · skip
        refine go (fun _ k => XS.ifYes X0.here hx rfl (pc0 := 27) (pc' := 34) rfl (hb hby at_27) rfl ((if0 _ _).trans (teq hc27_5).1) (by decide) (by decide) k) ?_
        show Go p e below _ (s₁.setTop (mkF m 34 #[.val (.int p1), .val (.int (bz (¬ ((p1 &&& (1 : Int32)) = (0 : Int32))))), .val (.int (bz (¬ ((p1 &&& (2 : Int32)) = (0 : Int32))))), .unset, .unset, .unset, .unset, .unset, .unset, .unset] []))
        refine go (fun _ k => XS.iconst X0.here hx rfl (hb hby at_34) k) ?_
        show Go p e below _ (s₁.setTop (mkF m 35 #[.val (.int p1), .val (.int (bz (¬ ((p1 &&& (1 : Int32)) = (0 : Int32))))), .val (.int (bz (¬ ((p1 &&& (2 : Int32)) = (0 : Int32))))), .unset, .unset, .unset, .unset, .unset, .unset, .unset] [(.int (0 : Int32))]))
        exact J35_3 _ (by simp only [if_pos hc27_5, bz_t hc27_5, bz_f (fun q => q hc27_5 : ¬ ¬ ((p1 &&& (4 : Int32)) = (0 : Int32)))])
      · skip
        refine go (fun _ k => XS.ifNo X0.here hx rfl (hb hby at_27) rfl ((if0 _ _).trans (feq hc27_5).1) k) ?_
        show Go p e below _ (s₁.setTop (mkF m 30 #[.val (.int p1), .val (.int (bz (¬ ((p1 &&& (1 : Int32)) = (0 : Int32))))), .val (.int (bz (¬ ((p1 &&& (2 : Int32)) = (0 : Int32))))), .unset, .unset, .unset, .unset, .unset, .unset, .unset] []))
        refine go (fun _ k => XS.iconst X0.here hx rfl (hb hby at_30) k) ?_
        show Go p e below _ (s₁.setTop (mkF m 31 #[.val (.int p1), .val (.int (bz (¬ ((p1 &&& (1 : Int32)) = (0 : Int32))))), .val (.int (bz (¬ ((p1 &&& (2 : Int32)) = (0 : Int32))))), .unset, .unset, .unset, .unset, .unset, .unset, .unset] [(.int (1 : Int32))]))
        refine go (fun _ k => XS.goto X0.here hx rfl (pc0 := 31) (pc' := 35) rfl (hb hby at_31) (by decide) (by decide) k) ?_
        show Go p e below _ (s₁.setTop (mkF m 35 #[.val (.int p1), .val (.int (bz (¬ ((p1 &&& (1 : Int32)) = (0 : Int32))))), .val (.int (bz (¬ ((p1 &&& (2 : Int32)) = (0 : Int32))))), .unset, .unset, .unset, .unset, .unset, .unset, .unset] [(.int (1 : Int32))]))
        exact J35_3 _ (by simp only [if_neg hc27_5, bz_f hc27_5, bz_t hc27_5])
    by_cases hc15_3 : (p1 &&& (2 : Int32)) = (0 : Int32)
    · skip
      refine go (fun _ k => XS.ifYes X0.here hx rfl (pc0 := 15) (pc' := 22) rfl (hb hby at_15) rfl ((if0 _ _).trans (teq hc15_3).1) (by decide) (by decide) k) ?_
      show Go p e below _ (s₁.setTop (mkF m 22 #[.val (.int p1), .val (.int (bz (¬ ((p1 &&& (1 : Int32)) = (0 : Int32))))), .unset, .unset, .unset, .unset, .unset, .unset, .unset, .unset] []))
      refine go (fun _ k => XS.iconst X0.here hx rfl (hb hby at_22) k) ?_
      show Go p e below _ (s₁.setTop (mkF m 23 #[.val (.int p1), .val (.int (bz (¬ ((p1 &&& (1 : Int32)) = (0 : Int32))))), .unset, .unset, .unset, .unset, .unset, .unset, .unset, .unset] [(.int (0 : Int32))]))
      exact J23_2 _ (by simp only [if_pos hc15_3, bz_t hc15_3, bz_f (fun q => q hc15_3 : ¬ ¬ ((p1 &&& (2 : Int32)) = (0 : Int32)))])
    · skip
      refine go (fun _ k => XS.ifNo X0.here hx rfl (hb hby at_15) rfl ((if0 _ _).trans (feq hc15_3).1) k) ?_
      show Go p e below _ (s₁.setTop (mkF m 18 #[.val (.int p1), .val (.int (bz (¬ ((p1 &&& (1 : Int32)) = (0 : Int32))))), .unset, .unset, .unset, .unset, .unset, .unset, .unset, .unset] []))
      refine go (fun _ k => XS.iconst X0.here hx rfl (hb hby at_18) k) ?_
      show Go p e below _ (s₁.setTop (mkF m 19 #[.val (.int p1), .val (.int (bz (¬ ((p1 &&& (1 : Int32)) = (0 : Int32))))), .unset, .unset, .unset, .unset, .unset, .unset, .unset, .unset] [(.int (1 : Int32))]))
      refine go (fun _ k => XS.goto X0.here hx rfl (pc0 := 19) (pc' := 23) rfl (hb hby at_19) (by decide) (by decide) k) ?_
      show Go p e below _ (s₁.setTop (mkF m 23 #[.val (.int p1), .val (.int (bz (¬ ((p1 &&& (1 : Int32)) = (0 : Int32))))), .unset, .unset, .unset, .unset, .unset, .unset, .unset, .unset] [(.int (1 : Int32))]))
      exact J23_2 _ (by simp only [if_neg hc15_3, bz_f hc15_3, bz_t hc15_3])
  by_cases hc3_1 : (p1 &&& (1 : Int32)) = (0 : Int32)
  · skip
    refine go (fun _ k => XS.ifYes X0.here hx rfl (pc0 := 3) (pc' := 10) rfl (hb hby at_3) rfl ((if0 _ _).trans (teq hc3_1).1) (by decide) (by decide) k) ?_
    show Go p e below _ (s₁.setTop (mkF m 10 #[.val (.int p1), .unset, .unset, .unset, .unset, .unset, .unset, .unset, .unset, .unset] []))
    refine go (fun _ k => XS.iconst X0.here hx rfl (hb hby at_10) k) ?_
    show Go p e below _ (s₁.setTop (mkF m 11 #[.val (.int p1), .unset, .unset, .unset, .unset, .unset, .unset, .unset, .unset, .unset] [(.int (0 : Int32))]))
    exact J11_1 _ (by simp only [if_pos hc3_1, bz_t hc3_1, bz_f (fun q => q hc3_1 : ¬ ¬ ((p1 &&& (1 : Int32)) = (0 : Int32)))])
  · skip
    refine go (fun _ k => XS.ifNo X0.here hx rfl (hb hby at_3) rfl ((if0 _ _).trans (feq hc3_1).1) k) ?_
    show Go p e below _ (s₁.setTop (mkF m 6 #[.val (.int p1), .unset, .unset, .unset, .unset, .unset, .unset, .unset, .unset, .unset] []))
    refine go (fun _ k => XS.iconst X0.here hx rfl (hb hby at_6) k) ?_
    show Go p e below _ (s₁.setTop (mkF m 7 #[.val (.int p1), .unset, .unset, .unset, .unset, .unset, .unset, .unset, .unset, .unset] [(.int (1 : Int32))]))
    refine go (fun _ k => XS.goto X0.here hx rfl (pc0 := 7) (pc' := 11) rfl (hb hby at_7) (by decide) (by decide) k) ?_
    show Go p e below _ (s₁.setTop (mkF m 11 #[.val (.int p1), .unset, .unset, .unset, .unset, .unset, .unset, .unset, .unset, .unset] [(.int (1 : Int32))]))
    exact J11_1 _ (by simp only [if_neg hc3_1, bz_f hc3_1, bz_t hc3_1])
set_option maxRecDepth 65536 in
set_option maxHeartbeats 40000000 in
theorem comes_1 {Post : Tables → Env → Array Value → State → Outcome → State → Prop} (hpost : ∀ tb e args s v u, (limb_1_1.after args s (.returned v) u = true ∧ limb_1_2.after args s (.returned v) u = true ∧ True) → FrameEnd s (.returned v) u (Jvm.fieldLocs frame_1_writes args s ++ Jvm.arrayLocs frame_1_arrays args s ++ Jvm.staticLocs frame_1_statics s) 16 128 → Post tb e args s (.returned v) u) :
    ArmFor flags0 classFile x code maxLocals ret World_1 tables_1 room_1 Calls_1 rest_1 Pre_1 Post := by
  intro l hfl _ _ p e ha hc hk s m args below hf hA hF happ hP
  obtain ⟨hcalls, hrest, hpre⟩ := hP
  obtain ⟨-, -, -, hnamed, -, -, -, hat⟩ := (Spec.applies_iff hf).mp happ
  obtain ⟨hg, hn⟩ := and_e (Cond.before_iff.mp (show (Jvm.Cond.and given_1 narrow_1).before args s = true from hpre))
  obtain ⟨hg1, hg2⟩ := and_e hg
  obtain ⟨w0, rfl⟩ : ∃ w0 : Value, args = #[w0] := by
    have hs : args.size = 1 := by simpa [Cond.value, given_1] using hg1
    obtain ⟨L⟩ := args
    match L, hs with
    | [w0], _ => exact ⟨w0, rfl⟩
  have hw := fun d (hd : d ∈ tables_1) => atoms_spec (ws := Jvm.Cond.code x code maxLocals ret :: tables_1) hat d (List.mem_cons_of_mem _ hd)
  have hfit : Fit s := fun {y c} hc i hi => by
    obtain ⟨ha, rfl⟩ := Array.getElem?_eq_some_iff.mp hc
    have q := List.all_eq_true.mp ((Array.all_eq_true_iff_forall_mem.mp hF) _ (Array.getElem_mem ha)) i (List.mem_range.mpr hi)
    simpa [Array.getElem?_eq_getElem hi] using q
  obtain ⟨i0, ei0⟩ := is_v hg2
  obtain rfl : w0 = (.int i0) := Option.some.inj ei0
  obtain ⟨n, o, h1, h2, h3, _, L, rfl, ⟨rfl, N⟩, hq⟩ := rm0 l s _ hw tables_1 i0 s.heap s.heap.size (Nat.le_refl _)  p e ha hc hk s m _ below hf ((Spec.applies_iff_loose hf).mp happ).1 ⟨rfl, State.Warmed39.refl s, rfl⟩ trivial
  refine ⟨n, _, h1, h2, h3, hpost _ _ _ _ _ _ ⟨Cond.after_iff.mpr rfl, Cond.after_iff.mpr (eq_i res_at (Term.int_eval (1)) rfl), trivial⟩ ⟨hq.1, hq.2.1, (hq.2.2.sift fun y hy => Or.inr (N y hy)).mono (by decide) (by decide)⟩⟩
theorem main_1_1 : Claimed_1_1 := comes_1 fun _ _ _ _ _ _ h hF => ⟨h.1, hF⟩
theorem main_1_2 : Claimed_1_2 := comes_1 fun _ _ _ _ _ _ h hF => ⟨h.2.1, hF⟩
end Jvm.Pilot.@@N@@
namespace Jvm.Pilot.@@N@@
open Jvm Jvm.ClassFile Sem Op Lib Jvm.Free Jvm.Stand Jvm.Pilot.@@N@@.Jvm.D
/-! MADE BY PROGRAM (witnessworld.py) out of the Statement's table words and the real class files: 10 classes; the members and pool entries that the words name. The judged class is class 1, her method 1. -/
namespace start1
open Jvm.ClassFile
def u (s : String) : CpInfo := .utf8 (stringToUtf16 s)
/-- a pool by its gaps: so many unusable entries, then the entry; so many at the end -/
def gap : Nat → List CpInfo → List CpInfo
  | 0, r => r
  | n + 1, r => .unusable :: gap n r
def poolList (es : List (Nat × CpInfo)) (last : Nat) : List CpInfo := es.foldr (fun e r => gap e.1 (e.2 :: r)) (gap last [])
def pool (es : List (Nat × CpInfo)) (last : Nat) : Array CpInfo := ⟨poolList es last⟩
def fileOf (pool : Array CpInfo) (this : Nat) (attrs : Array Attribute := #[]) (ms : Array MethodInfo := #[]) (fl : Nat := 33) (sup : Nat := 0) (ifs : Array Nat := #[]) (fds : Array FieldInfo := #[]) : ClassFile where
  minorVersion := 0
  majorVersion := 65
  constantPool := pool
  accessFlags := fl
  thisClass := this
  superClass := sup
  interfaces := ifs
  fields := fds
  methods := ms
  attributes := attrs
def plain (name : String) (sup : Option ClassId) : Class where
  name := name
  kind := .ordinary
  loader := none
  accessFlags := 33
  super := sup
  interfaces := #[]
  cf := none
  fields := #[]
  methods := #[]
  instanceTypes := #[]
  staticTypes := #[]
  resolved := #[]
  callSites := []
  init := .initialized
  statics := none
  mirror := none

def pool0 : Array CpInfo := pool [(5, u "<init>"), (0, u "()V"), (1, .class_ 10), (1, u "java/lang/Object")] 113

def k0c0 : Code := { maxStack := 0, maxLocals := 1, code := object_method_1_code, exceptionTable := #[], attributes := #[] }
def k0m0 : Method := { name := "<init>", desc := "()V", sig := { parameters := [], returnType := none }, accessFlags := 1, code := some k0c0 }
/-- java/lang/Object -/
def k0 : Class := { plain "java/lang/Object" none with
  accessFlags := 33
  interfaces := #[]
  cf := some (fileOf pool0 8 #[] #[{ accessFlags := 1, nameIndex := 5, descriptorIndex := 6, attributes := #[] }] 33 0 #[] #[])
  fields := #[]
  methods := #[k0m0]
  instanceTypes := #[]
  staticTypes := #[]
  resolved := Array.replicate 124 none
  statics := none }

def pool1 : Array CpInfo := pool [(2, .class_ 4), (1, u "java/lang/Object"), (0, u "<init>"), (0, u "()V"), (0, .class_ 8), (0, u "com/example/quotewright/quotewright/pricing/VoucherStacking"), (0, .methodref 7 10), (0, .nameAndType 5 11), (0, u "(ZZ)V"), (0, .methodref 7 13), (0, .nameAndType 14 15), (0, u "stacksOn"), (0, u "(Lcom/example/quotewright/quotewright/pricing/VoucherStacking;)Z"), (0, .class_ 17), (0, u "com/example/quotewright/quotewright/pricing/VoucherStackingStacksOnPinLaw"), (2, u "law"), (0, u "(I)Z")] 3

def k1m0 : Method := { name := "<init>", desc := "()V", sig := { parameters := [], returnType := none }, accessFlags := 1, code := none }
def k1c1 : Code := { maxStack := 4, maxLocals := 10, code := code, exceptionTable := #[], attributes := #[] }
def k1m1 : Method := { name := "law", desc := "(I)Z", sig := { parameters := [.int], returnType := some .boolean }, accessFlags := 9, code := some k1c1 }
/-- com/example/quotewright/quotewright/pricing/VoucherStackingStacksOnPinLaw -/
def k1 : Class := { plain "com/example/quotewright/quotewright/pricing/VoucherStackingStacksOnPinLaw" (some 0) with
  accessFlags := 49
  interfaces := #[]
  cf := some (fileOf pool1 16 #[] #[{ accessFlags := 1, nameIndex := 5, descriptorIndex := 6, attributes := #[] }, { accessFlags := 9, nameIndex := 20, descriptorIndex := 21, attributes := #[] }] 49 2 #[] #[])
  fields := #[]
  methods := #[k1m0, k1m1]
  instanceTypes := #[]
  staticTypes := #[]
  resolved := Array.replicate 25 none
  statics := none }

def pool2 : Array CpInfo := pool [(1, .methodref 2 3), (0, .class_ 4), (0, .nameAndType 5 6), (0, u "java/lang/Object"), (0, u "<init>"), (0, u "()V"), (0, .class_ 8), (0, u "java/lang/Record")] 13

def k2c0 : Code := { maxStack := 1, maxLocals := 1, code := jdk_30_method_1_code, exceptionTable := #[], attributes := #[] }
def k2m0 : Method := { name := "<init>", desc := "()V", sig := { parameters := [], returnType := none }, accessFlags := 4, code := some k2c0 }
/-- java/lang/Record -/
def k2 : Class := { plain "java/lang/Record" (some 0) with
  accessFlags := 1057
  interfaces := #[]
  cf := some (fileOf pool2 7 #[] #[{ accessFlags := 4, nameIndex := 5, descriptorIndex := 6, attributes := #[] }] 1057 2 #[] #[])
  fields := #[]
  methods := #[k2m0]
  instanceTypes := #[]
  staticTypes := #[]
  resolved := Array.replicate 22 none
  statics := none }

def pool3 : Array CpInfo := pool [(1, .methodref 2 3), (0, .class_ 4), (0, .nameAndType 5 6), (0, u "java/lang/Record"), (0, u "<init>"), (0, u "()V"), (0, .fieldref 8 9), (0, .class_ 10), (0, .nameAndType 11 12), (0, u "com/example/quotewright/quotewright/pricing/VoucherStacking"), (0, u "withPromotion"), (0, u "Z"), (0, .fieldref 8 14), (0, .nameAndType 15 12), (0, u "withVoucher"), (14, u "(ZZ)V"), (2, u "DEFAULT"), (0, u "Lcom/example/quotewright/quotewright/pricing/VoucherStacking;"), (3, u "stacksOn"), (0, u "(Lcom/example/quotewright/quotewright/pricing/VoucherStacking;)Z")] 27

def k3c0 : Code := { maxStack := 2, maxLocals := 3, code := prog_106_method_1_code, exceptionTable := #[], attributes := #[] }
def k3m0 : Method := { name := "<init>", desc := "(ZZ)V", sig := { parameters := [.boolean, .boolean], returnType := none }, accessFlags := 1, code := some k3c0 }
def k3c1 : Code := { maxStack := 1, maxLocals := 2, code := prog_106_method_2_code, exceptionTable := #[], attributes := #[] }
def k3m1 : Method := { name := "stacksOn", desc := "(Lcom/example/quotewright/quotewright/pricing/VoucherStacking;)Z", sig := { parameters := [(.object "com/example/quotewright/quotewright/pricing/VoucherStacking")], returnType := some .boolean }, accessFlags := 1, code := some k3c1 }
/-- com/example/quotewright/quotewright/pricing/VoucherStacking -/
def k3 : Class := { plain "com/example/quotewright/quotewright/pricing/VoucherStacking" (some 2) with
  accessFlags := 49
  interfaces := #[]
  cf := some (fileOf pool3 8 #[] #[{ accessFlags := 1, nameIndex := 5, descriptorIndex := 30, attributes := #[] }, { accessFlags := 1, nameIndex := 38, descriptorIndex := 39, attributes := #[] }] 49 2 #[] #[{ accessFlags := 18, nameIndex := 11, descriptorIndex := 12, attributes := #[] }, { accessFlags := 18, nameIndex := 15, descriptorIndex := 12, attributes := #[] }, { accessFlags := 25, nameIndex := 33, descriptorIndex := 34, attributes := #[] }])
  fields := #[{ name := "withPromotion", type := .boolean, accessFlags := 18, slot := 0, constantValue := 0 }, { name := "withVoucher", type := .boolean, accessFlags := 18, slot := 1, constantValue := 0 }, { name := "DEFAULT", type := (.object "com/example/quotewright/quotewright/pricing/VoucherStacking"), accessFlags := 25, slot := 0, constantValue := 0 }]
  methods := #[k3m0, k3m1]
  instanceTypes := #[.boolean, .boolean]
  staticTypes := #[(.object "com/example/quotewright/quotewright/pricing/VoucherStacking")]
  resolved := Array.replicate 67 none
  statics := none }

def pool4 : Array CpInfo := pool [(1, u "java/lang/Cloneable"), (0, .class_ 1), (0, u "java/lang/Object"), (0, .class_ 3)] 3

/-- java/lang/Cloneable -/
def k4 : Class := { plain "java/lang/Cloneable" (some 0) with
  accessFlags := 1537
  interfaces := #[]
  cf := some (fileOf pool4 2 #[] #[] 1537 4 #[] #[])
  fields := #[]
  methods := #[]
  instanceTypes := #[]
  staticTypes := #[]
  resolved := Array.replicate 8 none
  statics := none }

def pool5 : Array CpInfo := pool [(1, u "java/io/Serializable"), (0, .class_ 1), (0, u "java/lang/Object"), (0, .class_ 3)] 3

/-- java/io/Serializable -/
def k5 : Class := { plain "java/io/Serializable" (some 0) with
  accessFlags := 1537
  interfaces := #[]
  cf := some (fileOf pool5 2 #[] #[] 1537 4 #[] #[])
  fields := #[]
  methods := #[]
  instanceTypes := #[]
  staticTypes := #[]
  resolved := Array.replicate 8 none
  statics := none }

/-- the primitive byte -/
def k6 : Class := { plain "byte" none with kind := .primitive 'B', accessFlags := 0x411 }
/-- [B -/
def k7 : Class := { plain "[B" (some 0) with kind := .array 6 .byte, interfaces := #[4, 5], accessFlags := 1041 }

/-- the primitive int -/
def k8 : Class := { plain "int" none with kind := .primitive 'I', accessFlags := 0x411 }
/-- [I -/
def k9 : Class := { plain "[I" (some 0) with kind := .array 8 .int, interfaces := #[4, 5], accessFlags := 1041 }

def heap : Heap := #[]
def classes : Array Class := #[k0, k1, k2, k3, k4, k5, k6, k7, k8, k9]
def interned : List (Array UInt16 × Addr) := []
def slotsUsed : Nat := 0
def theMethod : MethodId := ⟨1, 1⟩
def args0 : Array Value := #[.int 5]
def aboutOver (below : List Frame) : State where
  vm := { classes := classes, interned := interned.toArray }
  heap := heap
  slotsUsed := slotsUsed
  threads := #[{ frames := .invoking theMethod args0 :: below }]
def below0 : List Frame := [.native { method := ⟨0, 0⟩, args := #[] }]
def about1 : State := aboutOver below0
def p0 : Program := .bare "" "" ""
def e0 : Env := launch0.env 0 0 0
theorem w_frames : about1.frames = Frame.invoking theMethod args0 :: below0 := rfl
set_option maxRecDepth 65536 in
theorem w_args : argsFit about1.vm theMethod args0 = true := by decide +kernel
set_option maxRecDepth 65536 in
theorem w_heap : heapFits about1 = true := by decide +kernel
set_option maxRecDepth 65536 in
theorem w_runnable : about1.curStatus? = some .runnable := by decide +kernel
set_option maxRecDepth 65536 in
theorem w_alone : about1.alone = true := by decide +kernel
set_option maxRecDepth 65536 in
theorem w_named : about1.methodNamed? x = some theMethod := by decide +kernel
set_option maxRecDepth 65536 in
theorem w_hears : about1.hears theMethod below0 = true := by decide +kernel
set_option maxRecDepth 65536 in
theorem w_ripe : about1.ripe theMethod args0 below0 = true := by decide +kernel
theorem w_running : about1.status = .running := rfl
set_option maxRecDepth 65536 in
theorem w_room : about1.hasRoom e0.platform room_1 = true :=
  launch0.hasRoom_least _ room_1 (by decide +kernel) (by decide +kernel) (by decide +kernel) (by decide +kernel) (by decide +kernel) (by decide +kernel)
theorem allAtoms_all (ts : List Jvm.Cond) (a : Array Jvm.Value) (st : Jvm.State) : (allAtoms ts).before a st = ts.all (fun c => c.before a st) := by
  induction ts with
  | nil => rfl
  | cons c t ih =>
    show (Jvm.Cond.and c (allAtoms t)).before a st = _
    rw [Jvm.Cond.before_and, ih, List.all_cons]
def words1 : List Jvm.Cond := Jvm.Cond.code x code maxLocals ret :: tables_1
/-- a 'code' word, met by the world's own term for the bytes: nothing is compared byte by byte -/
theorem code_word {y : MethodName} {bytes : ByteArray} {mx : Nat} {rt : Option FieldType} {a : Array Value} {s : State} {m : MethodId} {meth : Method} {c : Code} (h1 : s.methodNamed? y = some m) (h2 : s.vm.method? m = some meth) (h3 : meth.code = some c) (h4 : c.code = bytes)
    (h5 : (c.maxLocals == mx && c.exceptionTable.isEmpty && decide (c.maxStack ≤ mostOperands) && decide (meth.sig.returnType = rt) && !meth.locks && decide (parseMethodDescriptor y.desc = some meth.sig)) = true) : (Jvm.Cond.code y bytes mx rt).before a s = true := by
  simp only [Bool.and_eq_true, beq_iff_eq, Bool.not_eq_true', decide_eq_true_eq] at h5
  obtain ⟨⟨⟨⟨⟨g1, g2⟩, g3⟩, g4⟩, g5⟩, g6⟩ := h5
  simp [Cond.before, Cond.holds, Cond.value, h1, h2, h3, h4, g1, g2, g3, g4, g5, g6]
def isCode : Jvm.Cond → Bool
  | .code _ _ _ _ => true
  | _ => false
theorem all_split {L : List Jvm.Cond} {P : Jvm.Cond → Bool} (h1 : L.all (fun c => isCode c || P c) = true) (h2 : ∀ c ∈ L.filter isCode, P c = true) : L.all P = true := by
  refine List.all_eq_true.mpr fun c hc => ?_
  have h := List.all_eq_true.mp h1 c hc
  rcases Bool.eq_false_or_eq_true (isCode c) with hi | hi
  · exact h2 c (List.mem_filter.mpr ⟨hc, hi⟩)
  · simpa [hi] using h
set_option maxRecDepth 65536 in
theorem w_c0 : (Jvm.Cond.code x code maxLocals ret).before args0 about1 = true := code_word (m := ⟨1, 1⟩) (meth := k1m1) (c := k1c1) (by decide +kernel) rfl rfl rfl (by decide +kernel)
set_option maxRecDepth 65536 in
theorem w_c1 : (Jvm.Cond.code ({ cls := "com/example/quotewright/quotewright/pricing/VoucherStacking", name := "<init>", desc := "(ZZ)V" } : Jvm.MethodName) prog_106_method_1_code (3 : Nat) (Option.none : Option Jvm.ClassFile.FieldType)).before args0 about1 = true := code_word (m := ⟨3, 0⟩) (meth := k3m0) (c := k3c0) (by decide +kernel) rfl rfl rfl (by decide +kernel)
set_option maxRecDepth 65536 in
theorem w_c2 : (Jvm.Cond.code ({ cls := "java/lang/Record", name := "<init>", desc := "()V" } : Jvm.MethodName) jdk_30_method_1_code (1 : Nat) (Option.none : Option Jvm.ClassFile.FieldType)).before args0 about1 = true := code_word (m := ⟨2, 0⟩) (meth := k2m0) (c := k2c0) (by decide +kernel) rfl rfl rfl (by decide +kernel)
set_option maxRecDepth 65536 in
theorem w_c3 : (Jvm.Cond.code ({ cls := "java/lang/Object", name := "<init>", desc := "()V" } : Jvm.MethodName) object_method_1_code (1 : Nat) (Option.none : Option Jvm.ClassFile.FieldType)).before args0 about1 = true := code_word (m := ⟨0, 0⟩) (meth := k0m0) (c := k0c0) (by decide +kernel) rfl rfl rfl (by decide +kernel)
set_option maxRecDepth 65536 in
theorem w_c4 : (Jvm.Cond.code ({ cls := "com/example/quotewright/quotewright/pricing/VoucherStacking", name := "stacksOn", desc := "(Lcom/example/quotewright/quotewright/pricing/VoucherStacking;)Z" } : Jvm.MethodName) prog_106_method_2_code (2 : Nat) (Option.some Jvm.ClassFile.FieldType.boolean)).before args0 about1 = true := code_word (m := ⟨3, 1⟩) (meth := k3m1) (c := k3c1) (by decide +kernel) rfl rfl rfl (by decide +kernel)
def codes1 : List Jvm.Cond := [Jvm.Cond.code x code maxLocals ret, Jvm.Cond.code ({ cls := "com/example/quotewright/quotewright/pricing/VoucherStacking", name := "<init>", desc := "(ZZ)V" } : Jvm.MethodName) prog_106_method_1_code (3 : Nat) (Option.none : Option Jvm.ClassFile.FieldType), Jvm.Cond.code ({ cls := "java/lang/Record", name := "<init>", desc := "()V" } : Jvm.MethodName) jdk_30_method_1_code (1 : Nat) (Option.none : Option Jvm.ClassFile.FieldType), Jvm.Cond.code ({ cls := "java/lang/Object", name := "<init>", desc := "()V" } : Jvm.MethodName) object_method_1_code (1 : Nat) (Option.none : Option Jvm.ClassFile.FieldType), Jvm.Cond.code ({ cls := "com/example/quotewright/quotewright/pricing/VoucherStacking", name := "stacksOn", desc := "(Lcom/example/quotewright/quotewright/pricing/VoucherStacking;)Z" } : Jvm.MethodName) prog_106_method_2_code (2 : Nat) (Option.some Jvm.ClassFile.FieldType.boolean)]
set_option maxRecDepth 65536 in
theorem codes_eq : words1.filter isCode = codes1 := rfl
theorem w_codes : ∀ c ∈ words1.filter isCode, c.before args0 about1 = true := by
  rw [codes_eq]
  intro c hc
  simp only [codes1, List.mem_cons, List.not_mem_nil, or_false] at hc
  rcases hc with rfl | rfl | rfl | rfl | rfl
  · exact w_c0
  · exact w_c1
  · exact w_c2
  · exact w_c3
  · exact w_c4
set_option maxRecDepth 65536 in
theorem w_t1 : words1.all (fun c => isCode c || c.before args0 about1) = true := by decide +kernel
theorem w_tables : (allAtoms (Jvm.Cond.code x code maxLocals ret :: tables_1)).before args0 about1 = true := by
  rw [allAtoms_all]
  show words1.all (fun c => c.before args0 about1) = true
  refine all_split ?_ w_codes
  rw [w_t1]
set_option maxRecDepth 65536 in
theorem w_case : (Jvm.Cond.and given_1 narrow_1).before args0 about1 = true := by decide +kernel
theorem w_applies : (headSpec (Jvm.Cond.code x code maxLocals ret :: tables_1) room_1).applies x e0.platform about1 = true :=
  (Spec.applies_iff w_frames).mpr ⟨w_running, w_runnable, w_alone, w_named, w_hears, w_ripe, w_room, w_tables⟩
theorem atStart : AtStart classFile x code maxLocals ret World_1 tables_1 room_1 Calls_1 rest_1 Pre_1 launch0 p0 e0 about1 theMethod args0 below0 :=
  ⟨lists_1, trivial, launch0.admits_env _ _ _, launch0.least_env, fairChoices_fair.cas, fairChoices_fair.clock, w_frames, w_args, w_heap, w_applies, trivial, trivial, w_case⟩
end start1
theorem witness_1 : WitnessClaimed_1 := ⟨start1.p0, start1.e0, start1.about1, start1.theMethod, start1.args0, start1.below0, start1.atStart⟩
end Jvm.Pilot.@@N@@
