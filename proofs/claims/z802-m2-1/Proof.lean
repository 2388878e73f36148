import JvmDerived
import JvmDerived.Pilot.@@N@@Statement
import JvmDerived.Pilot.@@N@@Code
set_option linter.unusedVariables false
set_option linter.unusedSimpArgs false

namespace Jvm.Pilot.@@N@@
open Jvm Jvm.ClassFile Sem Op Lib Jvm.Free Jvm.Stand Jvm.LawKit Jvm.RoadKit Bundle Jvm.Pilot.@@N@@.Jvm.D
/-! the walk's own frame: a goal that goes forward step by step -/
def Go (p : Program) (e : Env) (below : List Frame) (P : State → Outcome → Prop) (A : State) : Prop := ∃ s₂ o, Steps p.tables e below A s₂ ∧ P s₂ o
theorem go {p : Program} {e : Env} {below : List Frame} {P : State → Outcome → Prop} {A B : State} (h : ∀ t, Steps p.tables e below B t → Steps p.tables e below A t) (k : Go p e below P B) : Go p e below P A := by
  obtain ⟨t, o, a, b⟩ := k
  exact ⟨t, o, h t a, b⟩
def PP (s : State) (below : List Frame) (Q : Option Value → Heap → List Loc → Prop) (ce sl : Nat) (s₂ : State) (o : Outcome) : Prop := s₂.status = .running ∧ Ended s₂ below o ∧ ∃ v L, o = .returned v ∧ Q v s₂.heap L ∧ FrameEnd s o s₂ L ce sl
theorem leaf {p : Program} {e : Env} {s A : State} {below : List Frame} {Q : Option Value → Heap → List Loc → Prop} {ce sl : Nat} {T : State} {v : Option Value} {locs : List Loc} {cells slots : Nat}
    (h : ∃ fs, Steps p.tables e below A (T.setFrames fs) ∧ (T.setFrames fs).status = .running ∧ Ended (T.setFrames fs) below (.returned v) ∧ s.WarmedH (T.setFrames fs).vm ∧ s.sameButNew ({ T.setFrames fs with vm := s.vm } : State) locs cells slots)
    (hQ : Q v T.heap locs) (hc : cells ≤ ce) (hs : slots ≤ sl) : Go p e below (PP s below Q ce sl) A := by
  obtain ⟨fs, h1, h2, h3, h4, h5⟩ := h
  exact ⟨_, _, h1, h2, h3, v, locs, rfl, hQ, ⟨_, rfl⟩, h4, h5.mono hc hs⟩
theorem retI {p : Program} {l : Launch} {e : Env} {R : Room} {s : State} {m : MethodId} {args : Array Value} {below : List Frame} {meth : Method} {c : Code} {T : State} {locs : List Loc} {cells slots : Nat} (X : Stand p l e R s m args below meth c T locs cells slots) (hx : p.tables.exec = Jvm.exec) {pc : Nat} {Ls : Array Slot} {z : Int32} {rest : List Value} (hret : meth.sig.returnType = some .int) (hd : decode c.code pc = .ok (.ireturn, 1)) {fs : List Frame}
    (hl : ∀ (f : JFrame) (acts : List Action), f.method = m → f.locked = none → f.entered = [] → (doReturn e (T.setTop f) acts (some (.int z))).1 = T.setFrames fs) : Steps p.tables e below (T.setTop (mkF m pc Ls (.int z :: rest))) (T.setFrames fs) :=
  retOut X hx hret rfl (Or.inl ⟨rfl, Or.inl rfl, z, rfl⟩) hd hl
theorem retJ {p : Program} {l : Launch} {e : Env} {R : Room} {s : State} {m : MethodId} {args : Array Value} {below : List Frame} {meth : Method} {c : Code} {T : State} {locs : List Loc} {cells slots : Nat} (X : Stand p l e R s m args below meth c T locs cells slots) (hx : p.tables.exec = Jvm.exec) {pc : Nat} {Ls : Array Slot} {z : Int64} {rest : List Value} (hret : meth.sig.returnType = some .long) (hd : decode c.code pc = .ok (.lreturn, 1)) {fs : List Frame}
    (hl : ∀ (f : JFrame) (acts : List Action), f.method = m → f.locked = none → f.entered = [] → (doReturn e (T.setTop f) acts (some (.long z))).1 = T.setFrames fs) : Steps p.tables e below (T.setTop (mkF m pc Ls (.long z :: rest))) (T.setFrames fs) :=
  retOut X hx hret rfl (Or.inr (Or.inl ⟨rfl, rfl, z, rfl⟩)) hd hl
theorem retA {p : Program} {l : Launch} {e : Env} {R : Room} {s : State} {m : MethodId} {args : Array Value} {below : List Frame} {meth : Method} {c : Code} {T : State} {locs : List Loc} {cells slots : Nat} (X : Stand p l e R s m args below meth c T locs cells slots) (hx : p.tables.exec = Jvm.exec) {pc : Nat} {Ls : Array Slot} {w : Value} {t : FieldType} {rest : List Value} (hret : meth.sig.returnType = some t) (ht : t.isReference = true) (hw : w.isRef = true) (hn : narrow t w = w) (hd : decode c.code pc = .ok (.areturn, 1)) {fs : List Frame}
    (hl : ∀ (f : JFrame) (acts : List Action), f.method = m → f.locked = none → f.entered = [] → (doReturn e (T.setTop f) acts (some w)).1 = T.setFrames fs) : Steps p.tables e below (T.setTop (mkF m pc Ls (w :: rest))) (T.setFrames fs) :=
  retOut X hx hret hn (Or.inr (Or.inr (Or.inr (Or.inr ⟨rfl, ht, hw⟩)))) hd hl
theorem own_psel {Z s : State} {a0 args : Array Value} {y : MethodName} {n : Nat} (hZ : Z.Warmed39 s.vm) (hi : (Jvm.Cond.instantiable y.cls n).before a0 Z = true) (hp : (Jvm.Cond.privateMethod y).before a0 Z = true) (hinst : (Jvm.Cond.instanceMethod y).before a0 Z = true) (hy : y.cls ≠ "java/lang/invoke/MethodHandle" ∧ y.cls ≠ "java/lang/invoke/VarHandle") : (Jvm.Cond.selects y.cls y y).before args s = true := by
  have hi' : (Jvm.Cond.instantiable y.cls n).before args s = true := mvT hZ hi
  obtain ⟨c, k, h1, h2, h3, h4, h5, h6⟩ := Cond.instantiable_spec hi'
  have h7 : k.isInterface = false := by
    cases hq : k.isInterface
    · rfl
    · rw [hq] at h4; simp at h4
  exact selects_self_of_private h1 h2 h7 (Cond.privateMethod_at (mvP hZ hp (args := args))) (mvT hZ hinst) hy
def PPW (s : State) (below : List Frame) (Q : Option Value → Heap → List Loc → Prop) (ce sl : Nat) (s₂ : State) (o : Outcome) : Prop := s₂.status = .running ∧ Ended s₂ below o ∧ ∃ v L, o = .returned v ∧ Q v s₂.heap L ∧ ReturnedEndW s o s₂ L ce sl
theorem endW_mono {s t : State} {o : Outcome} {L : List Loc} {k n k' n' : Nat} (h : ReturnedEndW s o t L k n) (hk : k ≤ k') (hn : n ≤ n') : ReturnedEndW s o t L k' n' := ⟨h.1, h.2.1, h.2.2.1, h.2.2.2.mono hk hn⟩
theorem leafW {p : Program} {e : Env} {s A : State} {below : List Frame} {Q : Option Value → Heap → List Loc → Prop} {ce sl : Nat} {T : State} {v : Option Value} {locs : List Loc} {cells slots : Nat}
    (h : ∃ fs, Steps p.tables e below A (T.setFrames fs) ∧ (T.setFrames fs).status = .running ∧ Ended (T.setFrames fs) below (.returned v) ∧ ReturnedEndW s (.returned v) (T.setFrames fs) locs cells slots)
    (hQ : Q v T.heap locs) (hc : cells ≤ ce) (hs : slots ≤ sl) : Go p e below (PPW s below Q ce sl) A := by
  obtain ⟨fs, h1, h2, h3, h4⟩ := h
  exact ⟨_, _, h1, h2, h3, v, locs, rfl, hQ, endW_mono h4 hc hs⟩
def PPH (Z : State) (EL : List (String × Nat)) (s : State) (below : List Frame) (Q : Option Value → Heap → List Loc → Prop) (ce sl : Nat) (s₂ : State) (o : Outcome) : Prop := s₂.status = .running ∧ Ended s₂ below o ∧ ∃ v L, o = .returned v ∧ Q v s₂.heap L ∧ CHr Z EL s.vm s.heap s₂.vm s₂.heap ∧ ReturnedEndW s o s₂ L ce sl
theorem leafH {Z : State} {EL : List (String × Nat)} {p : Program} {e : Env} {s A : State} {below : List Frame} {Q : Option Value → Heap → List Loc → Prop} {ce sl : Nat} {T : State} {v : Option Value} {locs : List Loc} {cells slots : Nat}
    (h : ∃ fs, Steps p.tables e below A (T.setFrames fs) ∧ (T.setFrames fs).status = .running ∧ Ended (T.setFrames fs) below (.returned v) ∧ ReturnedEndW s (.returned v) (T.setFrames fs) locs cells slots)
    (hQ : Q v T.heap locs) (hR : CHr Z EL s.vm s.heap T.vm T.heap) (hc : cells ≤ ce) (hs : slots ≤ sl) : Go p e below (PPH Z EL s below Q ce sl) A := by
  obtain ⟨fs, h1, h2, h3, h4⟩ := h
  exact ⟨_, _, h1, h2, h3, v, locs, rfl, hQ, hR, endW_mono h4 hc hs⟩
theorem coldZ {Z s : State} {vm0 vm1 : Vm} {n : Nat} (hZ : Z.Warmed39 (s.setVm vm0).vm) (h2 : (s.setVm vm0).Since vm1 n) : Z.Warmed39 (s.setVm vm1).vm := State.Warmed39.trans (t := s.setVm vm0) hZ h2.1
theorem coldO {s : State} {vm0 vm1 : Vm} {n : Nat} {own : String} {c : ClassId} (hown : (s.setVm vm0).vm.findClass own = some c) (h2 : (s.setVm vm0).Since vm1 n) : (s.setVm vm1).vm.findClass own = some c := by
  rw [show (s.setVm vm1).vm = vm1 from rfl, h2.1.alike.findClass]; exact hown
/-! a truth as Java's int -/
def bz (c : Prop) [Decidable c] : Int32 := if c then 1 else 0
theorem bz_t {c : Prop} [Decidable c] (h : c) : bz c = 1 := if_pos h
theorem bz_f {c : Prop} [Decidable c] (h : ¬ c) : bz c = 0 := if_neg h
theorem bz_ne {c : Prop} [Decidable c] (h : c) : ¬ (bz c = 0) := by rw [bz_t h]; decide
theorem bz_nf {c : Prop} [Decidable c] (h : ¬ c) : ¬ (bz c = 1) := by rw [bz_f h]; decide
theorem bz_congr {c d : Prop} [Decidable c] [Decidable d] (h : c ↔ d) : bz c = bz d := by by_cases q : c; rw [bz_t q, bz_t (h.mp q)]; rw [bz_f q, bz_f (fun z => q (h.mpr z))]
theorem bz_nar (c : Prop) [Decidable c] : nar .boolean (bz c) = bz c := by by_cases q : c; rw [bz_t q]; rfl; rw [bz_f q]; rfl

theorem own_k (p : Int32) : ((p &&& (2147483647 : Int32)) % (11 : Int32)) = (0 : Int32) ∨ ((p &&& (2147483647 : Int32)) % (11 : Int32)) = (1 : Int32) ∨ ((p &&& (2147483647 : Int32)) % (11 : Int32)) = (2 : Int32) ∨ ((p &&& (2147483647 : Int32)) % (11 : Int32)) = (3 : Int32) ∨ ((p &&& (2147483647 : Int32)) % (11 : Int32)) = (4 : Int32) ∨ ((p &&& (2147483647 : Int32)) % (11 : Int32)) = (5 : Int32) ∨ ((p &&& (2147483647 : Int32)) % (11 : Int32)) = (6 : Int32) ∨ ((p &&& (2147483647 : Int32)) % (11 : Int32)) = (7 : Int32) ∨ ((p &&& (2147483647 : Int32)) % (11 : Int32)) = (8 : Int32) ∨ ((p &&& (2147483647 : Int32)) % (11 : Int32)) = (9 : Int32) ∨ ((p &&& (2147483647 : Int32)) % (11 : Int32)) = (10 : Int32) := by
  have h := c_mask p 2147483647 31 (by decide) (by decide)
  have h1 := (c_irem (p &&& (2147483647 : Int32)) 11 11 (by decide)).1 (by omega)
  have hz : ∀ k : Int32, 0 ≤ k.toInt → True := fun _ _ => trivial
  have z0 : (0 : Int32).toInt = 0 := by decide
  have z1 : (1 : Int32).toInt = 1 := by decide
  have z2 : (2 : Int32).toInt = 2 := by decide
  have z3 : (3 : Int32).toInt = 3 := by decide
  have z4 : (4 : Int32).toInt = 4 := by decide
  have z5 : (5 : Int32).toInt = 5 := by decide
  have z6 : (6 : Int32).toInt = 6 := by decide
  have z7 : (7 : Int32).toInt = 7 := by decide
  have z8 : (8 : Int32).toInt = 8 := by decide
  have z9 : (9 : Int32).toInt = 9 := by decide
  have z10 : (10 : Int32).toInt = 10 := by decide
  simp only [← Int32.toInt_inj, z0, z1, z2, z3, z4, z5, z6, z7, z8, z9, z10]
  omega
theorem own_ord {args : Array Value} {s : State} {t : Term} {a : Addr} {C n d : String} {k : Int32} (ev : t.eval args s none [] s = some (.ref a)) (h : (Jvm.Cond.eq (.field t C n d) (.int k)).value args s none s [] = some true) : s.fieldOf? a C n d = some (.int k) := by
  have e := fld_at (C := C) (n := n) (dd := d) ev
  simp only [Cond.value, e, Term.int_eval] at h
  cases hq : s.fieldOf? a C n d with
  | none => rw [hq] at h; simp at h
  | some v => rw [hq] at h; cases v <;> simp_all
theorem own_unlike {s : State} {a b : Addr} {C n d : String} {j k : Int32} (h1 : s.fieldOf? a C n d = some (.int j)) (h2 : s.fieldOf? b C n d = some (.int k)) (h : j ≠ k) : ¬ (Value.ref a = Value.ref b) := by
  intro q
  cases q
  rw [h1] at h2
  cases h2
  exact h rfl
def own_inp (a t d : Addr) : Prop := Value.ref a = Value.ref t ∨ Value.ref a = Value.ref d
instance (a t d : Addr) : Decidable (own_inp a t d) := by unfold own_inp; infer_instance
theorem pn_0 : plainName "manyworlds/service/KeywordIsInputPinLaw" = true := by first | (simp [plainName, overriddenIn]; done) | decide +kernel
theorem d1_0 : decode method_3_code 0 = .ok (.iload_n 0, 1) := by decide +kernel
theorem d1_1 : decode method_3_code 1 = .ok (.iconst 2, 1) := by decide +kernel
theorem d1_2 : decode method_3_code 2 = .ok (.if_icmp .ne 5, 3) := by decide +kernel
theorem d1_5 : decode method_3_code 5 = .ok (.iconst 1, 1) := by decide +kernel
theorem d1_6 : decode method_3_code 6 = .ok (.ireturn, 1) := by decide +kernel
theorem d1_7 : decode method_3_code 7 = .ok (.iload_n 0, 1) := by decide +kernel
theorem d1_8 : decode method_3_code 8 = .ok (.iconst 3, 1) := by decide +kernel
theorem d1_9 : decode method_3_code 9 = .ok (.if_icmp .ne 5, 3) := by decide +kernel
theorem d1_12 : decode method_3_code 12 = .ok (.iconst 1, 1) := by decide +kernel
theorem d1_13 : decode method_3_code 13 = .ok (.ireturn, 1) := by decide +kernel
theorem d1_14 : decode method_3_code 14 = .ok (.iconst 0, 1) := by decide +kernel
theorem d1_15 : decode method_3_code 15 = .ok (.ireturn, 1) := by decide +kernel
theorem ef_rm1 (m : MethodId) (p1 : Int32) : entryFrame m #[(.int p1)] 1 = mkF m 0 #[.val (.int p1)] [] := by first | (simp [entryFrame, mkF, argsToLocals, Value.category]; done) | rfl
def Q1 (Z : State) (p1 : Int32) (h0 : Heap) (n0 : Nat) (v : Option Value) (h : Heap) (L : List Loc) : Prop := v = some (.int (bz (p1 = (2 : Int32) ∨ p1 = (3 : Int32)))) ∧ Fr n0 L ∧ h = h0
set_option maxRecDepth 65536 in
set_option maxHeartbeats 40000000 in
theorem rm1 (l : Launch) (Z : State) (a0 : Array Value) (hw : ∀ d ∈ tables_1, d.before a0 Z = true) (ws : List Jvm.Cond) (p1 : Int32) (h0 : Heap) (n0 : Nat) (Z0 : n0 ≤ h0.size) :
    MetFree l (⟨"manyworlds/service/KeywordIsInputPinLaw", "expectedInput", "(I)Z"⟩ : MethodName) (head1 (Jvm.Cond.code (⟨"manyworlds/service/KeywordIsInputPinLaw", "expectedInput", "(I)Z"⟩ : MethodName) method_3_code 1 (some .boolean) :: ws) ({ frames := 0, cells := 0, slots := 0, locals := 0 } : Room)) (fun a U => a = #[(.int p1)] ∧ Z.Warmed39 U.vm ∧ U.heap = h0) (fun _ _ _ _ _ => True) (fun _ U o U' => ∃ v L, o = .returned v ∧ Q1 Z p1 h0 n0 v U'.heap L ∧ FrameEnd U o U' L ({ frames := 0, cells := 0, slots := 0, locals := 0 } : Room).cells ({ frames := 0, cells := 0, slots := 0, locals := 0 } : Room).slots) := by
  refine MetFree.of_bodySF (plainFor_of_name pn_0) hisR ?_
  intro p e s m args below meth c s₁ Bd hml0 hP hK
  obtain ⟨rfl, hZ, hh⟩ := hP
  have hx := Bd.exec
  have hby := Bd.bytes
  have hml : c.maxLocals = 1 := hml0
  have hown : s.vm.findClass "manyworlds/service/KeywordIsInputPinLaw" = some m.cls := findClass_of_methodNamed Bd.named
  have hnm := (name_of_methodNamed Bd.named Bd.method).1
  have X0 : Stand p l e ({ frames := 0, cells := 0, slots := 0, locals := 0 } : Room) s m #[(.int p1)] below meth c s₁ [] 0 0 := Stand.of_body Bd
  have e0 : s₁.heap = h0 := by rw [← hh, Bd.state]; rfl
  have N0 := Fr.nil n0
  show Go p e below (PP s below (Q1 Z p1 h0 n0) ({ frames := 0, cells := 0, slots := 0, locals := 0 } : Room).cells ({ frames := 0, cells := 0, slots := 0, locals := 0 } : Room).slots) (s₁.setTop (entryFrame m #[(.int p1)] 1))
  refine go (fun _ k => castTop (ef_rm1 m p1) k) ?_
  show Go p e below _ (s₁.setTop (mkF m 0 #[.val (.int p1)] []))
  refine go (fun _ k => XS.iloadN X0.here hx rfl (hb hby d1_0) rfl  k) ?_
  show Go p e below _ (s₁.setTop (mkF m 1 #[.val (.int p1)] [(.int p1)]))
  refine go (fun _ k => XS.iconst X0.here hx rfl (hb hby d1_1) k) ?_
  show Go p e below _ (s₁.setTop (mkF m 2 #[.val (.int p1)] [(.int (2 : Int32)), (.int p1)]))
  by_cases hc2_1 : p1 = (2 : Int32)
  · skip
    refine go (fun _ k => XS.icmpNo X0.here hx rfl (hb hby d1_2) rfl (teq hc2_1).2 k) ?_
    show Go p e below _ (s₁.setTop (mkF m 5 #[.val (.int p1)] []))
    refine go (fun _ k => XS.iconst X0.here hx rfl (hb hby d1_5) k) ?_
    show Go p e below _ (s₁.setTop (mkF m 6 #[.val (.int p1)] [(.int (1 : Int32))]))
    obtain ⟨fs, hr, hrun, hended, hW, hsame⟩ := X0.leave (v := some (.int (1 : Int32))) (fun h => by rw [Bd.returns] at h; cases h)
    refine leaf (T := s₁) ⟨fs, retN X0 hx (t := .boolean) Bd.returns (by simp) (hb hby d1_6) hr, hrun, hended, hW, hsame⟩ ?_ (by decide) (by decide)
    show Q1 Z p1 h0 n0 _ s₁.heap _
    rw [e0]
    exact ⟨(by rw [bz_t (Or.inl hc2_1)]), N0, rfl⟩
  · skip
    refine go (fun _ k => XS.icmpYes X0.here hx rfl (pc0 := 2) (pc' := 7) rfl (hb hby d1_2) rfl (feq hc2_1).2 (by decide) (by decide) k) ?_
    show Go p e below _ (s₁.setTop (mkF m 7 #[.val (.int p1)] []))
    refine go (fun _ k => XS.iloadN X0.here hx rfl (hb hby d1_7) rfl  k) ?_
    show Go p e below _ (s₁.setTop (mkF m 8 #[.val (.int p1)] [(.int p1)]))
    refine go (fun _ k => XS.iconst X0.here hx rfl (hb hby d1_8) k) ?_
    show Go p e below _ (s₁.setTop (mkF m 9 #[.val (.int p1)] [(.int (3 : Int32)), (.int p1)]))
    by_cases hc9_2 : p1 = (3 : Int32)
    · skip
      refine go (fun _ k => XS.icmpNo X0.here hx rfl (hb hby d1_9) rfl (teq hc9_2).2 k) ?_
      show Go p e below _ (s₁.setTop (mkF m 12 #[.val (.int p1)] []))
      refine go (fun _ k => XS.iconst X0.here hx rfl (hb hby d1_12) k) ?_
      show Go p e below _ (s₁.setTop (mkF m 13 #[.val (.int p1)] [(.int (1 : Int32))]))
      obtain ⟨fs, hr, hrun, hended, hW, hsame⟩ := X0.leave (v := some (.int (1 : Int32))) (fun h => by rw [Bd.returns] at h; cases h)
      refine leaf (T := s₁) ⟨fs, retN X0 hx (t := .boolean) Bd.returns (by simp) (hb hby d1_13) hr, hrun, hended, hW, hsame⟩ ?_ (by decide) (by decide)
      show Q1 Z p1 h0 n0 _ s₁.heap _
      rw [e0]
      exact ⟨(by rw [bz_t (Or.inr hc9_2)]), N0, rfl⟩
    · skip
      refine go (fun _ k => XS.icmpYes X0.here hx rfl (pc0 := 9) (pc' := 14) rfl (hb hby d1_9) rfl (feq hc9_2).2 (by decide) (by decide) k) ?_
      show Go p e below _ (s₁.setTop (mkF m 14 #[.val (.int p1)] []))
      refine go (fun _ k => XS.iconst X0.here hx rfl (hb hby d1_14) k) ?_
      show Go p e below _ (s₁.setTop (mkF m 15 #[.val (.int p1)] [(.int (0 : Int32))]))
      obtain ⟨fs, hr, hrun, hended, hW, hsame⟩ := X0.leave (v := some (.int (0 : Int32))) (fun h => by rw [Bd.returns] at h; cases h)
      refine leaf (T := s₁) ⟨fs, retN X0 hx (t := .boolean) Bd.returns (by simp) (hb hby d1_15) hr, hrun, hended, hW, hsame⟩ ?_ (by decide) (by decide)
      show Q1 Z p1 h0 n0 _ s₁.heap _
      rw [e0]
      exact ⟨(by rw [bz_f (fun q => q.elim hc2_1 hc9_2)]), N0, rfl⟩
theorem pn_1 : plainName "manyworlds/service/Keyword" = true := by first | (simp [plainName, overriddenIn]; done) | decide +kernel
theorem d2_0 : decode prog_70_method_9_code 0 = .ok (.aload_n 0, 1) := by decide +kernel
theorem d2_1 : decode prog_70_method_9_code 1 = .ok (.getstatic 10, 3) := by decide +kernel
theorem d2_4 : decode prog_70_method_9_code 4 = .ok (.if_acmp .eq 10, 3) := by decide +kernel
theorem d2_7 : decode prog_70_method_9_code 7 = .ok (.aload_n 0, 1) := by decide +kernel
theorem d2_8 : decode prog_70_method_9_code 8 = .ok (.getstatic 13, 3) := by decide +kernel
theorem d2_11 : decode prog_70_method_9_code 11 = .ok (.if_acmp .ne 7, 3) := by decide +kernel
theorem d2_14 : decode prog_70_method_9_code 14 = .ok (.iconst 1, 1) := by decide +kernel
theorem d2_15 : decode prog_70_method_9_code 15 = .ok (.goto 4, 3) := by decide +kernel
theorem d2_18 : decode prog_70_method_9_code 18 = .ok (.iconst 0, 1) := by decide +kernel
theorem d2_19 : decode prog_70_method_9_code 19 = .ok (.ireturn, 1) := by decide +kernel
theorem ef_rm2 (m : MethodId) (a1 : Addr) : entryFrame m #[(.ref a1)] 1 = mkF m 0 #[.val (.ref a1)] [] := by first | (simp [entryFrame, mkF, argsToLocals, Value.category]; done) | rfl
def Q2 (Z : State) (a1 : Addr) (wT : Addr) (wD : Addr) (h0 : Heap) (n0 : Nat) (v : Option Value) (h : Heap) (L : List Loc) : Prop := v = some (.int (bz (own_inp a1 wT wD))) ∧ Fr n0 L ∧ h = h0
set_option maxRecDepth 65536 in
set_option maxHeartbeats 40000000 in
theorem rm2 (l : Launch) (Z : State) (a0 : Array Value) (hw : ∀ d ∈ tables_1, d.before a0 Z = true) (ws : List Jvm.Cond) (a1 : Addr) (wT : Addr) (wD : Addr) (h0 : Heap) (n0 : Nat) (Z0 : n0 ≤ h0.size) (O0 : Old Z n0 h0) (S_TRUE : Sta Z Z.heap "manyworlds/service/Keyword" "TRUE" "Lmanyworlds/service/Keyword;" (.ref wT)) (S_DOES : Sta Z Z.heap "manyworlds/service/Keyword" "DOES" "Lmanyworlds/service/Keyword;" (.ref wD)) :
    MetFree l (⟨"manyworlds/service/Keyword", "isInput", "()Z"⟩ : MethodName) (head1 (Jvm.Cond.code (⟨"manyworlds/service/Keyword", "isInput", "()Z"⟩ : MethodName) prog_70_method_9_code 1 (some .boolean) :: ws) ({ frames := 0, cells := 0, slots := 0, locals := 0 } : Room)) (fun a U => a = #[(.ref a1)] ∧ Z.Warmed39 U.vm ∧ U.heap = h0) (fun _ _ _ _ _ => True) (fun _ U o U' => ∃ v L, o = .returned v ∧ Q2 Z a1 wT wD h0 n0 v U'.heap L ∧ FrameEnd U o U' L ({ frames := 0, cells := 0, slots := 0, locals := 0 } : Room).cells ({ frames := 0, cells := 0, slots := 0, locals := 0 } : Room).slots) := by
  refine MetFree.of_bodySF (plainFor_of_name pn_1) hisR ?_
  intro p e s m args below meth c s₁ Bd hml0 hP hK
  obtain ⟨rfl, hZ, hh⟩ := hP
  have hx := Bd.exec
  have hby := Bd.bytes
  have hml : c.maxLocals = 1 := hml0
  have hown : s.vm.findClass "manyworlds/service/Keyword" = some m.cls := findClass_of_methodNamed Bd.named
  have hnm := (name_of_methodNamed Bd.named Bd.method).1
  have X0 : Stand p l e ({ frames := 0, cells := 0, slots := 0, locals := 0 } : Room) s m #[(.ref a1)] below meth c s₁ [] 0 0 := Stand.of_body Bd
  have e0 : s₁.heap = h0 := by rw [← hh, Bd.state]; rfl
  have N0 := Fr.nil n0
  show Go p e below (PP s below (Q2 Z a1 wT wD h0 n0) ({ frames := 0, cells := 0, slots := 0, locals := 0 } : Room).cells ({ frames := 0, cells := 0, slots := 0, locals := 0 } : Room).slots) (s₁.setTop (entryFrame m #[(.ref a1)] 1))
  refine go (fun _ k => castTop (ef_rm2 m a1) k) ?_
  show Go p e below _ (s₁.setTop (mkF m 0 #[.val (.ref a1)] []))
  refine go (fun _ k => XS.aloadN X0.here hx rfl (hb hby d2_0) rfl rfl  k) ?_
  show Go p e below _ (s₁.setTop (mkF m 1 #[.val (.ref a1)] [(.ref a1)]))
  obtain ⟨T1, X1, e1, st1⟩ := getS2 X0 hx hZ hown (host := "") (Or.inl (hw _ (List.mem_of_getElem? (i := 36) rfl))) Via.refl e0 (S_TRUE.ext O0.2) (g := (mkF m 1 #[.val (.ref a1)] [(.ref a1)])) rfl (hb hby d2_1)
  refine go st1 ?_
  show Go p e below _ (T1.setTop (mkF m 4 #[.val (.ref a1)] [(.ref wT), (.ref a1)]))
  by_cases ha4_1 : (Value.ref a1) = (.ref wT)
  · skip
    refine go (fun _ k => Jvm.RoadKit.acmp (g := (mkF m 4 #[.val (.ref a1)] [(.ref wT), (.ref a1)])) X1 hx rfl rfl rfl (pc0 := 4) (pc' := 14) (same := true) rfl (hb hby d2_4) rfl (decide_eq_true ha4_1) (by decide) (by decide) k) ?_
    show Go p e below _ (T1.setTop (mkF m 14 #[.val (.ref a1)] []))
    refine go (fun _ k => XS.iconst X1.here hx rfl (hb hby d2_14) k) ?_
    show Go p e below _ (T1.setTop (mkF m 15 #[.val (.ref a1)] [(.int (1 : Int32))]))
    refine go (fun _ k => XS.goto X1.here hx rfl (pc0 := 15) (pc' := 19) rfl (hb hby d2_15) (by decide) (by decide) k) ?_
    show Go p e below _ (T1.setTop (mkF m 19 #[.val (.ref a1)] [(.int (1 : Int32))]))
    obtain ⟨fs, hr, hrun, hended, hW, hsame⟩ := X1.leave (v := some (.int (1 : Int32))) (fun h => by rw [Bd.returns] at h; cases h)
    refine leaf (T := T1) ⟨fs, retN X1 hx (t := .boolean) Bd.returns (by simp) (hb hby d2_19) hr, hrun, hended, hW, hsame⟩ ?_ (by decide) (by decide)
    show Q2 Z a1 wT wD h0 n0 _ T1.heap _
    rw [e1]
    exact ⟨(by rw [bz_t (c := own_inp a1 wT wD) (Or.inl ha4_1)]), N0, rfl⟩
  · skip
    refine go (fun _ k => Jvm.RoadKit.acmp (g := (mkF m 4 #[.val (.ref a1)] [(.ref wT), (.ref a1)])) X1 hx rfl rfl rfl (pc0 := 4) (pc' := 7) (same := false) rfl (hb hby d2_4) rfl (decide_eq_false ha4_1) (by decide) (by decide) k) ?_
    show Go p e below _ (T1.setTop (mkF m 7 #[.val (.ref a1)] []))
    refine go (fun _ k => XS.aloadN X1.here hx rfl (hb hby d2_7) rfl rfl  k) ?_
    show Go p e below _ (T1.setTop (mkF m 8 #[.val (.ref a1)] [(.ref a1)]))
    obtain ⟨T2, X2, e2, st2⟩ := getS2 X1 hx hZ hown (host := "") (Or.inl (hw _ (List.mem_of_getElem? (i := 37) rfl))) Via.refl e1 (S_DOES.ext O0.2) (g := (mkF m 8 #[.val (.ref a1)] [(.ref a1)])) rfl (hb hby d2_8)
    refine go st2 ?_
    show Go p e below _ (T2.setTop (mkF m 11 #[.val (.ref a1)] [(.ref wD), (.ref a1)]))
    by_cases ha11_2 : (Value.ref a1) = (.ref wD)
    · skip
      refine go (fun _ k => Jvm.RoadKit.acmp (g := (mkF m 11 #[.val (.ref a1)] [(.ref wD), (.ref a1)])) X2 hx rfl rfl rfl (pc0 := 11) (pc' := 14) (same := true) rfl (hb hby d2_11) rfl (decide_eq_true ha11_2) (by decide) (by decide) k) ?_
      show Go p e below _ (T2.setTop (mkF m 14 #[.val (.ref a1)] []))
      refine go (fun _ k => XS.iconst X2.here hx rfl (hb hby d2_14) k) ?_
      show Go p e below _ (T2.setTop (mkF m 15 #[.val (.ref a1)] [(.int (1 : Int32))]))
      refine go (fun _ k => XS.goto X2.here hx rfl (pc0 := 15) (pc' := 19) rfl (hb hby d2_15) (by decide) (by decide) k) ?_
      show Go p e below _ (T2.setTop (mkF m 19 #[.val (.ref a1)] [(.int (1 : Int32))]))
      obtain ⟨fs, hr, hrun, hended, hW, hsame⟩ := X2.leave (v := some (.int (1 : Int32))) (fun h => by rw [Bd.returns] at h; cases h)
      refine leaf (T := T2) ⟨fs, retN X2 hx (t := .boolean) Bd.returns (by simp) (hb hby d2_19) hr, hrun, hended, hW, hsame⟩ ?_ (by decide) (by decide)
      show Q2 Z a1 wT wD h0 n0 _ T2.heap _
      rw [e2]
      exact ⟨(by rw [bz_t (c := own_inp a1 wT wD) (Or.inr ha11_2)]), N0, rfl⟩
    · skip
      refine go (fun _ k => Jvm.RoadKit.acmp (g := (mkF m 11 #[.val (.ref a1)] [(.ref wD), (.ref a1)])) X2 hx rfl rfl rfl (pc0 := 11) (pc' := 18) (same := false) rfl (hb hby d2_11) rfl (decide_eq_false ha11_2) (by decide) (by decide) k) ?_
      show Go p e below _ (T2.setTop (mkF m 18 #[.val (.ref a1)] []))
      refine go (fun _ k => XS.iconst X2.here hx rfl (hb hby d2_18) k) ?_
      show Go p e below _ (T2.setTop (mkF m 19 #[.val (.ref a1)] [(.int (0 : Int32))]))
      obtain ⟨fs, hr, hrun, hended, hW, hsame⟩ := X2.leave (v := some (.int (0 : Int32))) (fun h => by rw [Bd.returns] at h; cases h)
      refine leaf (T := T2) ⟨fs, retN X2 hx (t := .boolean) Bd.returns (by simp) (hb hby d2_19) hr, hrun, hended, hW, hsame⟩ ?_ (by decide) (by decide)
      show Q2 Z a1 wT wD h0 n0 _ T2.heap _
      rw [e2]
      exact ⟨(by rw [bz_f (c := own_inp a1 wT wD) (fun q => q.elim ha4_1 ha11_2)]), N0, rfl⟩
theorem pd_0 : parseMethodDescriptor "(I)Z" = some ⟨[.int], some .boolean⟩ := by decide +kernel
theorem pd_1 : parseMethodDescriptor "()Z" = some ⟨[], some .boolean⟩ := by decide +kernel
theorem ef_rm0 (m : MethodId) (p1 : Int32) : entryFrame m #[(.int p1)] maxLocals = mkF m 0 #[.val (.int p1), .unset, .unset, .unset, .unset] [] := by first | (simp [entryFrame, mkF, argsToLocals, Value.category, maxLocals]; done) | rfl
def Q0 (Z : State) (p1 : Int32) (w0 : Addr) (w1 : Addr) (w2 : Addr) (w3 : Addr) (w4 : Addr) (w5 : Addr) (w6 : Addr) (w7 : Addr) (w8 : Addr) (w9 : Addr) (w10 : Addr) (h0 : Heap) (n0 : Nat) (v : Option Value) (h : Heap) (L : List Loc) : Prop := v = some (.int (1 : Int32)) ∧ Fr n0 L
set_option maxRecDepth 65536 in
set_option maxHeartbeats 40000000 in
theorem rm0 (l : Launch) (Z : State) (a0 : Array Value) (hw : ∀ d ∈ tables_1, d.before a0 Z = true) (ws : List Jvm.Cond) (p1 : Int32) (w0 : Addr) (w1 : Addr) (w2 : Addr) (w3 : Addr) (w4 : Addr) (w5 : Addr) (w6 : Addr) (w7 : Addr) (w8 : Addr) (w9 : Addr) (w10 : Addr) (h0 : Heap) (n0 : Nat) (Z0 : n0 ≤ h0.size) (O0 : Old Z n0 h0) (S_ROLE : Sta Z Z.heap "manyworlds/service/Keyword" "ROLE" "Lmanyworlds/service/Keyword;" (.ref w0)) (S_INIT : Sta Z Z.heap "manyworlds/service/Keyword" "INIT" "Lmanyworlds/service/Keyword;" (.ref w1)) (S_TRUE : Sta Z Z.heap "manyworlds/service/Keyword" "TRUE" "Lmanyworlds/service/Keyword;" (.ref w2)) (S_DOES : Sta Z Z.heap "manyworlds/service/Keyword" "DOES" "Lmanyworlds/service/Keyword;" (.ref w3)) (S_NEXT : Sta Z Z.heap "manyworlds/service/Keyword" "NEXT" "Lmanyworlds/service/Keyword;" (.ref w4)) (S_LEGAL : Sta Z Z.heap "manyworlds/service/Keyword" "LEGAL" "Lmanyworlds/service/Keyword;" (.ref w5)) (S_GOAL : Sta Z Z.heap "manyworlds/service/Keyword" "GOAL" "Lmanyworlds/service/Keyword;" (.ref w6)) (S_TERMINAL : Sta Z Z.heap "manyworlds/service/Keyword" "TERMINAL" "Lmanyworlds/service/Keyword;" (.ref w7)) (S_SEES : Sta Z Z.heap "manyworlds/service/Keyword" "SEES" "Lmanyworlds/service/Keyword;" (.ref w8)) (S_BASE : Sta Z Z.heap "manyworlds/service/Keyword" "BASE" "Lmanyworlds/service/Keyword;" (.ref w9)) (S_INPUT : Sta Z Z.heap "manyworlds/service/Keyword" "INPUT" "Lmanyworlds/service/Keyword;" (.ref w10)) (E_w0 : Exa Z h0 w0 "manyworlds/service/Keyword") (E_w1 : Exa Z h0 w1 "manyworlds/service/Keyword") (E_w2 : Exa Z h0 w2 "manyworlds/service/Keyword") (E_w3 : Exa Z h0 w3 "manyworlds/service/Keyword") (E_w4 : Exa Z h0 w4 "manyworlds/service/Keyword") (E_w5 : Exa Z h0 w5 "manyworlds/service/Keyword") (E_w6 : Exa Z h0 w6 "manyworlds/service/Keyword") (E_w7 : Exa Z h0 w7 "manyworlds/service/Keyword") (E_w8 : Exa Z h0 w8 "manyworlds/service/Keyword") (E_w9 : Exa Z h0 w9 "manyworlds/service/Keyword") (E_w10 : Exa Z h0 w10 "manyworlds/service/Keyword") (n0_2 : ¬ (Value.ref w0 = Value.ref w2)) (n1_2 : ¬ (Value.ref w1 = Value.ref w2)) (n4_2 : ¬ (Value.ref w4 = Value.ref w2)) (n5_2 : ¬ (Value.ref w5 = Value.ref w2)) (n6_2 : ¬ (Value.ref w6 = Value.ref w2)) (n7_2 : ¬ (Value.ref w7 = Value.ref w2)) (n8_2 : ¬ (Value.ref w8 = Value.ref w2)) (n9_2 : ¬ (Value.ref w9 = Value.ref w2)) (n10_2 : ¬ (Value.ref w10 = Value.ref w2)) (n0_3 : ¬ (Value.ref w0 = Value.ref w3)) (n1_3 : ¬ (Value.ref w1 = Value.ref w3)) (n4_3 : ¬ (Value.ref w4 = Value.ref w3)) (n5_3 : ¬ (Value.ref w5 = Value.ref w3)) (n6_3 : ¬ (Value.ref w6 = Value.ref w3)) (n7_3 : ¬ (Value.ref w7 = Value.ref w3)) (n8_3 : ¬ (Value.ref w8 = Value.ref w3)) (n9_3 : ¬ (Value.ref w9 = Value.ref w3)) (n10_3 : ¬ (Value.ref w10 = Value.ref w3)) :
    MetFree l x (head1 (Jvm.Cond.code x code maxLocals ret :: ws) room_1) (fun a U => a = #[(.int p1)] ∧ Z.Warmed39 U.vm ∧ U.heap = h0) (fun _ _ _ _ _ => True) (fun _ U o U' => ∃ v L, o = .returned v ∧ Q0 Z p1 w0 w1 w2 w3 w4 w5 w6 w7 w8 w9 w10 h0 n0 v U'.heap L ∧ FrameEnd U o U' L room_1.cells room_1.slots) := by
  refine MetFree.of_bodySF (plainFor_of_name pn_0) hisR ?_
  intro p e s m args below meth c s₁ Bd hml0 hP hK
  obtain ⟨rfl, hZ, hh⟩ := hP
  have hx := Bd.exec
  have hby := Bd.bytes
  have hml : c.maxLocals = 5 := hml0
  have hown : s.vm.findClass "manyworlds/service/KeywordIsInputPinLaw" = some m.cls := findClass_of_methodNamed Bd.named
  have hnm := (name_of_methodNamed Bd.named Bd.method).1
  have X0 : Stand p l e room_1 s m #[(.int p1)] below meth c s₁ [] 0 0 := Stand.of_body Bd
  have e0 : s₁.heap = h0 := by rw [← hh, Bd.state]; rfl
  have N0 := Fr.nil n0
  show Go p e below (PP s below (Q0 Z p1 w0 w1 w2 w3 w4 w5 w6 w7 w8 w9 w10 h0 n0) room_1.cells room_1.slots) (s₁.setTop (entryFrame m #[(.int p1)] maxLocals))
  refine go (fun _ k => castTop (ef_rm0 m p1) k) ?_
  show Go p e below _ (s₁.setTop (mkF m 0 #[.val (.int p1), .unset, .unset, .unset, .unset] []))
  refine go (fun _ k => XS.bipush X0.here hx rfl (hb hby at_0) k) ?_
  show Go p e below _ (s₁.setTop (mkF m 2 #[.val (.int p1), .unset, .unset, .unset, .unset] [(.int (11 : Int32))]))
  obtain ⟨T1, h1, k1, X1, e1, E1, A1, O1, st1⟩ := newR X0 hx hZ hown (hw _ (List.mem_of_getElem? (i := 0) rfl)) (hw _ (List.mem_of_getElem? (i := 1) rfl)) e0 (g := (mkF m 2 #[.val (.int p1), .unset, .unset, .unset, .unset] [(.int (11 : Int32))])) rfl (hb hby at_2) rfl (by decide) (cap := 11) (by decide) (by decide) (by decide) (by decide)
  obtain ⟨b1, g1⟩ : ∃ z, z = h0.size := ⟨_, rfl⟩
  rw [← g1] at A1 st1
  have sz_b1 : h0.size ≤ b1 := Nat.le_trans (Keep.refl h0 []).1 (Nat.le_of_eq g1.symm)
  have g_b1 : n0 ≤ b1 := Nat.le_trans Z0 sz_b1
  have V_b1 : Arv Z h1 b1 k1 (.object "manyworlds/service/Keyword") (11 : Int32) [.null, .null, .null, .null, .null, .null, .null, .null, .null, .null, .null] .null := (Arv.new A1 (by decide)).pad (pad_rep [] .null 11)
  refine go st1 ?_
  show Go p e below _ (T1.setTop (mkF m 5 #[.val (.int p1), .unset, .unset, .unset, .unset] [(.ref b1)]))
  refine go (fun _ k => XS.dup X1.here hx rfl (hb hby at_5) rfl rfl k) ?_
  show Go p e below _ (T1.setTop (mkF m 6 #[.val (.int p1), .unset, .unset, .unset, .unset] [(.ref b1), (.ref b1)]))
  refine go (fun _ k => XS.iconst X1.here hx rfl (hb hby at_6) k) ?_
  show Go p e below _ (T1.setTop (mkF m 7 #[.val (.int p1), .unset, .unset, .unset, .unset] [(.int (0 : Int32)), (.ref b1), (.ref b1)]))
  obtain ⟨T2, X2, e2, st2⟩ := getS2 X1 hx hZ hown (host := "") (Or.inl (hw _ (List.mem_of_getElem? (i := 2) rfl))) Via.refl e1 (S_ROLE.ext (O0.ext E1).2) (g := (mkF m 7 #[.val (.int p1), .unset, .unset, .unset, .unset] [(.int (0 : Int32)), (.ref b1), (.ref b1)])) rfl (hb hby at_7)
  refine go st2 ?_
  show Go p e below _ (T2.setTop (mkF m 10 #[.val (.int p1), .unset, .unset, .unset, .unset] [(.ref w0), (.int (0 : Int32)), (.ref b1), (.ref b1)]))
  obtain ⟨cl3, Ar3, q3, S3, M3, H3, G3⟩ := V_b1
  have hin3 : ¬ ((0 : Int32) < 0 ∨ cl3.slots.size ≤ ((0 : Int32)).toNatClampNeg) := inb_of S3 ⟨by decide, by decide⟩
  obtain ⟨T3, h3, X3, e3, W3, st3⟩ := stR X2 hx hZ e2 Ar3 (j := (0 : Int32)) hin3 rfl (Sto.ofV Ar3 q3 O1 (Ins.self (E_w0.ext E1))) (g := (mkF m 10 #[.val (.int p1), .unset, .unset, .unset, .unset] [(.ref w0), (.int (0 : Int32)), (.ref b1), (.ref b1)])) rfl rfl (hb hby at_10)
  have V_b1_3 : Arv Z h3 b1 k1 (.object "manyworlds/service/Keyword") (11 : Int32) ([(.ref w0), .null, .null, .null, .null, .null, .null, .null, .null, .null, .null]) .null := Arv.set Ar3 q3 S3 M3 H3 G3 rfl W3 0 rfl (Nat.le_of_ble_eq_true rfl)
  have N3 := Fr.snoc X3 N0 g_b1
  refine go st3 ?_
  show Go p e below _ (T3.setTop (mkF m 11 #[.val (.int p1), .unset, .unset, .unset, .unset] [(.ref b1)]))
  refine go (fun _ k => XS.dup X3.here hx rfl (hb hby at_11) rfl rfl k) ?_
  show Go p e below _ (T3.setTop (mkF m 12 #[.val (.int p1), .unset, .unset, .unset, .unset] [(.ref b1), (.ref b1)]))
  refine go (fun _ k => XS.iconst X3.here hx rfl (hb hby at_12) k) ?_
  show Go p e below _ (T3.setTop (mkF m 13 #[.val (.int p1), .unset, .unset, .unset, .unset] [(.int (1 : Int32)), (.ref b1), (.ref b1)]))
  obtain ⟨T4, X4, e4, st4⟩ := getS2 X3 hx hZ hown (host := "") (Or.inl (hw _ (List.mem_of_getElem? (i := 6) rfl))) Via.refl e3 (S_INIT.ext ((O0.ext E1).wr W3 g_b1).2) (g := (mkF m 13 #[.val (.int p1), .unset, .unset, .unset, .unset] [(.int (1 : Int32)), (.ref b1), (.ref b1)])) rfl (hb hby at_13)
  refine go st4 ?_
  show Go p e below _ (T4.setTop (mkF m 16 #[.val (.int p1), .unset, .unset, .unset, .unset] [(.ref w1), (.int (1 : Int32)), (.ref b1), (.ref b1)]))
  obtain ⟨cl5, Ar5, q5, S5, M5, H5, G5⟩ := V_b1_3
  have hin5 : ¬ ((1 : Int32) < 0 ∨ cl5.slots.size ≤ ((1 : Int32)).toNatClampNeg) := inb_of S5 ⟨by decide, by decide⟩
  obtain ⟨T5, h5, X5, e5, W5, st5⟩ := stR X4 hx hZ e4 Ar5 (j := (1 : Int32)) hin5 rfl (Sto.ofV Ar5 q5 O1 (Ins.self ((E_w1.ext E1).wr W3))) (g := (mkF m 16 #[.val (.int p1), .unset, .unset, .unset, .unset] [(.ref w1), (.int (1 : Int32)), (.ref b1), (.ref b1)])) rfl rfl (hb hby at_16)
  have V_b1_5 : Arv Z h5 b1 k1 (.object "manyworlds/service/Keyword") (11 : Int32) ([(.ref w0), (.ref w1), .null, .null, .null, .null, .null, .null, .null, .null, .null]) .null := Arv.set Ar5 q5 S5 M5 H5 G5 rfl W5 1 rfl (Nat.le_of_ble_eq_true rfl)
  have N5 := Fr.snoc X5 N3 g_b1
  refine go st5 ?_
  show Go p e below _ (T5.setTop (mkF m 17 #[.val (.int p1), .unset, .unset, .unset, .unset] [(.ref b1)]))
  refine go (fun _ k => XS.dup X5.here hx rfl (hb hby at_17) rfl rfl k) ?_
  show Go p e below _ (T5.setTop (mkF m 18 #[.val (.int p1), .unset, .unset, .unset, .unset] [(.ref b1), (.ref b1)]))
  refine go (fun _ k => XS.iconst X5.here hx rfl (hb hby at_18) k) ?_
  show Go p e below _ (T5.setTop (mkF m 19 #[.val (.int p1), .unset, .unset, .unset, .unset] [(.int (2 : Int32)), (.ref b1), (.ref b1)]))
  obtain ⟨T6, X6, e6, st6⟩ := getS2 X5 hx hZ hown (host := "") (Or.inl (hw _ (List.mem_of_getElem? (i := 8) rfl))) Via.refl e5 (S_TRUE.ext (((O0.ext E1).wr W3 g_b1).wr W5 g_b1).2) (g := (mkF m 19 #[.val (.int p1), .unset, .unset, .unset, .unset] [(.int (2 : Int32)), (.ref b1), (.ref b1)])) rfl (hb hby at_19)
  refine go st6 ?_
  show Go p e below _ (T6.setTop (mkF m 22 #[.val (.int p1), .unset, .unset, .unset, .unset] [(.ref w2), (.int (2 : Int32)), (.ref b1), (.ref b1)]))
  obtain ⟨cl7, Ar7, q7, S7, M7, H7, G7⟩ := V_b1_5
  have hin7 : ¬ ((2 : Int32) < 0 ∨ cl7.slots.size ≤ ((2 : Int32)).toNatClampNeg) := inb_of S7 ⟨by decide, by decide⟩
  obtain ⟨T7, h7, X7, e7, W7, st7⟩ := stR X6 hx hZ e6 Ar7 (j := (2 : Int32)) hin7 rfl (Sto.ofV Ar7 q7 O1 (Ins.self (((E_w2.ext E1).wr W3).wr W5))) (g := (mkF m 22 #[.val (.int p1), .unset, .unset, .unset, .unset] [(.ref w2), (.int (2 : Int32)), (.ref b1), (.ref b1)])) rfl rfl (hb hby at_22)
  have V_b1_7 : Arv Z h7 b1 k1 (.object "manyworlds/service/Keyword") (11 : Int32) ([(.ref w0), (.ref w1), (.ref w2), .null, .null, .null, .null, .null, .null, .null, .null]) .null := Arv.set Ar7 q7 S7 M7 H7 G7 rfl W7 2 rfl (Nat.le_of_ble_eq_true rfl)
  have N7 := Fr.snoc X7 N5 g_b1
  refine go st7 ?_
  show Go p e below _ (T7.setTop (mkF m 23 #[.val (.int p1), .unset, .unset, .unset, .unset] [(.ref b1)]))
  refine go (fun _ k => XS.dup X7.here hx rfl (hb hby at_23) rfl rfl k) ?_
  show Go p e below _ (T7.setTop (mkF m 24 #[.val (.int p1), .unset, .unset, .unset, .unset] [(.ref b1), (.ref b1)]))
  refine go (fun _ k => XS.iconst X7.here hx rfl (hb hby at_24) k) ?_
  show Go p e below _ (T7.setTop (mkF m 25 #[.val (.int p1), .unset, .unset, .unset, .unset] [(.int (3 : Int32)), (.ref b1), (.ref b1)]))
  obtain ⟨T8, X8, e8, st8⟩ := getS2 X7 hx hZ hown (host := "") (Or.inl (hw _ (List.mem_of_getElem? (i := 10) rfl))) Via.refl e7 (S_DOES.ext ((((O0.ext E1).wr W3 g_b1).wr W5 g_b1).wr W7 g_b1).2) (g := (mkF m 25 #[.val (.int p1), .unset, .unset, .unset, .unset] [(.int (3 : Int32)), (.ref b1), (.ref b1)])) rfl (hb hby at_25)
  refine go st8 ?_
  show Go p e below _ (T8.setTop (mkF m 28 #[.val (.int p1), .unset, .unset, .unset, .unset] [(.ref w3), (.int (3 : Int32)), (.ref b1), (.ref b1)]))
  obtain ⟨cl9, Ar9, q9, S9, M9, H9, G9⟩ := V_b1_7
  have hin9 : ¬ ((3 : Int32) < 0 ∨ cl9.slots.size ≤ ((3 : Int32)).toNatClampNeg) := inb_of S9 ⟨by decide, by decide⟩
  obtain ⟨T9, h9, X9, e9, W9, st9⟩ := stR X8 hx hZ e8 Ar9 (j := (3 : Int32)) hin9 rfl (Sto.ofV Ar9 q9 O1 (Ins.self ((((E_w3.ext E1).wr W3).wr W5).wr W7))) (g := (mkF m 28 #[.val (.int p1), .unset, .unset, .unset, .unset] [(.ref w3), (.int (3 : Int32)), (.ref b1), (.ref b1)])) rfl rfl (hb hby at_28)
  have V_b1_9 : Arv Z h9 b1 k1 (.object "manyworlds/service/Keyword") (11 : Int32) ([(.ref w0), (.ref w1), (.ref w2), (.ref w3), .null, .null, .null, .null, .null, .null, .null]) .null := Arv.set Ar9 q9 S9 M9 H9 G9 rfl W9 3 rfl (Nat.le_of_ble_eq_true rfl)
  have N9 := Fr.snoc X9 N7 g_b1
  refine go st9 ?_
  show Go p e below _ (T9.setTop (mkF m 29 #[.val (.int p1), .unset, .unset, .unset, .unset] [(.ref b1)]))
  refine go (fun _ k => XS.dup X9.here hx rfl (hb hby at_29) rfl rfl k) ?_
  show Go p e below _ (T9.setTop (mkF m 30 #[.val (.int p1), .unset, .unset, .unset, .unset] [(.ref b1), (.ref b1)]))
  refine go (fun _ k => XS.iconst X9.here hx rfl (hb hby at_30) k) ?_
  show Go p e below _ (T9.setTop (mkF m 31 #[.val (.int p1), .unset, .unset, .unset, .unset] [(.int (4 : Int32)), (.ref b1), (.ref b1)]))
  have f10 := (((((O0.ext E1).wr W3 g_b1).wr W5 g_b1).wr W7 g_b1).wr W9 g_b1)
  obtain ⟨T11, X11, e11, st11⟩ := getS2 X9 hx hZ hown (host := "") (Or.inl (hw _ (List.mem_of_getElem? (i := 12) rfl))) Via.refl e9 (S_NEXT.ext f10.2) (g := (mkF m 31 #[.val (.int p1), .unset, .unset, .unset, .unset] [(.int (4 : Int32)), (.ref b1), (.ref b1)])) rfl (hb hby at_31)
  refine go st11 ?_
  show Go p e below _ (T11.setTop (mkF m 34 #[.val (.int p1), .unset, .unset, .unset, .unset] [(.ref w4), (.int (4 : Int32)), (.ref b1), (.ref b1)]))
  obtain ⟨cl12, Ar12, q12, S12, M12, H12, G12⟩ := V_b1_9
  have hin12 : ¬ ((4 : Int32) < 0 ∨ cl12.slots.size ≤ ((4 : Int32)).toNatClampNeg) := inb_of S12 ⟨by decide, by decide⟩
  obtain ⟨T12, h12, X12, e12, W12, st12⟩ := stR X11 hx hZ e11 Ar12 (j := (4 : Int32)) hin12 rfl (Sto.ofV Ar12 q12 O1 (Ins.self (((((E_w4.ext E1).wr W3).wr W5).wr W7).wr W9))) (g := (mkF m 34 #[.val (.int p1), .unset, .unset, .unset, .unset] [(.ref w4), (.int (4 : Int32)), (.ref b1), (.ref b1)])) rfl rfl (hb hby at_34)
  have V_b1_12 : Arv Z h12 b1 k1 (.object "manyworlds/service/Keyword") (11 : Int32) ([(.ref w0), (.ref w1), (.ref w2), (.ref w3), (.ref w4), .null, .null, .null, .null, .null, .null]) .null := Arv.set Ar12 q12 S12 M12 H12 G12 rfl W12 4 rfl (Nat.le_of_ble_eq_true rfl)
  have N12 := Fr.snoc X12 N9 g_b1
  refine go st12 ?_
  show Go p e below _ (T12.setTop (mkF m 35 #[.val (.int p1), .unset, .unset, .unset, .unset] [(.ref b1)]))
  refine go (fun _ k => XS.dup X12.here hx rfl (hb hby at_35) rfl rfl k) ?_
  show Go p e below _ (T12.setTop (mkF m 36 #[.val (.int p1), .unset, .unset, .unset, .unset] [(.ref b1), (.ref b1)]))
  refine go (fun _ k => XS.iconst X12.here hx rfl (hb hby at_36) k) ?_
  show Go p e below _ (T12.setTop (mkF m 37 #[.val (.int p1), .unset, .unset, .unset, .unset] [(.int (5 : Int32)), (.ref b1), (.ref b1)]))
  obtain ⟨T13, X13, e13, st13⟩ := getS2 X12 hx hZ hown (host := "") (Or.inl (hw _ (List.mem_of_getElem? (i := 14) rfl))) Via.refl e12 (S_LEGAL.ext (f10.wr W12 g_b1).2) (g := (mkF m 37 #[.val (.int p1), .unset, .unset, .unset, .unset] [(.int (5 : Int32)), (.ref b1), (.ref b1)])) rfl (hb hby at_37)
  refine go st13 ?_
  show Go p e below _ (T13.setTop (mkF m 40 #[.val (.int p1), .unset, .unset, .unset, .unset] [(.ref w5), (.int (5 : Int32)), (.ref b1), (.ref b1)]))
  obtain ⟨cl14, Ar14, q14, S14, M14, H14, G14⟩ := V_b1_12
  have hin14 : ¬ ((5 : Int32) < 0 ∨ cl14.slots.size ≤ ((5 : Int32)).toNatClampNeg) := inb_of S14 ⟨by decide, by decide⟩
  obtain ⟨T14, h14, X14, e14, W14, st14⟩ := stR X13 hx hZ e13 Ar14 (j := (5 : Int32)) hin14 rfl (Sto.ofV Ar14 q14 O1 (Ins.self ((((((E_w5.ext E1).wr W3).wr W5).wr W7).wr W9).wr W12))) (g := (mkF m 40 #[.val (.int p1), .unset, .unset, .unset, .unset] [(.ref w5), (.int (5 : Int32)), (.ref b1), (.ref b1)])) rfl rfl (hb hby at_40)
  have V_b1_14 : Arv Z h14 b1 k1 (.object "manyworlds/service/Keyword") (11 : Int32) ([(.ref w0), (.ref w1), (.ref w2), (.ref w3), (.ref w4), (.ref w5), .null, .null, .null, .null, .null]) .null := Arv.set Ar14 q14 S14 M14 H14 G14 rfl W14 5 rfl (Nat.le_of_ble_eq_true rfl)
  have N14 := Fr.snoc X14 N12 g_b1
  refine go st14 ?_
  show Go p e below _ (T14.setTop (mkF m 41 #[.val (.int p1), .unset, .unset, .unset, .unset] [(.ref b1)]))
  refine go (fun _ k => XS.dup X14.here hx rfl (hb hby at_41) rfl rfl k) ?_
  show Go p e below _ (T14.setTop (mkF m 42 #[.val (.int p1), .unset, .unset, .unset, .unset] [(.ref b1), (.ref b1)]))
  refine go (fun _ k => XS.bipush X14.here hx rfl (hb hby at_42) k) ?_
  show Go p e below _ (T14.setTop (mkF m 44 #[.val (.int p1), .unset, .unset, .unset, .unset] [(.int (6 : Int32)), (.ref b1), (.ref b1)]))
  obtain ⟨T15, X15, e15, st15⟩ := getS2 X14 hx hZ hown (host := "") (Or.inl (hw _ (List.mem_of_getElem? (i := 16) rfl))) Via.refl e14 (S_GOAL.ext ((f10.wr W12 g_b1).wr W14 g_b1).2) (g := (mkF m 44 #[.val (.int p1), .unset, .unset, .unset, .unset] [(.int (6 : Int32)), (.ref b1), (.ref b1)])) rfl (hb hby at_44)
  refine go st15 ?_
  show Go p e below _ (T15.setTop (mkF m 47 #[.val (.int p1), .unset, .unset, .unset, .unset] [(.ref w6), (.int (6 : Int32)), (.ref b1), (.ref b1)]))
  have f17 := (((((((E_w6.ext E1).wr W3).wr W5).wr W7).wr W9).wr W12).wr W14)
  obtain ⟨cl16, Ar16, q16, S16, M16, H16, G16⟩ := V_b1_14
  have hin16 : ¬ ((6 : Int32) < 0 ∨ cl16.slots.size ≤ ((6 : Int32)).toNatClampNeg) := inb_of S16 ⟨by decide, by decide⟩
  obtain ⟨T16, h16, X16, e16, W16, st16⟩ := stR X15 hx hZ e15 Ar16 (j := (6 : Int32)) hin16 rfl (Sto.ofV Ar16 q16 O1 (Ins.self f17)) (g := (mkF m 47 #[.val (.int p1), .unset, .unset, .unset, .unset] [(.ref w6), (.int (6 : Int32)), (.ref b1), (.ref b1)])) rfl rfl (hb hby at_47)
  have V_b1_16 : Arv Z h16 b1 k1 (.object "manyworlds/service/Keyword") (11 : Int32) ([(.ref w0), (.ref w1), (.ref w2), (.ref w3), (.ref w4), (.ref w5), (.ref w6), .null, .null, .null, .null]) .null := Arv.set Ar16 q16 S16 M16 H16 G16 rfl W16 6 rfl (Nat.le_of_ble_eq_true rfl)
  have N16 := Fr.snoc X16 N14 g_b1
  refine go st16 ?_
  show Go p e below _ (T16.setTop (mkF m 48 #[.val (.int p1), .unset, .unset, .unset, .unset] [(.ref b1)]))
  refine go (fun _ k => XS.dup X16.here hx rfl (hb hby at_48) rfl rfl k) ?_
  show Go p e below _ (T16.setTop (mkF m 49 #[.val (.int p1), .unset, .unset, .unset, .unset] [(.ref b1), (.ref b1)]))
  refine go (fun _ k => XS.bipush X16.here hx rfl (hb hby at_49) k) ?_
  show Go p e below _ (T16.setTop (mkF m 51 #[.val (.int p1), .unset, .unset, .unset, .unset] [(.int (7 : Int32)), (.ref b1), (.ref b1)]))
  obtain ⟨T18, X18, e18, st18⟩ := getS2 X16 hx hZ hown (host := "") (Or.inl (hw _ (List.mem_of_getElem? (i := 18) rfl))) Via.refl e16 (S_TERMINAL.ext (((f10.wr W12 g_b1).wr W14 g_b1).wr W16 g_b1).2) (g := (mkF m 51 #[.val (.int p1), .unset, .unset, .unset, .unset] [(.int (7 : Int32)), (.ref b1), (.ref b1)])) rfl (hb hby at_51)
  refine go st18 ?_
  show Go p e below _ (T18.setTop (mkF m 54 #[.val (.int p1), .unset, .unset, .unset, .unset] [(.ref w7), (.int (7 : Int32)), (.ref b1), (.ref b1)]))
  have f20 := ((((((((E_w7.ext E1).wr W3).wr W5).wr W7).wr W9).wr W12).wr W14).wr W16)
  obtain ⟨cl19, Ar19, q19, S19, M19, H19, G19⟩ := V_b1_16
  have hin19 : ¬ ((7 : Int32) < 0 ∨ cl19.slots.size ≤ ((7 : Int32)).toNatClampNeg) := inb_of S19 ⟨by decide, by decide⟩
  obtain ⟨T19, h19, X19, e19, W19, st19⟩ := stR X18 hx hZ e18 Ar19 (j := (7 : Int32)) hin19 rfl (Sto.ofV Ar19 q19 O1 (Ins.self f20)) (g := (mkF m 54 #[.val (.int p1), .unset, .unset, .unset, .unset] [(.ref w7), (.int (7 : Int32)), (.ref b1), (.ref b1)])) rfl rfl (hb hby at_54)
  have V_b1_19 : Arv Z h19 b1 k1 (.object "manyworlds/service/Keyword") (11 : Int32) ([(.ref w0), (.ref w1), (.ref w2), (.ref w3), (.ref w4), (.ref w5), (.ref w6), (.ref w7), .null, .null, .null]) .null := Arv.set Ar19 q19 S19 M19 H19 G19 rfl W19 7 rfl (Nat.le_of_ble_eq_true rfl)
  have N19 := Fr.snoc X19 N16 g_b1
  refine go st19 ?_
  show Go p e below _ (T19.setTop (mkF m 55 #[.val (.int p1), .unset, .unset, .unset, .unset] [(.ref b1)]))
  refine go (fun _ k => XS.dup X19.here hx rfl (hb hby at_55) rfl rfl k) ?_
  show Go p e below _ (T19.setTop (mkF m 56 #[.val (.int p1), .unset, .unset, .unset, .unset] [(.ref b1), (.ref b1)]))
  refine go (fun _ k => XS.bipush X19.here hx rfl (hb hby at_56) k) ?_
  show Go p e below _ (T19.setTop (mkF m 58 #[.val (.int p1), .unset, .unset, .unset, .unset] [(.int (8 : Int32)), (.ref b1), (.ref b1)]))
  obtain ⟨T21, X21, e21, st21⟩ := getS2 X19 hx hZ hown (host := "") (Or.inl (hw _ (List.mem_of_getElem? (i := 20) rfl))) Via.refl e19 (S_SEES.ext ((((f10.wr W12 g_b1).wr W14 g_b1).wr W16 g_b1).wr W19 g_b1).2) (g := (mkF m 58 #[.val (.int p1), .unset, .unset, .unset, .unset] [(.int (8 : Int32)), (.ref b1), (.ref b1)])) rfl (hb hby at_58)
  refine go st21 ?_
  show Go p e below _ (T21.setTop (mkF m 61 #[.val (.int p1), .unset, .unset, .unset, .unset] [(.ref w8), (.int (8 : Int32)), (.ref b1), (.ref b1)]))
  have f23 := (((((((((E_w8.ext E1).wr W3).wr W5).wr W7).wr W9).wr W12).wr W14).wr W16).wr W19)
  obtain ⟨cl22, Ar22, q22, S22, M22, H22, G22⟩ := V_b1_19
  have hin22 : ¬ ((8 : Int32) < 0 ∨ cl22.slots.size ≤ ((8 : Int32)).toNatClampNeg) := inb_of S22 ⟨by decide, by decide⟩
  obtain ⟨T22, h22, X22, e22, W22, st22⟩ := stR X21 hx hZ e21 Ar22 (j := (8 : Int32)) hin22 rfl (Sto.ofV Ar22 q22 O1 (Ins.self f23)) (g := (mkF m 61 #[.val (.int p1), .unset, .unset, .unset, .unset] [(.ref w8), (.int (8 : Int32)), (.ref b1), (.ref b1)])) rfl rfl (hb hby at_61)
  have V_b1_22 : Arv Z h22 b1 k1 (.object "manyworlds/service/Keyword") (11 : Int32) ([(.ref w0), (.ref w1), (.ref w2), (.ref w3), (.ref w4), (.ref w5), (.ref w6), (.ref w7), (.ref w8), .null, .null]) .null := Arv.set Ar22 q22 S22 M22 H22 G22 rfl W22 8 rfl (Nat.le_of_ble_eq_true rfl)
  have N22 := Fr.snoc X22 N19 g_b1
  refine go st22 ?_
  show Go p e below _ (T22.setTop (mkF m 62 #[.val (.int p1), .unset, .unset, .unset, .unset] [(.ref b1)]))
  refine go (fun _ k => XS.dup X22.here hx rfl (hb hby at_62) rfl rfl k) ?_
  show Go p e below _ (T22.setTop (mkF m 63 #[.val (.int p1), .unset, .unset, .unset, .unset] [(.ref b1), (.ref b1)]))
  refine go (fun _ k => XS.bipush X22.here hx rfl (hb hby at_63) k) ?_
  show Go p e below _ (T22.setTop (mkF m 65 #[.val (.int p1), .unset, .unset, .unset, .unset] [(.int (9 : Int32)), (.ref b1), (.ref b1)]))
  have f24 := (((((f10.wr W12 g_b1).wr W14 g_b1).wr W16 g_b1).wr W19 g_b1).wr W22 g_b1)
  obtain ⟨T25, X25, e25, st25⟩ := getS2 X22 hx hZ hown (host := "") (Or.inl (hw _ (List.mem_of_getElem? (i := 22) rfl))) Via.refl e22 (S_BASE.ext f24.2) (g := (mkF m 65 #[.val (.int p1), .unset, .unset, .unset, .unset] [(.int (9 : Int32)), (.ref b1), (.ref b1)])) rfl (hb hby at_65)
  refine go st25 ?_
  show Go p e below _ (T25.setTop (mkF m 68 #[.val (.int p1), .unset, .unset, .unset, .unset] [(.ref w9), (.int (9 : Int32)), (.ref b1), (.ref b1)]))
  have f27 := ((((((((((E_w9.ext E1).wr W3).wr W5).wr W7).wr W9).wr W12).wr W14).wr W16).wr W19).wr W22)
  obtain ⟨cl26, Ar26, q26, S26, M26, H26, G26⟩ := V_b1_22
  have hin26 : ¬ ((9 : Int32) < 0 ∨ cl26.slots.size ≤ ((9 : Int32)).toNatClampNeg) := inb_of S26 ⟨by decide, by decide⟩
  obtain ⟨T26, h26, X26, e26, W26, st26⟩ := stR X25 hx hZ e25 Ar26 (j := (9 : Int32)) hin26 rfl (Sto.ofV Ar26 q26 O1 (Ins.self f27)) (g := (mkF m 68 #[.val (.int p1), .unset, .unset, .unset, .unset] [(.ref w9), (.int (9 : Int32)), (.ref b1), (.ref b1)])) rfl rfl (hb hby at_68)
  have V_b1_26 : Arv Z h26 b1 k1 (.object "manyworlds/service/Keyword") (11 : Int32) ([(.ref w0), (.ref w1), (.ref w2), (.ref w3), (.ref w4), (.ref w5), (.ref w6), (.ref w7), (.ref w8), (.ref w9), .null]) .null := Arv.set Ar26 q26 S26 M26 H26 G26 rfl W26 9 rfl (Nat.le_of_ble_eq_true rfl)
  have N26 := Fr.snoc X26 N22 g_b1
  refine go st26 ?_
  show Go p e below _ (T26.setTop (mkF m 69 #[.val (.int p1), .unset, .unset, .unset, .unset] [(.ref b1)]))
  refine go (fun _ k => XS.dup X26.here hx rfl (hb hby at_69) rfl rfl k) ?_
  show Go p e below _ (T26.setTop (mkF m 70 #[.val (.int p1), .unset, .unset, .unset, .unset] [(.ref b1), (.ref b1)]))
  refine go (fun _ k => XS.bipush X26.here hx rfl (hb hby at_70) k) ?_
  show Go p e below _ (T26.setTop (mkF m 72 #[.val (.int p1), .unset, .unset, .unset, .unset] [(.int (10 : Int32)), (.ref b1), (.ref b1)]))
  obtain ⟨T28, X28, e28, st28⟩ := getS2 X26 hx hZ hown (host := "") (Or.inl (hw _ (List.mem_of_getElem? (i := 24) rfl))) Via.refl e26 (S_INPUT.ext (f24.wr W26 g_b1).2) (g := (mkF m 72 #[.val (.int p1), .unset, .unset, .unset, .unset] [(.int (10 : Int32)), (.ref b1), (.ref b1)])) rfl (hb hby at_72)
  refine go st28 ?_
  show Go p e below _ (T28.setTop (mkF m 75 #[.val (.int p1), .unset, .unset, .unset, .unset] [(.ref w10), (.int (10 : Int32)), (.ref b1), (.ref b1)]))
  have f30 := (((((((((((E_w10.ext E1).wr W3).wr W5).wr W7).wr W9).wr W12).wr W14).wr W16).wr W19).wr W22).wr W26)
  obtain ⟨cl29, Ar29, q29, S29, M29, H29, G29⟩ := V_b1_26
  have hin29 : ¬ ((10 : Int32) < 0 ∨ cl29.slots.size ≤ ((10 : Int32)).toNatClampNeg) := inb_of S29 ⟨by decide, by decide⟩
  obtain ⟨T29, h29, X29, e29, W29, st29⟩ := stR X28 hx hZ e28 Ar29 (j := (10 : Int32)) hin29 rfl (Sto.ofV Ar29 q29 O1 (Ins.self f30)) (g := (mkF m 75 #[.val (.int p1), .unset, .unset, .unset, .unset] [(.ref w10), (.int (10 : Int32)), (.ref b1), (.ref b1)])) rfl rfl (hb hby at_75)
  have V_b1_29 : Arv Z h29 b1 k1 (.object "manyworlds/service/Keyword") (11 : Int32) ([(.ref w0), (.ref w1), (.ref w2), (.ref w3), (.ref w4), (.ref w5), (.ref w6), (.ref w7), (.ref w8), (.ref w9), (.ref w10)]) .null := Arv.set Ar29 q29 S29 M29 H29 G29 rfl W29 10 rfl (Nat.le_of_ble_eq_true rfl)
  have N29 := Fr.snoc X29 N26 g_b1
  refine go st29 ?_
  show Go p e below _ (T29.setTop (mkF m 76 #[.val (.int p1), .unset, .unset, .unset, .unset] [(.ref b1)]))
  refine go (fun _ k => XS.astoreN X29.here hx rfl (hb hby at_76) rfl rfl (l' := #[.val (.int p1), .val (.ref b1), .unset, .unset, .unset]) rfl k) ?_
  show Go p e below _ (T29.setTop (mkF m 77 #[.val (.int p1), .val (.ref b1), .unset, .unset, .unset] []))
  refine go (fun _ k => XS.iloadN X29.here hx rfl (hb hby at_77) rfl  k) ?_
  show Go p e below _ (T29.setTop (mkF m 78 #[.val (.int p1), .val (.ref b1), .unset, .unset, .unset] [(.int p1)]))
  refine go (X29.ldcInt hx hown (mvT hZ (hw _ (List.mem_of_getElem? (i := 26) rfl))) (g := (mkF m 78 #[.val (.int p1), .val (.ref b1), .unset, .unset, .unset] [(.int p1)])) rfl (hb hby at_78)) ?_
  show Go p e below _ (T29.setTop (mkF m 80 #[.val (.int p1), .val (.ref b1), .unset, .unset, .unset] [(.int (2147483647 : Int32)), (.int p1)]))
  refine go (fun _ k => XS.iand X29.here hx rfl (hb hby at_80) rfl k) ?_
  show Go p e below _ (T29.setTop (mkF m 81 #[.val (.int p1), .val (.ref b1), .unset, .unset, .unset] [(.int (p1 &&& (2147483647 : Int32)))]))
  refine go (fun _ k => XS.bipush X29.here hx rfl (hb hby at_81) k) ?_
  show Go p e below _ (T29.setTop (mkF m 83 #[.val (.int p1), .val (.ref b1), .unset, .unset, .unset] [(.int (11 : Int32)), (.int (p1 &&& (2147483647 : Int32)))]))
  have hnz31 : ¬ ((11 : Int32) = (0 : Int32)) := by decide
  refine go (fun _ k => iremM X29 hx rfl (hb hby at_83) rfl hnz31 k) ?_
  show Go p e below _ (T29.setTop (mkF m 84 #[.val (.int p1), .val (.ref b1), .unset, .unset, .unset] [(.int ((p1 &&& (2147483647 : Int32)) % (11 : Int32)))]))
  rcases own_k p1 with hk | hk | hk | hk | hk | hk | hk | hk | hk | hk | hk
  · skip
    rw [hk]
    show Go p e below _ (T29.setTop (mkF m 84 #[.val (.int p1), .val (.ref b1), .unset, .unset, .unset] [(.int (0 : Int32))]))
    refine go (fun _ k => XS.istoreN X29.here hx rfl (hb hby at_84) rfl (l' := #[.val (.int p1), .val (.ref b1), .val (.int (0 : Int32)), .unset, .unset]) rfl k) ?_
    show Go p e below _ (T29.setTop (mkF m 85 #[.val (.int p1), .val (.ref b1), .val (.int (0 : Int32)), .unset, .unset] []))
    refine go (fun _ k => XS.aloadN X29.here hx rfl (hb hby at_85) rfl rfl  k) ?_
    show Go p e below _ (T29.setTop (mkF m 86 #[.val (.int p1), .val (.ref b1), .val (.int (0 : Int32)), .unset, .unset] [(.ref b1)]))
    refine go (fun _ k => XS.iloadN X29.here hx rfl (hb hby at_86) rfl  k) ?_
    show Go p e below _ (T29.setTop (mkF m 87 #[.val (.int p1), .val (.ref b1), .val (.int (0 : Int32)), .unset, .unset] [(.int (0 : Int32)), (.ref b1)]))
    obtain ⟨cl32, Ar32, q32, S32, M32, H32, G32⟩ := V_b1_29
    have hin32 : ¬ ((0 : Int32) < 0 ∨ cl32.slots.size ≤ ((0 : Int32)).toNatClampNeg) := inb_of S32 ⟨by decide, by decide⟩
    have hat32 : cl32.slots[((0 : Int32)).toNatClampNeg]? = some (.ref w0) := Has.at H32 hin32 rfl
    refine go (X29.aaload hx (j := (0 : Int32)) (v := (.ref w0)) (by rw [e29]; exact Ar32.1) (State.isArrayOf_alike hZ.alike Ar32.2.1) rfl Ar32.2.2 hin32 hat32 (g := (mkF m 87 #[.val (.int p1), .val (.ref b1), .val (.int (0 : Int32)), .unset, .unset] [(.int (0 : Int32)), (.ref b1)])) rfl rfl (hb hby at_87)) ?_
    show Go p e below _ (T29.setTop (mkF m 88 #[.val (.int p1), .val (.ref b1), .val (.int (0 : Int32)), .unset, .unset] [(.ref w0)]))
    refine go (fun _ k => XS.astoreN X29.here hx rfl (hb hby at_88) rfl rfl (l' := #[.val (.int p1), .val (.ref b1), .val (.int (0 : Int32)), .val (.ref w0), .unset]) rfl k) ?_
    show Go p e below _ (T29.setTop (mkF m 89 #[.val (.int p1), .val (.ref b1), .val (.int (0 : Int32)), .val (.ref w0), .unset] []))
    refine go (fun _ k => XS.iloadN X29.here hx rfl (hb hby at_89) rfl  k) ?_
    show Go p e below _ (T29.setTop (mkF m 90 #[.val (.int p1), .val (.ref b1), .val (.int (0 : Int32)), .val (.ref w0), .unset] [(.int (0 : Int32))]))
    have K34 : Keep h0 h29 [] := (((((((((((((Keep.refl h0 []).ext E1).wr W3 (Or.inr sz_b1)).wr W5 (Or.inr sz_b1)).wr W7 (Or.inr sz_b1)).wr W9 (Or.inr sz_b1)).wr W12 (Or.inr sz_b1)).wr W14 (Or.inr sz_b1)).wr W16 (Or.inr sz_b1)).wr W19 (Or.inr sz_b1)).wr W22 (Or.inr sz_b1)).wr W26 (Or.inr sz_b1)).wr W29 (Or.inr sz_b1))
    obtain ⟨_, _, ⟨T33, L33, k33, n33⟩, -, X33, ⟨Lc33, hQ33, l33, y33, z33⟩, st33⟩ := Jvm.LawKit.callS X29 hx (y := (⟨"manyworlds/service/KeywordIsInputPinLaw", "expectedInput", "(I)Z"⟩ : MethodName)) hown (mvT hZ (hw _ (List.mem_of_getElem? (i := 27) rfl))) (mvT hZ (hw _ (List.mem_of_getElem? (i := 28) rfl))) (mvT hZ (hw _ (List.mem_of_getElem? (i := 29) rfl))) (mvT hZ (hw _ (List.mem_of_getElem? (i := 30) rfl))) (by decide) (backOf (W := 0) (rm1 l Z a0 hw [] (0 : Int32) h29 n0 (Nat.le_trans Z0 K34.1) ) hZ (hw _ (List.mem_of_getElem? (i := 30) rfl)) (hw _ (List.mem_of_getElem? (i := 29) rfl)) (by decide) (by decide)) (g := (mkF m 90 #[.val (.int p1), .val (.ref b1), .val (.int (0 : Int32)), .val (.ref w0), .unset] [(.int (0 : Int32))])) rfl (by rw [hml]; rfl) (argsL := [(.int (0 : Int32))]) (rest := []) (lenOf pd_0 rfl) rfl (by show 2 * 0 + _ ≤ _; exact Nat.le_of_eq rfl) (hb hby at_90) (fun _ _ => ⟨rfl, e29, (by decide : 1 + 0 ≤ _), (by decide : 11 + 0 ≤ _)⟩)
    dsimp only [Pt.U, Pt.locs, Pt.cells, Pt.slots] at X33 l33 y33 z33 st33 hQ33
    subst l33 y33 z33
    obtain ⟨rfl, N33q, e33⟩ := hQ33
    have N33 := Fr.app N29 N33q
    skip
    refine go st33 ?_
    show Go p e below _ (T33.setTop (mkF m 93 #[.val (.int p1), .val (.ref b1), .val (.int (0 : Int32)), .val (.ref w0), .unset] [(.int (bz ((0 : Int32) = (2 : Int32) ∨ (0 : Int32) = (3 : Int32))))]))
    refine go (fun _ k => XS.istore X33.here hx rfl (hb hby at_93) rfl (l' := #[.val (.int p1), .val (.ref b1), .val (.int (0 : Int32)), .val (.ref w0), .val (.int (bz ((0 : Int32) = (2 : Int32) ∨ (0 : Int32) = (3 : Int32))))]) rfl k) ?_
    show Go p e below _ (T33.setTop (mkF m 95 #[.val (.int p1), .val (.ref b1), .val (.int (0 : Int32)), .val (.ref w0), .val (.int (bz ((0 : Int32) = (2 : Int32) ∨ (0 : Int32) = (3 : Int32))))] []))
    refine go (fun _ k => XS.aloadN X33.here hx rfl (hb hby at_95) rfl rfl  k) ?_
    show Go p e below _ (T33.setTop (mkF m 96 #[.val (.int p1), .val (.ref b1), .val (.int (0 : Int32)), .val (.ref w0), .val (.int (bz ((0 : Int32) = (2 : Int32) ∨ (0 : Int32) = (3 : Int32))))] [(.ref w0)]))
    have f36 := ((((((((((((E_w0.ext E1).wr W3).wr W5).wr W7).wr W9).wr W12).wr W14).wr W16).wr W19).wr W22).wr W26).wr W29)
    obtain ⟨cq35, kq35, q35a, q35b, q35c⟩ := isOf hZ e33 f36
    obtain ⟨_, _, ⟨T35, L35, k35, n35⟩, -, X35, ⟨Lc35, hQ35, l35, y35, z35⟩, st35⟩ := X33.virtualBack hx (y := (⟨"manyworlds/service/Keyword", "isInput", "()Z"⟩ : MethodName)) (z := (⟨"manyworlds/service/Keyword", "isInput", "()Z"⟩ : MethodName)) hown (mvT hZ (hw _ (List.mem_of_getElem? (i := 31) rfl))) (mvT hZ (hw _ (List.mem_of_getElem? (i := 32) rfl))) (notFace_of_selects (args := #[]) (mvT hZ (hw _ (List.mem_of_getElem? (i := 34) rfl)))) (mvT hZ (hw _ (List.mem_of_getElem? (i := 34) rfl))) (mvT hZ (hw _ (List.mem_of_getElem? (i := 33) rfl))) (by decide) (backOf (W := 0) (rm2 l Z a0 hw [] w0 w2 w3 h29 n0 (Nat.le_trans Z0 K34.1) ((f24.wr W26 g_b1).wr W29 g_b1) S_TRUE S_DOES) hZ (hw _ (List.mem_of_getElem? (i := 35) rfl)) (hw _ (List.mem_of_getElem? (i := 3) rfl)) (by decide) (by decide)) q35a q35c (g := (mkF m 96 #[.val (.int p1), .val (.ref b1), .val (.int (0 : Int32)), .val (.ref w0), .val (.int (bz ((0 : Int32) = (2 : Int32) ∨ (0 : Int32) = (3 : Int32))))] [(.ref w0)])) rfl (by rw [hml]; rfl) (Steps.refl _) (argsL := []) (rest := []) (lenOf pd_1 rfl) rfl (by show 2 * 0 + _ ≤ _; exact Nat.le_of_eq rfl) (hb hby at_96) (fun _ _ => ⟨rfl, e33, (by decide : 1 + 0 ≤ _), (by decide : 11 + 0 ≤ _)⟩)
    dsimp only [Pt.U, Pt.locs, Pt.cells, Pt.slots] at X35 l35 y35 z35 st35 hQ35
    subst l35 y35 z35
    obtain ⟨rfl, N35q, e35⟩ := hQ35
    have N35 := Fr.app N33 N35q
    skip
    refine go (fun _ k => st35.trans k) ?_
    show Go p e below _ (T35.setTop (mkF m 99 #[.val (.int p1), .val (.ref b1), .val (.int (0 : Int32)), .val (.ref w0), .val (.int (bz ((0 : Int32) = (2 : Int32) ∨ (0 : Int32) = (3 : Int32))))] [(.int (bz (own_inp w0 w2 w3)))]))
    refine go (fun _ k => XS.iload X35.here hx rfl (hb hby at_99) rfl  k) ?_
    show Go p e below _ (T35.setTop (mkF m 101 #[.val (.int p1), .val (.ref b1), .val (.int (0 : Int32)), .val (.ref w0), .val (.int (bz ((0 : Int32) = (2 : Int32) ∨ (0 : Int32) = (3 : Int32))))] [(.int (bz ((0 : Int32) = (2 : Int32) ∨ (0 : Int32) = (3 : Int32)))), (.int (bz (own_inp w0 w2 w3)))]))
    have hc101_1 : (bz (own_inp w0 w2 w3)) = (bz ((0 : Int32) = (2 : Int32) ∨ (0 : Int32) = (3 : Int32))) := by rw [bz_f (c := own_inp w0 w2 w3) (fun q => q.elim n0_2 n0_3)]; decide
    refine go (fun _ k => XS.icmpNo X35.here hx rfl (hb hby at_101) rfl (teq hc101_1).2 k) ?_
    show Go p e below _ (T35.setTop (mkF m 104 #[.val (.int p1), .val (.ref b1), .val (.int (0 : Int32)), .val (.ref w0), .val (.int (bz ((0 : Int32) = (2 : Int32) ∨ (0 : Int32) = (3 : Int32))))] []))
    refine go (fun _ k => XS.iconst X35.here hx rfl (hb hby at_104) k) ?_
    show Go p e below _ (T35.setTop (mkF m 105 #[.val (.int p1), .val (.ref b1), .val (.int (0 : Int32)), .val (.ref w0), .val (.int (bz ((0 : Int32) = (2 : Int32) ∨ (0 : Int32) = (3 : Int32))))] [(.int (1 : Int32))]))
    refine go (fun _ k => XS.goto X35.here hx rfl (pc0 := 105) (pc' := 109) rfl (hb hby at_105) (by decide) (by decide) k) ?_
    show Go p e below _ (T35.setTop (mkF m 109 #[.val (.int p1), .val (.ref b1), .val (.int (0 : Int32)), .val (.ref w0), .val (.int (bz ((0 : Int32) = (2 : Int32) ∨ (0 : Int32) = (3 : Int32))))] [(.int (1 : Int32))]))
    obtain ⟨fs, hr, hrun, hended, hW, hsame⟩ := X35.leave (v := some (.int (1 : Int32))) (fun h => by rw [Bd.returns] at h; cases h)
    refine leaf (T := T35) ⟨fs, retN X35 hx (t := .boolean) Bd.returns (by simp) (hb hby at_109) hr, hrun, hended, hW, hsame⟩ ?_ (by decide) (by decide)
    show Q0 Z p1 w0 w1 w2 w3 w4 w5 w6 w7 w8 w9 w10 h0 n0 _ T35.heap _
    rw [e35]
    exact ⟨rfl, N35⟩
  · skip
    rw [hk]
    show Go p e below _ (T29.setTop (mkF m 84 #[.val (.int p1), .val (.ref b1), .unset, .unset, .unset] [(.int (1 : Int32))]))
    refine go (fun _ k => XS.istoreN X29.here hx rfl (hb hby at_84) rfl (l' := #[.val (.int p1), .val (.ref b1), .val (.int (1 : Int32)), .unset, .unset]) rfl k) ?_
    show Go p e below _ (T29.setTop (mkF m 85 #[.val (.int p1), .val (.ref b1), .val (.int (1 : Int32)), .unset, .unset] []))
    refine go (fun _ k => XS.aloadN X29.here hx rfl (hb hby at_85) rfl rfl  k) ?_
    show Go p e below _ (T29.setTop (mkF m 86 #[.val (.int p1), .val (.ref b1), .val (.int (1 : Int32)), .unset, .unset] [(.ref b1)]))
    refine go (fun _ k => XS.iloadN X29.here hx rfl (hb hby at_86) rfl  k) ?_
    show Go p e below _ (T29.setTop (mkF m 87 #[.val (.int p1), .val (.ref b1), .val (.int (1 : Int32)), .unset, .unset] [(.int (1 : Int32)), (.ref b1)]))
    obtain ⟨cl37, Ar37, q37, S37, M37, H37, G37⟩ := V_b1_29
    have hin37 : ¬ ((1 : Int32) < 0 ∨ cl37.slots.size ≤ ((1 : Int32)).toNatClampNeg) := inb_of S37 ⟨by decide, by decide⟩
    have hat37 : cl37.slots[((1 : Int32)).toNatClampNeg]? = some (.ref w1) := Has.at H37 hin37 rfl
    refine go (X29.aaload hx (j := (1 : Int32)) (v := (.ref w1)) (by rw [e29]; exact Ar37.1) (State.isArrayOf_alike hZ.alike Ar37.2.1) rfl Ar37.2.2 hin37 hat37 (g := (mkF m 87 #[.val (.int p1), .val (.ref b1), .val (.int (1 : Int32)), .unset, .unset] [(.int (1 : Int32)), (.ref b1)])) rfl rfl (hb hby at_87)) ?_
    show Go p e below _ (T29.setTop (mkF m 88 #[.val (.int p1), .val (.ref b1), .val (.int (1 : Int32)), .unset, .unset] [(.ref w1)]))
    refine go (fun _ k => XS.astoreN X29.here hx rfl (hb hby at_88) rfl rfl (l' := #[.val (.int p1), .val (.ref b1), .val (.int (1 : Int32)), .val (.ref w1), .unset]) rfl k) ?_
    show Go p e below _ (T29.setTop (mkF m 89 #[.val (.int p1), .val (.ref b1), .val (.int (1 : Int32)), .val (.ref w1), .unset] []))
    refine go (fun _ k => XS.iloadN X29.here hx rfl (hb hby at_89) rfl  k) ?_
    show Go p e below _ (T29.setTop (mkF m 90 #[.val (.int p1), .val (.ref b1), .val (.int (1 : Int32)), .val (.ref w1), .unset] [(.int (1 : Int32))]))
    have K39 : Keep h0 h29 [] := (((((((((((((Keep.refl h0 []).ext E1).wr W3 (Or.inr sz_b1)).wr W5 (Or.inr sz_b1)).wr W7 (Or.inr sz_b1)).wr W9 (Or.inr sz_b1)).wr W12 (Or.inr sz_b1)).wr W14 (Or.inr sz_b1)).wr W16 (Or.inr sz_b1)).wr W19 (Or.inr sz_b1)).wr W22 (Or.inr sz_b1)).wr W26 (Or.inr sz_b1)).wr W29 (Or.inr sz_b1))
    obtain ⟨_, _, ⟨T38, L38, k38, n38⟩, -, X38, ⟨Lc38, hQ38, l38, y38, z38⟩, st38⟩ := Jvm.LawKit.callS X29 hx (y := (⟨"manyworlds/service/KeywordIsInputPinLaw", "expectedInput", "(I)Z"⟩ : MethodName)) hown (mvT hZ (hw _ (List.mem_of_getElem? (i := 27) rfl))) (mvT hZ (hw _ (List.mem_of_getElem? (i := 28) rfl))) (mvT hZ (hw _ (List.mem_of_getElem? (i := 29) rfl))) (mvT hZ (hw _ (List.mem_of_getElem? (i := 30) rfl))) (by decide) (backOf (W := 0) (rm1 l Z a0 hw [] (1 : Int32) h29 n0 (Nat.le_trans Z0 K39.1) ) hZ (hw _ (List.mem_of_getElem? (i := 30) rfl)) (hw _ (List.mem_of_getElem? (i := 29) rfl)) (by decide) (by decide)) (g := (mkF m 90 #[.val (.int p1), .val (.ref b1), .val (.int (1 : Int32)), .val (.ref w1), .unset] [(.int (1 : Int32))])) rfl (by rw [hml]; rfl) (argsL := [(.int (1 : Int32))]) (rest := []) (lenOf pd_0 rfl) rfl (by show 2 * 0 + _ ≤ _; exact Nat.le_of_eq rfl) (hb hby at_90) (fun _ _ => ⟨rfl, e29, (by decide : 1 + 0 ≤ _), (by decide : 11 + 0 ≤ _)⟩)
    dsimp only [Pt.U, Pt.locs, Pt.cells, Pt.slots] at X38 l38 y38 z38 st38 hQ38
    subst l38 y38 z38
    obtain ⟨rfl, N38q, e38⟩ := hQ38
    have N38 := Fr.app N29 N38q
    skip
    refine go st38 ?_
    show Go p e below _ (T38.setTop (mkF m 93 #[.val (.int p1), .val (.ref b1), .val (.int (1 : Int32)), .val (.ref w1), .unset] [(.int (bz ((1 : Int32) = (2 : Int32) ∨ (1 : Int32) = (3 : Int32))))]))
    refine go (fun _ k => XS.istore X38.here hx rfl (hb hby at_93) rfl (l' := #[.val (.int p1), .val (.ref b1), .val (.int (1 : Int32)), .val (.ref w1), .val (.int (bz ((1 : Int32) = (2 : Int32) ∨ (1 : Int32) = (3 : Int32))))]) rfl k) ?_
    show Go p e below _ (T38.setTop (mkF m 95 #[.val (.int p1), .val (.ref b1), .val (.int (1 : Int32)), .val (.ref w1), .val (.int (bz ((1 : Int32) = (2 : Int32) ∨ (1 : Int32) = (3 : Int32))))] []))
    refine go (fun _ k => XS.aloadN X38.here hx rfl (hb hby at_95) rfl rfl  k) ?_
    show Go p e below _ (T38.setTop (mkF m 96 #[.val (.int p1), .val (.ref b1), .val (.int (1 : Int32)), .val (.ref w1), .val (.int (bz ((1 : Int32) = (2 : Int32) ∨ (1 : Int32) = (3 : Int32))))] [(.ref w1)]))
    have f41 := ((((((((((((E_w1.ext E1).wr W3).wr W5).wr W7).wr W9).wr W12).wr W14).wr W16).wr W19).wr W22).wr W26).wr W29)
    obtain ⟨cq40, kq40, q40a, q40b, q40c⟩ := isOf hZ e38 f41
    obtain ⟨_, _, ⟨T40, L40, k40, n40⟩, -, X40, ⟨Lc40, hQ40, l40, y40, z40⟩, st40⟩ := X38.virtualBack hx (y := (⟨"manyworlds/service/Keyword", "isInput", "()Z"⟩ : MethodName)) (z := (⟨"manyworlds/service/Keyword", "isInput", "()Z"⟩ : MethodName)) hown (mvT hZ (hw _ (List.mem_of_getElem? (i := 31) rfl))) (mvT hZ (hw _ (List.mem_of_getElem? (i := 32) rfl))) (notFace_of_selects (args := #[]) (mvT hZ (hw _ (List.mem_of_getElem? (i := 34) rfl)))) (mvT hZ (hw _ (List.mem_of_getElem? (i := 34) rfl))) (mvT hZ (hw _ (List.mem_of_getElem? (i := 33) rfl))) (by decide) (backOf (W := 0) (rm2 l Z a0 hw [] w1 w2 w3 h29 n0 (Nat.le_trans Z0 K39.1) ((f24.wr W26 g_b1).wr W29 g_b1) S_TRUE S_DOES) hZ (hw _ (List.mem_of_getElem? (i := 35) rfl)) (hw _ (List.mem_of_getElem? (i := 3) rfl)) (by decide) (by decide)) q40a q40c (g := (mkF m 96 #[.val (.int p1), .val (.ref b1), .val (.int (1 : Int32)), .val (.ref w1), .val (.int (bz ((1 : Int32) = (2 : Int32) ∨ (1 : Int32) = (3 : Int32))))] [(.ref w1)])) rfl (by rw [hml]; rfl) (Steps.refl _) (argsL := []) (rest := []) (lenOf pd_1 rfl) rfl (by show 2 * 0 + _ ≤ _; exact Nat.le_of_eq rfl) (hb hby at_96) (fun _ _ => ⟨rfl, e38, (by decide : 1 + 0 ≤ _), (by decide : 11 + 0 ≤ _)⟩)
    dsimp only [Pt.U, Pt.locs, Pt.cells, Pt.slots] at X40 l40 y40 z40 st40 hQ40
    subst l40 y40 z40
    obtain ⟨rfl, N40q, e40⟩ := hQ40
    have N40 := Fr.app N38 N40q
    skip
    refine go (fun _ k => st40.trans k) ?_
    show Go p e below _ (T40.setTop (mkF m 99 #[.val (.int p1), .val (.ref b1), .val (.int (1 : Int32)), .val (.ref w1), .val (.int (bz ((1 : Int32) = (2 : Int32) ∨ (1 : Int32) = (3 : Int32))))] [(.int (bz (own_inp w1 w2 w3)))]))
    refine go (fun _ k => XS.iload X40.here hx rfl (hb hby at_99) rfl  k) ?_
    show Go p e below _ (T40.setTop (mkF m 101 #[.val (.int p1), .val (.ref b1), .val (.int (1 : Int32)), .val (.ref w1), .val (.int (bz ((1 : Int32) = (2 : Int32) ∨ (1 : Int32) = (3 : Int32))))] [(.int (bz ((1 : Int32) = (2 : Int32) ∨ (1 : Int32) = (3 : Int32)))), (.int (bz (own_inp w1 w2 w3)))]))
    have hc101_2 : (bz (own_inp w1 w2 w3)) = (bz ((1 : Int32) = (2 : Int32) ∨ (1 : Int32) = (3 : Int32))) := by rw [bz_f (c := own_inp w1 w2 w3) (fun q => q.elim n1_2 n1_3)]; decide
    refine go (fun _ k => XS.icmpNo X40.here hx rfl (hb hby at_101) rfl (teq hc101_2).2 k) ?_
    show Go p e below _ (T40.setTop (mkF m 104 #[.val (.int p1), .val (.ref b1), .val (.int (1 : Int32)), .val (.ref w1), .val (.int (bz ((1 : Int32) = (2 : Int32) ∨ (1 : Int32) = (3 : Int32))))] []))
    refine go (fun _ k => XS.iconst X40.here hx rfl (hb hby at_104) k) ?_
    show Go p e below _ (T40.setTop (mkF m 105 #[.val (.int p1), .val (.ref b1), .val (.int (1 : Int32)), .val (.ref w1), .val (.int (bz ((1 : Int32) = (2 : Int32) ∨ (1 : Int32) = (3 : Int32))))] [(.int (1 : Int32))]))
    refine go (fun _ k => XS.goto X40.here hx rfl (pc0 := 105) (pc' := 109) rfl (hb hby at_105) (by decide) (by decide) k) ?_
    show Go p e below _ (T40.setTop (mkF m 109 #[.val (.int p1), .val (.ref b1), .val (.int (1 : Int32)), .val (.ref w1), .val (.int (bz ((1 : Int32) = (2 : Int32) ∨ (1 : Int32) = (3 : Int32))))] [(.int (1 : Int32))]))
    obtain ⟨fs, hr, hrun, hended, hW, hsame⟩ := X40.leave (v := some (.int (1 : Int32))) (fun h => by rw [Bd.returns] at h; cases h)
    refine leaf (T := T40) ⟨fs, retN X40 hx (t := .boolean) Bd.returns (by simp) (hb hby at_109) hr, hrun, hended, hW, hsame⟩ ?_ (by decide) (by decide)
    show Q0 Z p1 w0 w1 w2 w3 w4 w5 w6 w7 w8 w9 w10 h0 n0 _ T40.heap _
    rw [e40]
    exact ⟨rfl, N40⟩
  · skip
    rw [hk]
    show Go p e below _ (T29.setTop (mkF m 84 #[.val (.int p1), .val (.ref b1), .unset, .unset, .unset] [(.int (2 : Int32))]))
    refine go (fun _ k => XS.istoreN X29.here hx rfl (hb hby at_84) rfl (l' := #[.val (.int p1), .val (.ref b1), .val (.int (2 : Int32)), .unset, .unset]) rfl k) ?_
    show Go p e below _ (T29.setTop (mkF m 85 #[.val (.int p1), .val (.ref b1), .val (.int (2 : Int32)), .unset, .unset] []))
    refine go (fun _ k => XS.aloadN X29.here hx rfl (hb hby at_85) rfl rfl  k) ?_
    show Go p e below _ (T29.setTop (mkF m 86 #[.val (.int p1), .val (.ref b1), .val (.int (2 : Int32)), .unset, .unset] [(.ref b1)]))
    refine go (fun _ k => XS.iloadN X29.here hx rfl (hb hby at_86) rfl  k) ?_
    show Go p e below _ (T29.setTop (mkF m 87 #[.val (.int p1), .val (.ref b1), .val (.int (2 : Int32)), .unset, .unset] [(.int (2 : Int32)), (.ref b1)]))
    obtain ⟨cl42, Ar42, q42, S42, M42, H42, G42⟩ := V_b1_29
    have hin42 : ¬ ((2 : Int32) < 0 ∨ cl42.slots.size ≤ ((2 : Int32)).toNatClampNeg) := inb_of S42 ⟨by decide, by decide⟩
    have hat42 : cl42.slots[((2 : Int32)).toNatClampNeg]? = some (.ref w2) := Has.at H42 hin42 rfl
    refine go (X29.aaload hx (j := (2 : Int32)) (v := (.ref w2)) (by rw [e29]; exact Ar42.1) (State.isArrayOf_alike hZ.alike Ar42.2.1) rfl Ar42.2.2 hin42 hat42 (g := (mkF m 87 #[.val (.int p1), .val (.ref b1), .val (.int (2 : Int32)), .unset, .unset] [(.int (2 : Int32)), (.ref b1)])) rfl rfl (hb hby at_87)) ?_
    show Go p e below _ (T29.setTop (mkF m 88 #[.val (.int p1), .val (.ref b1), .val (.int (2 : Int32)), .unset, .unset] [(.ref w2)]))
    refine go (fun _ k => XS.astoreN X29.here hx rfl (hb hby at_88) rfl rfl (l' := #[.val (.int p1), .val (.ref b1), .val (.int (2 : Int32)), .val (.ref w2), .unset]) rfl k) ?_
    show Go p e below _ (T29.setTop (mkF m 89 #[.val (.int p1), .val (.ref b1), .val (.int (2 : Int32)), .val (.ref w2), .unset] []))
    refine go (fun _ k => XS.iloadN X29.here hx rfl (hb hby at_89) rfl  k) ?_
    show Go p e below _ (T29.setTop (mkF m 90 #[.val (.int p1), .val (.ref b1), .val (.int (2 : Int32)), .val (.ref w2), .unset] [(.int (2 : Int32))]))
    have K44 : Keep h0 h29 [] := (((((((((((((Keep.refl h0 []).ext E1).wr W3 (Or.inr sz_b1)).wr W5 (Or.inr sz_b1)).wr W7 (Or.inr sz_b1)).wr W9 (Or.inr sz_b1)).wr W12 (Or.inr sz_b1)).wr W14 (Or.inr sz_b1)).wr W16 (Or.inr sz_b1)).wr W19 (Or.inr sz_b1)).wr W22 (Or.inr sz_b1)).wr W26 (Or.inr sz_b1)).wr W29 (Or.inr sz_b1))
    obtain ⟨_, _, ⟨T43, L43, k43, n43⟩, -, X43, ⟨Lc43, hQ43, l43, y43, z43⟩, st43⟩ := Jvm.LawKit.callS X29 hx (y := (⟨"manyworlds/service/KeywordIsInputPinLaw", "expectedInput", "(I)Z"⟩ : MethodName)) hown (mvT hZ (hw _ (List.mem_of_getElem? (i := 27) rfl))) (mvT hZ (hw _ (List.mem_of_getElem? (i := 28) rfl))) (mvT hZ (hw _ (List.mem_of_getElem? (i := 29) rfl))) (mvT hZ (hw _ (List.mem_of_getElem? (i := 30) rfl))) (by decide) (backOf (W := 0) (rm1 l Z a0 hw [] (2 : Int32) h29 n0 (Nat.le_trans Z0 K44.1) ) hZ (hw _ (List.mem_of_getElem? (i := 30) rfl)) (hw _ (List.mem_of_getElem? (i := 29) rfl)) (by decide) (by decide)) (g := (mkF m 90 #[.val (.int p1), .val (.ref b1), .val (.int (2 : Int32)), .val (.ref w2), .unset] [(.int (2 : Int32))])) rfl (by rw [hml]; rfl) (argsL := [(.int (2 : Int32))]) (rest := []) (lenOf pd_0 rfl) rfl (by show 2 * 0 + _ ≤ _; exact Nat.le_of_eq rfl) (hb hby at_90) (fun _ _ => ⟨rfl, e29, (by decide : 1 + 0 ≤ _), (by decide : 11 + 0 ≤ _)⟩)
    dsimp only [Pt.U, Pt.locs, Pt.cells, Pt.slots] at X43 l43 y43 z43 st43 hQ43
    subst l43 y43 z43
    obtain ⟨rfl, N43q, e43⟩ := hQ43
    have N43 := Fr.app N29 N43q
    skip
    refine go st43 ?_
    show Go p e below _ (T43.setTop (mkF m 93 #[.val (.int p1), .val (.ref b1), .val (.int (2 : Int32)), .val (.ref w2), .unset] [(.int (bz ((2 : Int32) = (2 : Int32) ∨ (2 : Int32) = (3 : Int32))))]))
    refine go (fun _ k => XS.istore X43.here hx rfl (hb hby at_93) rfl (l' := #[.val (.int p1), .val (.ref b1), .val (.int (2 : Int32)), .val (.ref w2), .val (.int (bz ((2 : Int32) = (2 : Int32) ∨ (2 : Int32) = (3 : Int32))))]) rfl k) ?_
    show Go p e below _ (T43.setTop (mkF m 95 #[.val (.int p1), .val (.ref b1), .val (.int (2 : Int32)), .val (.ref w2), .val (.int (bz ((2 : Int32) = (2 : Int32) ∨ (2 : Int32) = (3 : Int32))))] []))
    refine go (fun _ k => XS.aloadN X43.here hx rfl (hb hby at_95) rfl rfl  k) ?_
    show Go p e below _ (T43.setTop (mkF m 96 #[.val (.int p1), .val (.ref b1), .val (.int (2 : Int32)), .val (.ref w2), .val (.int (bz ((2 : Int32) = (2 : Int32) ∨ (2 : Int32) = (3 : Int32))))] [(.ref w2)]))
    have f46 := ((((((((((((E_w2.ext E1).wr W3).wr W5).wr W7).wr W9).wr W12).wr W14).wr W16).wr W19).wr W22).wr W26).wr W29)
    obtain ⟨cq45, kq45, q45a, q45b, q45c⟩ := isOf hZ e43 f46
    obtain ⟨_, _, ⟨T45, L45, k45, n45⟩, -, X45, ⟨Lc45, hQ45, l45, y45, z45⟩, st45⟩ := X43.virtualBack hx (y := (⟨"manyworlds/service/Keyword", "isInput", "()Z"⟩ : MethodName)) (z := (⟨"manyworlds/service/Keyword", "isInput", "()Z"⟩ : MethodName)) hown (mvT hZ (hw _ (List.mem_of_getElem? (i := 31) rfl))) (mvT hZ (hw _ (List.mem_of_getElem? (i := 32) rfl))) (notFace_of_selects (args := #[]) (mvT hZ (hw _ (List.mem_of_getElem? (i := 34) rfl)))) (mvT hZ (hw _ (List.mem_of_getElem? (i := 34) rfl))) (mvT hZ (hw _ (List.mem_of_getElem? (i := 33) rfl))) (by decide) (backOf (W := 0) (rm2 l Z a0 hw [] w2 w2 w3 h29 n0 (Nat.le_trans Z0 K44.1) ((f24.wr W26 g_b1).wr W29 g_b1) S_TRUE S_DOES) hZ (hw _ (List.mem_of_getElem? (i := 35) rfl)) (hw _ (List.mem_of_getElem? (i := 3) rfl)) (by decide) (by decide)) q45a q45c (g := (mkF m 96 #[.val (.int p1), .val (.ref b1), .val (.int (2 : Int32)), .val (.ref w2), .val (.int (bz ((2 : Int32) = (2 : Int32) ∨ (2 : Int32) = (3 : Int32))))] [(.ref w2)])) rfl (by rw [hml]; rfl) (Steps.refl _) (argsL := []) (rest := []) (lenOf pd_1 rfl) rfl (by show 2 * 0 + _ ≤ _; exact Nat.le_of_eq rfl) (hb hby at_96) (fun _ _ => ⟨rfl, e43, (by decide : 1 + 0 ≤ _), (by decide : 11 + 0 ≤ _)⟩)
    dsimp only [Pt.U, Pt.locs, Pt.cells, Pt.slots] at X45 l45 y45 z45 st45 hQ45
    subst l45 y45 z45
    obtain ⟨rfl, N45q, e45⟩ := hQ45
    have N45 := Fr.app N43 N45q
    skip
    refine go (fun _ k => st45.trans k) ?_
    show Go p e below _ (T45.setTop (mkF m 99 #[.val (.int p1), .val (.ref b1), .val (.int (2 : Int32)), .val (.ref w2), .val (.int (bz ((2 : Int32) = (2 : Int32) ∨ (2 : Int32) = (3 : Int32))))] [(.int (bz (own_inp w2 w2 w3)))]))
    refine go (fun _ k => XS.iload X45.here hx rfl (hb hby at_99) rfl  k) ?_
    show Go p e below _ (T45.setTop (mkF m 101 #[.val (.int p1), .val (.ref b1), .val (.int (2 : Int32)), .val (.ref w2), .val (.int (bz ((2 : Int32) = (2 : Int32) ∨ (2 : Int32) = (3 : Int32))))] [(.int (bz ((2 : Int32) = (2 : Int32) ∨ (2 : Int32) = (3 : Int32)))), (.int (bz (own_inp w2 w2 w3)))]))
    have hc101_3 : (bz (own_inp w2 w2 w3)) = (bz ((2 : Int32) = (2 : Int32) ∨ (2 : Int32) = (3 : Int32))) := by rw [bz_t (c := own_inp w2 w2 w3) (Or.inl rfl)]; decide
    refine go (fun _ k => XS.icmpNo X45.here hx rfl (hb hby at_101) rfl (teq hc101_3).2 k) ?_
    show Go p e below _ (T45.setTop (mkF m 104 #[.val (.int p1), .val (.ref b1), .val (.int (2 : Int32)), .val (.ref w2), .val (.int (bz ((2 : Int32) = (2 : Int32) ∨ (2 : Int32) = (3 : Int32))))] []))
    refine go (fun _ k => XS.iconst X45.here hx rfl (hb hby at_104) k) ?_
    show Go p e below _ (T45.setTop (mkF m 105 #[.val (.int p1), .val (.ref b1), .val (.int (2 : Int32)), .val (.ref w2), .val (.int (bz ((2 : Int32) = (2 : Int32) ∨ (2 : Int32) = (3 : Int32))))] [(.int (1 : Int32))]))
    refine go (fun _ k => XS.goto X45.here hx rfl (pc0 := 105) (pc' := 109) rfl (hb hby at_105) (by decide) (by decide) k) ?_
    show Go p e below _ (T45.setTop (mkF m 109 #[.val (.int p1), .val (.ref b1), .val (.int (2 : Int32)), .val (.ref w2), .val (.int (bz ((2 : Int32) = (2 : Int32) ∨ (2 : Int32) = (3 : Int32))))] [(.int (1 : Int32))]))
    obtain ⟨fs, hr, hrun, hended, hW, hsame⟩ := X45.leave (v := some (.int (1 : Int32))) (fun h => by rw [Bd.returns] at h; cases h)
    refine leaf (T := T45) ⟨fs, retN X45 hx (t := .boolean) Bd.returns (by simp) (hb hby at_109) hr, hrun, hended, hW, hsame⟩ ?_ (by decide) (by decide)
    show Q0 Z p1 w0 w1 w2 w3 w4 w5 w6 w7 w8 w9 w10 h0 n0 _ T45.heap _
    rw [e45]
    exact ⟨rfl, N45⟩
  · skip
    rw [hk]
    show Go p e below _ (T29.setTop (mkF m 84 #[.val (.int p1), .val (.ref b1), .unset, .unset, .unset] [(.int (3 : Int32))]))
    refine go (fun _ k => XS.istoreN X29.here hx rfl (hb hby at_84) rfl (l' := #[.val (.int p1), .val (.ref b1), .val (.int (3 : Int32)), .unset, .unset]) rfl k) ?_
    show Go p e below _ (T29.setTop (mkF m 85 #[.val (.int p1), .val (.ref b1), .val (.int (3 : Int32)), .unset, .unset] []))
    refine go (fun _ k => XS.aloadN X29.here hx rfl (hb hby at_85) rfl rfl  k) ?_
    show Go p e below _ (T29.setTop (mkF m 86 #[.val (.int p1), .val (.ref b1), .val (.int (3 : Int32)), .unset, .unset] [(.ref b1)]))
    refine go (fun _ k => XS.iloadN X29.here hx rfl (hb hby at_86) rfl  k) ?_
    show Go p e below _ (T29.setTop (mkF m 87 #[.val (.int p1), .val (.ref b1), .val (.int (3 : Int32)), .unset, .unset] [(.int (3 : Int32)), (.ref b1)]))
    obtain ⟨cl47, Ar47, q47, S47, M47, H47, G47⟩ := V_b1_29
    have hin47 : ¬ ((3 : Int32) < 0 ∨ cl47.slots.size ≤ ((3 : Int32)).toNatClampNeg) := inb_of S47 ⟨by decide, by decide⟩
    have hat47 : cl47.slots[((3 : Int32)).toNatClampNeg]? = some (.ref w3) := Has.at H47 hin47 rfl
    refine go (X29.aaload hx (j := (3 : Int32)) (v := (.ref w3)) (by rw [e29]; exact Ar47.1) (State.isArrayOf_alike hZ.alike Ar47.2.1) rfl Ar47.2.2 hin47 hat47 (g := (mkF m 87 #[.val (.int p1), .val (.ref b1), .val (.int (3 : Int32)), .unset, .unset] [(.int (3 : Int32)), (.ref b1)])) rfl rfl (hb hby at_87)) ?_
    show Go p e below _ (T29.setTop (mkF m 88 #[.val (.int p1), .val (.ref b1), .val (.int (3 : Int32)), .unset, .unset] [(.ref w3)]))
    refine go (fun _ k => XS.astoreN X29.here hx rfl (hb hby at_88) rfl rfl (l' := #[.val (.int p1), .val (.ref b1), .val (.int (3 : Int32)), .val (.ref w3), .unset]) rfl k) ?_
    show Go p e below _ (T29.setTop (mkF m 89 #[.val (.int p1), .val (.ref b1), .val (.int (3 : Int32)), .val (.ref w3), .unset] []))
    refine go (fun _ k => XS.iloadN X29.here hx rfl (hb hby at_89) rfl  k) ?_
    show Go p e below _ (T29.setTop (mkF m 90 #[.val (.int p1), .val (.ref b1), .val (.int (3 : Int32)), .val (.ref w3), .unset] [(.int (3 : Int32))]))
    have K49 : Keep h0 h29 [] := (((((((((((((Keep.refl h0 []).ext E1).wr W3 (Or.inr sz_b1)).wr W5 (Or.inr sz_b1)).wr W7 (Or.inr sz_b1)).wr W9 (Or.inr sz_b1)).wr W12 (Or.inr sz_b1)).wr W14 (Or.inr sz_b1)).wr W16 (Or.inr sz_b1)).wr W19 (Or.inr sz_b1)).wr W22 (Or.inr sz_b1)).wr W26 (Or.inr sz_b1)).wr W29 (Or.inr sz_b1))
    obtain ⟨_, _, ⟨T48, L48, k48, n48⟩, -, X48, ⟨Lc48, hQ48, l48, y48, z48⟩, st48⟩ := Jvm.LawKit.callS X29 hx (y := (⟨"manyworlds/service/KeywordIsInputPinLaw", "expectedInput", "(I)Z"⟩ : MethodName)) hown (mvT hZ (hw _ (List.mem_of_getElem? (i := 27) rfl))) (mvT hZ (hw _ (List.mem_of_getElem? (i := 28) rfl))) (mvT hZ (hw _ (List.mem_of_getElem? (i := 29) rfl))) (mvT hZ (hw _ (List.mem_of_getElem? (i := 30) rfl))) (by decide) (backOf (W := 0) (rm1 l Z a0 hw [] (3 : Int32) h29 n0 (Nat.le_trans Z0 K49.1) ) hZ (hw _ (List.mem_of_getElem? (i := 30) rfl)) (hw _ (List.mem_of_getElem? (i := 29) rfl)) (by decide) (by decide)) (g := (mkF m 90 #[.val (.int p1), .val (.ref b1), .val (.int (3 : Int32)), .val (.ref w3), .unset] [(.int (3 : Int32))])) rfl (by rw [hml]; rfl) (argsL := [(.int (3 : Int32))]) (rest := []) (lenOf pd_0 rfl) rfl (by show 2 * 0 + _ ≤ _; exact Nat.le_of_eq rfl) (hb hby at_90) (fun _ _ => ⟨rfl, e29, (by decide : 1 + 0 ≤ _), (by decide : 11 + 0 ≤ _)⟩)
    dsimp only [Pt.U, Pt.locs, Pt.cells, Pt.slots] at X48 l48 y48 z48 st48 hQ48
    subst l48 y48 z48
    obtain ⟨rfl, N48q, e48⟩ := hQ48
    have N48 := Fr.app N29 N48q
    skip
    refine go st48 ?_
    show Go p e below _ (T48.setTop (mkF m 93 #[.val (.int p1), .val (.ref b1), .val (.int (3 : Int32)), .val (.ref w3), .unset] [(.int (bz ((3 : Int32) = (2 : Int32) ∨ (3 : Int32) = (3 : Int32))))]))
    refine go (fun _ k => XS.istore X48.here hx rfl (hb hby at_93) rfl (l' := #[.val (.int p1), .val (.ref b1), .val (.int (3 : Int32)), .val (.ref w3), .val (.int (bz ((3 : Int32) = (2 : Int32) ∨ (3 : Int32) = (3 : Int32))))]) rfl k) ?_
    show Go p e below _ (T48.setTop (mkF m 95 #[.val (.int p1), .val (.ref b1), .val (.int (3 : Int32)), .val (.ref w3), .val (.int (bz ((3 : Int32) = (2 : Int32) ∨ (3 : Int32) = (3 : Int32))))] []))
    refine go (fun _ k => XS.aloadN X48.here hx rfl (hb hby at_95) rfl rfl  k) ?_
    show Go p e below _ (T48.setTop (mkF m 96 #[.val (.int p1), .val (.ref b1), .val (.int (3 : Int32)), .val (.ref w3), .val (.int (bz ((3 : Int32) = (2 : Int32) ∨ (3 : Int32) = (3 : Int32))))] [(.ref w3)]))
    have f51 := ((((((((((((E_w3.ext E1).wr W3).wr W5).wr W7).wr W9).wr W12).wr W14).wr W16).wr W19).wr W22).wr W26).wr W29)
    obtain ⟨cq50, kq50, q50a, q50b, q50c⟩ := isOf hZ e48 f51
    obtain ⟨_, _, ⟨T50, L50, k50, n50⟩, -, X50, ⟨Lc50, hQ50, l50, y50, z50⟩, st50⟩ := X48.virtualBack hx (y := (⟨"manyworlds/service/Keyword", "isInput", "()Z"⟩ : MethodName)) (z := (⟨"manyworlds/service/Keyword", "isInput", "()Z"⟩ : MethodName)) hown (mvT hZ (hw _ (List.mem_of_getElem? (i := 31) rfl))) (mvT hZ (hw _ (List.mem_of_getElem? (i := 32) rfl))) (notFace_of_selects (args := #[]) (mvT hZ (hw _ (List.mem_of_getElem? (i := 34) rfl)))) (mvT hZ (hw _ (List.mem_of_getElem? (i := 34) rfl))) (mvT hZ (hw _ (List.mem_of_getElem? (i := 33) rfl))) (by decide) (backOf (W := 0) (rm2 l Z a0 hw [] w3 w2 w3 h29 n0 (Nat.le_trans Z0 K49.1) ((f24.wr W26 g_b1).wr W29 g_b1) S_TRUE S_DOES) hZ (hw _ (List.mem_of_getElem? (i := 35) rfl)) (hw _ (List.mem_of_getElem? (i := 3) rfl)) (by decide) (by decide)) q50a q50c (g := (mkF m 96 #[.val (.int p1), .val (.ref b1), .val (.int (3 : Int32)), .val (.ref w3), .val (.int (bz ((3 : Int32) = (2 : Int32) ∨ (3 : Int32) = (3 : Int32))))] [(.ref w3)])) rfl (by rw [hml]; rfl) (Steps.refl _) (argsL := []) (rest := []) (lenOf pd_1 rfl) rfl (by show 2 * 0 + _ ≤ _; exact Nat.le_of_eq rfl) (hb hby at_96) (fun _ _ => ⟨rfl, e48, (by decide : 1 + 0 ≤ _), (by decide : 11 + 0 ≤ _)⟩)
    dsimp only [Pt.U, Pt.locs, Pt.cells, Pt.slots] at X50 l50 y50 z50 st50 hQ50
    subst l50 y50 z50
    obtain ⟨rfl, N50q, e50⟩ := hQ50
    have N50 := Fr.app N48 N50q
    skip
    refine go (fun _ k => st50.trans k) ?_
    show Go p e below _ (T50.setTop (mkF m 99 #[.val (.int p1), .val (.ref b1), .val (.int (3 : Int32)), .val (.ref w3), .val (.int (bz ((3 : Int32) = (2 : Int32) ∨ (3 : Int32) = (3 : Int32))))] [(.int (bz (own_inp w3 w2 w3)))]))
    refine go (fun _ k => XS.iload X50.here hx rfl (hb hby at_99) rfl  k) ?_
    show Go p e below _ (T50.setTop (mkF m 101 #[.val (.int p1), .val (.ref b1), .val (.int (3 : Int32)), .val (.ref w3), .val (.int (bz ((3 : Int32) = (2 : Int32) ∨ (3 : Int32) = (3 : Int32))))] [(.int (bz ((3 : Int32) = (2 : Int32) ∨ (3 : Int32) = (3 : Int32)))), (.int (bz (own_inp w3 w2 w3)))]))
    have hc101_4 : (bz (own_inp w3 w2 w3)) = (bz ((3 : Int32) = (2 : Int32) ∨ (3 : Int32) = (3 : Int32))) := by rw [bz_t (c := own_inp w3 w2 w3) (Or.inr rfl)]; decide
    refine go (fun _ k => XS.icmpNo X50.here hx rfl (hb hby at_101) rfl (teq hc101_4).2 k) ?_
    show Go p e below _ (T50.setTop (mkF m 104 #[.val (.int p1), .val (.ref b1), .val (.int (3 : Int32)), .val (.ref w3), .val (.int (bz ((3 : Int32) = (2 : Int32) ∨ (3 : Int32) = (3 : Int32))))] []))
    refine go (fun _ k => XS.iconst X50.here hx rfl (hb hby at_104) k) ?_
    show Go p e below _ (T50.setTop (mkF m 105 #[.val (.int p1), .val (.ref b1), .val (.int (3 : Int32)), .val (.ref w3), .val (.int (bz ((3 : Int32) = (2 : Int32) ∨ (3 : Int32) = (3 : Int32))))] [(.int (1 : Int32))]))
    refine go (fun _ k => XS.goto X50.here hx rfl (pc0 := 105) (pc' := 109) rfl (hb hby at_105) (by decide) (by decide) k) ?_
    show Go p e below _ (T50.setTop (mkF m 109 #[.val (.int p1), .val (.ref b1), .val (.int (3 : Int32)), .val (.ref w3), .val (.int (bz ((3 : Int32) = (2 : Int32) ∨ (3 : Int32) = (3 : Int32))))] [(.int (1 : Int32))]))
    obtain ⟨fs, hr, hrun, hended, hW, hsame⟩ := X50.leave (v := some (.int (1 : Int32))) (fun h => by rw [Bd.returns] at h; cases h)
    refine leaf (T := T50) ⟨fs, retN X50 hx (t := .boolean) Bd.returns (by simp) (hb hby at_109) hr, hrun, hended, hW, hsame⟩ ?_ (by decide) (by decide)
    show Q0 Z p1 w0 w1 w2 w3 w4 w5 w6 w7 w8 w9 w10 h0 n0 _ T50.heap _
    rw [e50]
    exact ⟨rfl, N50⟩
  · skip
    rw [hk]
    show Go p e below _ (T29.setTop (mkF m 84 #[.val (.int p1), .val (.ref b1), .unset, .unset, .unset] [(.int (4 : Int32))]))
    refine go (fun _ k => XS.istoreN X29.here hx rfl (hb hby at_84) rfl (l' := #[.val (.int p1), .val (.ref b1), .val (.int (4 : Int32)), .unset, .unset]) rfl k) ?_
    show Go p e below _ (T29.setTop (mkF m 85 #[.val (.int p1), .val (.ref b1), .val (.int (4 : Int32)), .unset, .unset] []))
    refine go (fun _ k => XS.aloadN X29.here hx rfl (hb hby at_85) rfl rfl  k) ?_
    show Go p e below _ (T29.setTop (mkF m 86 #[.val (.int p1), .val (.ref b1), .val (.int (4 : Int32)), .unset, .unset] [(.ref b1)]))
    refine go (fun _ k => XS.iloadN X29.here hx rfl (hb hby at_86) rfl  k) ?_
    show Go p e below _ (T29.setTop (mkF m 87 #[.val (.int p1), .val (.ref b1), .val (.int (4 : Int32)), .unset, .unset] [(.int (4 : Int32)), (.ref b1)]))
    obtain ⟨cl52, Ar52, q52, S52, M52, H52, G52⟩ := V_b1_29
    have hin52 : ¬ ((4 : Int32) < 0 ∨ cl52.slots.size ≤ ((4 : Int32)).toNatClampNeg) := inb_of S52 ⟨by decide, by decide⟩
    have hat52 : cl52.slots[((4 : Int32)).toNatClampNeg]? = some (.ref w4) := Has.at H52 hin52 rfl
    refine go (X29.aaload hx (j := (4 : Int32)) (v := (.ref w4)) (by rw [e29]; exact Ar52.1) (State.isArrayOf_alike hZ.alike Ar52.2.1) rfl Ar52.2.2 hin52 hat52 (g := (mkF m 87 #[.val (.int p1), .val (.ref b1), .val (.int (4 : Int32)), .unset, .unset] [(.int (4 : Int32)), (.ref b1)])) rfl rfl (hb hby at_87)) ?_
    show Go p e below _ (T29.setTop (mkF m 88 #[.val (.int p1), .val (.ref b1), .val (.int (4 : Int32)), .unset, .unset] [(.ref w4)]))
    refine go (fun _ k => XS.astoreN X29.here hx rfl (hb hby at_88) rfl rfl (l' := #[.val (.int p1), .val (.ref b1), .val (.int (4 : Int32)), .val (.ref w4), .unset]) rfl k) ?_
    show Go p e below _ (T29.setTop (mkF m 89 #[.val (.int p1), .val (.ref b1), .val (.int (4 : Int32)), .val (.ref w4), .unset] []))
    refine go (fun _ k => XS.iloadN X29.here hx rfl (hb hby at_89) rfl  k) ?_
    show Go p e below _ (T29.setTop (mkF m 90 #[.val (.int p1), .val (.ref b1), .val (.int (4 : Int32)), .val (.ref w4), .unset] [(.int (4 : Int32))]))
    have K54 : Keep h0 h29 [] := (((((((((((((Keep.refl h0 []).ext E1).wr W3 (Or.inr sz_b1)).wr W5 (Or.inr sz_b1)).wr W7 (Or.inr sz_b1)).wr W9 (Or.inr sz_b1)).wr W12 (Or.inr sz_b1)).wr W14 (Or.inr sz_b1)).wr W16 (Or.inr sz_b1)).wr W19 (Or.inr sz_b1)).wr W22 (Or.inr sz_b1)).wr W26 (Or.inr sz_b1)).wr W29 (Or.inr sz_b1))
    obtain ⟨_, _, ⟨T53, L53, k53, n53⟩, -, X53, ⟨Lc53, hQ53, l53, y53, z53⟩, st53⟩ := Jvm.LawKit.callS X29 hx (y := (⟨"manyworlds/service/KeywordIsInputPinLaw", "expectedInput", "(I)Z"⟩ : MethodName)) hown (mvT hZ (hw _ (List.mem_of_getElem? (i := 27) rfl))) (mvT hZ (hw _ (List.mem_of_getElem? (i := 28) rfl))) (mvT hZ (hw _ (List.mem_of_getElem? (i := 29) rfl))) (mvT hZ (hw _ (List.mem_of_getElem? (i := 30) rfl))) (by decide) (backOf (W := 0) (rm1 l Z a0 hw [] (4 : Int32) h29 n0 (Nat.le_trans Z0 K54.1) ) hZ (hw _ (List.mem_of_getElem? (i := 30) rfl)) (hw _ (List.mem_of_getElem? (i := 29) rfl)) (by decide) (by decide)) (g := (mkF m 90 #[.val (.int p1), .val (.ref b1), .val (.int (4 : Int32)), .val (.ref w4), .unset] [(.int (4 : Int32))])) rfl (by rw [hml]; rfl) (argsL := [(.int (4 : Int32))]) (rest := []) (lenOf pd_0 rfl) rfl (by show 2 * 0 + _ ≤ _; exact Nat.le_of_eq rfl) (hb hby at_90) (fun _ _ => ⟨rfl, e29, (by decide : 1 + 0 ≤ _), (by decide : 11 + 0 ≤ _)⟩)
    dsimp only [Pt.U, Pt.locs, Pt.cells, Pt.slots] at X53 l53 y53 z53 st53 hQ53
    subst l53 y53 z53
    obtain ⟨rfl, N53q, e53⟩ := hQ53
    have N53 := Fr.app N29 N53q
    skip
    refine go st53 ?_
    show Go p e below _ (T53.setTop (mkF m 93 #[.val (.int p1), .val (.ref b1), .val (.int (4 : Int32)), .val (.ref w4), .unset] [(.int (bz ((4 : Int32) = (2 : Int32) ∨ (4 : Int32) = (3 : Int32))))]))
    refine go (fun _ k => XS.istore X53.here hx rfl (hb hby at_93) rfl (l' := #[.val (.int p1), .val (.ref b1), .val (.int (4 : Int32)), .val (.ref w4), .val (.int (bz ((4 : Int32) = (2 : Int32) ∨ (4 : Int32) = (3 : Int32))))]) rfl k) ?_
    show Go p e below _ (T53.setTop (mkF m 95 #[.val (.int p1), .val (.ref b1), .val (.int (4 : Int32)), .val (.ref w4), .val (.int (bz ((4 : Int32) = (2 : Int32) ∨ (4 : Int32) = (3 : Int32))))] []))
    refine go (fun _ k => XS.aloadN X53.here hx rfl (hb hby at_95) rfl rfl  k) ?_
    show Go p e below _ (T53.setTop (mkF m 96 #[.val (.int p1), .val (.ref b1), .val (.int (4 : Int32)), .val (.ref w4), .val (.int (bz ((4 : Int32) = (2 : Int32) ∨ (4 : Int32) = (3 : Int32))))] [(.ref w4)]))
    have f56 := ((((((((((((E_w4.ext E1).wr W3).wr W5).wr W7).wr W9).wr W12).wr W14).wr W16).wr W19).wr W22).wr W26).wr W29)
    obtain ⟨cq55, kq55, q55a, q55b, q55c⟩ := isOf hZ e53 f56
    obtain ⟨_, _, ⟨T55, L55, k55, n55⟩, -, X55, ⟨Lc55, hQ55, l55, y55, z55⟩, st55⟩ := X53.virtualBack hx (y := (⟨"manyworlds/service/Keyword", "isInput", "()Z"⟩ : MethodName)) (z := (⟨"manyworlds/service/Keyword", "isInput", "()Z"⟩ : MethodName)) hown (mvT hZ (hw _ (List.mem_of_getElem? (i := 31) rfl))) (mvT hZ (hw _ (List.mem_of_getElem? (i := 32) rfl))) (notFace_of_selects (args := #[]) (mvT hZ (hw _ (List.mem_of_getElem? (i := 34) rfl)))) (mvT hZ (hw _ (List.mem_of_getElem? (i := 34) rfl))) (mvT hZ (hw _ (List.mem_of_getElem? (i := 33) rfl))) (by decide) (backOf (W := 0) (rm2 l Z a0 hw [] w4 w2 w3 h29 n0 (Nat.le_trans Z0 K54.1) ((f24.wr W26 g_b1).wr W29 g_b1) S_TRUE S_DOES) hZ (hw _ (List.mem_of_getElem? (i := 35) rfl)) (hw _ (List.mem_of_getElem? (i := 3) rfl)) (by decide) (by decide)) q55a q55c (g := (mkF m 96 #[.val (.int p1), .val (.ref b1), .val (.int (4 : Int32)), .val (.ref w4), .val (.int (bz ((4 : Int32) = (2 : Int32) ∨ (4 : Int32) = (3 : Int32))))] [(.ref w4)])) rfl (by rw [hml]; rfl) (Steps.refl _) (argsL := []) (rest := []) (lenOf pd_1 rfl) rfl (by show 2 * 0 + _ ≤ _; exact Nat.le_of_eq rfl) (hb hby at_96) (fun _ _ => ⟨rfl, e53, (by decide : 1 + 0 ≤ _), (by decide : 11 + 0 ≤ _)⟩)
    dsimp only [Pt.U, Pt.locs, Pt.cells, Pt.slots] at X55 l55 y55 z55 st55 hQ55
    subst l55 y55 z55
    obtain ⟨rfl, N55q, e55⟩ := hQ55
    have N55 := Fr.app N53 N55q
    skip
    refine go (fun _ k => st55.trans k) ?_
    show Go p e below _ (T55.setTop (mkF m 99 #[.val (.int p1), .val (.ref b1), .val (.int (4 : Int32)), .val (.ref w4), .val (.int (bz ((4 : Int32) = (2 : Int32) ∨ (4 : Int32) = (3 : Int32))))] [(.int (bz (own_inp w4 w2 w3)))]))
    refine go (fun _ k => XS.iload X55.here hx rfl (hb hby at_99) rfl  k) ?_
    show Go p e below _ (T55.setTop (mkF m 101 #[.val (.int p1), .val (.ref b1), .val (.int (4 : Int32)), .val (.ref w4), .val (.int (bz ((4 : Int32) = (2 : Int32) ∨ (4 : Int32) = (3 : Int32))))] [(.int (bz ((4 : Int32) = (2 : Int32) ∨ (4 : Int32) = (3 : Int32)))), (.int (bz (own_inp w4 w2 w3)))]))
    have hc101_5 : (bz (own_inp w4 w2 w3)) = (bz ((4 : Int32) = (2 : Int32) ∨ (4 : Int32) = (3 : Int32))) := by rw [bz_f (c := own_inp w4 w2 w3) (fun q => q.elim n4_2 n4_3)]; decide
    refine go (fun _ k => XS.icmpNo X55.here hx rfl (hb hby at_101) rfl (teq hc101_5).2 k) ?_
    show Go p e below _ (T55.setTop (mkF m 104 #[.val (.int p1), .val (.ref b1), .val (.int (4 : Int32)), .val (.ref w4), .val (.int (bz ((4 : Int32) = (2 : Int32) ∨ (4 : Int32) = (3 : Int32))))] []))
    refine go (fun _ k => XS.iconst X55.here hx rfl (hb hby at_104) k) ?_
    show Go p e below _ (T55.setTop (mkF m 105 #[.val (.int p1), .val (.ref b1), .val (.int (4 : Int32)), .val (.ref w4), .val (.int (bz ((4 : Int32) = (2 : Int32) ∨ (4 : Int32) = (3 : Int32))))] [(.int (1 : Int32))]))
    refine go (fun _ k => XS.goto X55.here hx rfl (pc0 := 105) (pc' := 109) rfl (hb hby at_105) (by decide) (by decide) k) ?_
    show Go p e below _ (T55.setTop (mkF m 109 #[.val (.int p1), .val (.ref b1), .val (.int (4 : Int32)), .val (.ref w4), .val (.int (bz ((4 : Int32) = (2 : Int32) ∨ (4 : Int32) = (3 : Int32))))] [(.int (1 : Int32))]))
    obtain ⟨fs, hr, hrun, hended, hW, hsame⟩ := X55.leave (v := some (.int (1 : Int32))) (fun h => by rw [Bd.returns] at h; cases h)
    refine leaf (T := T55) ⟨fs, retN X55 hx (t := .boolean) Bd.returns (by simp) (hb hby at_109) hr, hrun, hended, hW, hsame⟩ ?_ (by decide) (by decide)
    show Q0 Z p1 w0 w1 w2 w3 w4 w5 w6 w7 w8 w9 w10 h0 n0 _ T55.heap _
    rw [e55]
    exact ⟨rfl, N55⟩
  · skip
    rw [hk]
    show Go p e below _ (T29.setTop (mkF m 84 #[.val (.int p1), .val (.ref b1), .unset, .unset, .unset] [(.int (5 : Int32))]))
    refine go (fun _ k => XS.istoreN X29.here hx rfl (hb hby at_84) rfl (l' := #[.val (.int p1), .val (.ref b1), .val (.int (5 : Int32)), .unset, .unset]) rfl k) ?_
    show Go p e below _ (T29.setTop (mkF m 85 #[.val (.int p1), .val (.ref b1), .val (.int (5 : Int32)), .unset, .unset] []))
    refine go (fun _ k => XS.aloadN X29.here hx rfl (hb hby at_85) rfl rfl  k) ?_
    show Go p e below _ (T29.setTop (mkF m 86 #[.val (.int p1), .val (.ref b1), .val (.int (5 : Int32)), .unset, .unset] [(.ref b1)]))
    refine go (fun _ k => XS.iloadN X29.here hx rfl (hb hby at_86) rfl  k) ?_
    show Go p e below _ (T29.setTop (mkF m 87 #[.val (.int p1), .val (.ref b1), .val (.int (5 : Int32)), .unset, .unset] [(.int (5 : Int32)), (.ref b1)]))
    obtain ⟨cl57, Ar57, q57, S57, M57, H57, G57⟩ := V_b1_29
    have hin57 : ¬ ((5 : Int32) < 0 ∨ cl57.slots.size ≤ ((5 : Int32)).toNatClampNeg) := inb_of S57 ⟨by decide, by decide⟩
    have hat57 : cl57.slots[((5 : Int32)).toNatClampNeg]? = some (.ref w5) := Has.at H57 hin57 rfl
    refine go (X29.aaload hx (j := (5 : Int32)) (v := (.ref w5)) (by rw [e29]; exact Ar57.1) (State.isArrayOf_alike hZ.alike Ar57.2.1) rfl Ar57.2.2 hin57 hat57 (g := (mkF m 87 #[.val (.int p1), .val (.ref b1), .val (.int (5 : Int32)), .unset, .unset] [(.int (5 : Int32)), (.ref b1)])) rfl rfl (hb hby at_87)) ?_
    show Go p e below _ (T29.setTop (mkF m 88 #[.val (.int p1), .val (.ref b1), .val (.int (5 : Int32)), .unset, .unset] [(.ref w5)]))
    refine go (fun _ k => XS.astoreN X29.here hx rfl (hb hby at_88) rfl rfl (l' := #[.val (.int p1), .val (.ref b1), .val (.int (5 : Int32)), .val (.ref w5), .unset]) rfl k) ?_
    show Go p e below _ (T29.setTop (mkF m 89 #[.val (.int p1), .val (.ref b1), .val (.int (5 : Int32)), .val (.ref w5), .unset] []))
    refine go (fun _ k => XS.iloadN X29.here hx rfl (hb hby at_89) rfl  k) ?_
    show Go p e below _ (T29.setTop (mkF m 90 #[.val (.int p1), .val (.ref b1), .val (.int (5 : Int32)), .val (.ref w5), .unset] [(.int (5 : Int32))]))
    have K59 : Keep h0 h29 [] := (((((((((((((Keep.refl h0 []).ext E1).wr W3 (Or.inr sz_b1)).wr W5 (Or.inr sz_b1)).wr W7 (Or.inr sz_b1)).wr W9 (Or.inr sz_b1)).wr W12 (Or.inr sz_b1)).wr W14 (Or.inr sz_b1)).wr W16 (Or.inr sz_b1)).wr W19 (Or.inr sz_b1)).wr W22 (Or.inr sz_b1)).wr W26 (Or.inr sz_b1)).wr W29 (Or.inr sz_b1))
    obtain ⟨_, _, ⟨T58, L58, k58, n58⟩, -, X58, ⟨Lc58, hQ58, l58, y58, z58⟩, st58⟩ := Jvm.LawKit.callS X29 hx (y := (⟨"manyworlds/service/KeywordIsInputPinLaw", "expectedInput", "(I)Z"⟩ : MethodName)) hown (mvT hZ (hw _ (List.mem_of_getElem? (i := 27) rfl))) (mvT hZ (hw _ (List.mem_of_getElem? (i := 28) rfl))) (mvT hZ (hw _ (List.mem_of_getElem? (i := 29) rfl))) (mvT hZ (hw _ (List.mem_of_getElem? (i := 30) rfl))) (by decide) (backOf (W := 0) (rm1 l Z a0 hw [] (5 : Int32) h29 n0 (Nat.le_trans Z0 K59.1) ) hZ (hw _ (List.mem_of_getElem? (i := 30) rfl)) (hw _ (List.mem_of_getElem? (i := 29) rfl)) (by decide) (by decide)) (g := (mkF m 90 #[.val (.int p1), .val (.ref b1), .val (.int (5 : Int32)), .val (.ref w5), .unset] [(.int (5 : Int32))])) rfl (by rw [hml]; rfl) (argsL := [(.int (5 : Int32))]) (rest := []) (lenOf pd_0 rfl) rfl (by show 2 * 0 + _ ≤ _; exact Nat.le_of_eq rfl) (hb hby at_90) (fun _ _ => ⟨rfl, e29, (by decide : 1 + 0 ≤ _), (by decide : 11 + 0 ≤ _)⟩)
    dsimp only [Pt.U, Pt.locs, Pt.cells, Pt.slots] at X58 l58 y58 z58 st58 hQ58
    subst l58 y58 z58
    obtain ⟨rfl, N58q, e58⟩ := hQ58
    have N58 := Fr.app N29 N58q
    skip
    refine go st58 ?_
    show Go p e below _ (T58.setTop (mkF m 93 #[.val (.int p1), .val (.ref b1), .val (.int (5 : Int32)), .val (.ref w5), .unset] [(.int (bz ((5 : Int32) = (2 : Int32) ∨ (5 : Int32) = (3 : Int32))))]))
    refine go (fun _ k => XS.istore X58.here hx rfl (hb hby at_93) rfl (l' := #[.val (.int p1), .val (.ref b1), .val (.int (5 : Int32)), .val (.ref w5), .val (.int (bz ((5 : Int32) = (2 : Int32) ∨ (5 : Int32) = (3 : Int32))))]) rfl k) ?_
    show Go p e below _ (T58.setTop (mkF m 95 #[.val (.int p1), .val (.ref b1), .val (.int (5 : Int32)), .val (.ref w5), .val (.int (bz ((5 : Int32) = (2 : Int32) ∨ (5 : Int32) = (3 : Int32))))] []))
    refine go (fun _ k => XS.aloadN X58.here hx rfl (hb hby at_95) rfl rfl  k) ?_
    show Go p e below _ (T58.setTop (mkF m 96 #[.val (.int p1), .val (.ref b1), .val (.int (5 : Int32)), .val (.ref w5), .val (.int (bz ((5 : Int32) = (2 : Int32) ∨ (5 : Int32) = (3 : Int32))))] [(.ref w5)]))
    have f61 := ((((((((((((E_w5.ext E1).wr W3).wr W5).wr W7).wr W9).wr W12).wr W14).wr W16).wr W19).wr W22).wr W26).wr W29)
    obtain ⟨cq60, kq60, q60a, q60b, q60c⟩ := isOf hZ e58 f61
    obtain ⟨_, _, ⟨T60, L60, k60, n60⟩, -, X60, ⟨Lc60, hQ60, l60, y60, z60⟩, st60⟩ := X58.virtualBack hx (y := (⟨"manyworlds/service/Keyword", "isInput", "()Z"⟩ : MethodName)) (z := (⟨"manyworlds/service/Keyword", "isInput", "()Z"⟩ : MethodName)) hown (mvT hZ (hw _ (List.mem_of_getElem? (i := 31) rfl))) (mvT hZ (hw _ (List.mem_of_getElem? (i := 32) rfl))) (notFace_of_selects (args := #[]) (mvT hZ (hw _ (List.mem_of_getElem? (i := 34) rfl)))) (mvT hZ (hw _ (List.mem_of_getElem? (i := 34) rfl))) (mvT hZ (hw _ (List.mem_of_getElem? (i := 33) rfl))) (by decide) (backOf (W := 0) (rm2 l Z a0 hw [] w5 w2 w3 h29 n0 (Nat.le_trans Z0 K59.1) ((f24.wr W26 g_b1).wr W29 g_b1) S_TRUE S_DOES) hZ (hw _ (List.mem_of_getElem? (i := 35) rfl)) (hw _ (List.mem_of_getElem? (i := 3) rfl)) (by decide) (by decide)) q60a q60c (g := (mkF m 96 #[.val (.int p1), .val (.ref b1), .val (.int (5 : Int32)), .val (.ref w5), .val (.int (bz ((5 : Int32) = (2 : Int32) ∨ (5 : Int32) = (3 : Int32))))] [(.ref w5)])) rfl (by rw [hml]; rfl) (Steps.refl _) (argsL := []) (rest := []) (lenOf pd_1 rfl) rfl (by show 2 * 0 + _ ≤ _; exact Nat.le_of_eq rfl) (hb hby at_96) (fun _ _ => ⟨rfl, e58, (by decide : 1 + 0 ≤ _), (by decide : 11 + 0 ≤ _)⟩)
    dsimp only [Pt.U, Pt.locs, Pt.cells, Pt.slots] at X60 l60 y60 z60 st60 hQ60
    subst l60 y60 z60
    obtain ⟨rfl, N60q, e60⟩ := hQ60
    have N60 := Fr.app N58 N60q
    skip
    refine go (fun _ k => st60.trans k) ?_
    show Go p e below _ (T60.setTop (mkF m 99 #[.val (.int p1), .val (.ref b1), .val (.int (5 : Int32)), .val (.ref w5), .val (.int (bz ((5 : Int32) = (2 : Int32) ∨ (5 : Int32) = (3 : Int32))))] [(.int (bz (own_inp w5 w2 w3)))]))
    refine go (fun _ k => XS.iload X60.here hx rfl (hb hby at_99) rfl  k) ?_
    show Go p e below _ (T60.setTop (mkF m 101 #[.val (.int p1), .val (.ref b1), .val (.int (5 : Int32)), .val (.ref w5), .val (.int (bz ((5 : Int32) = (2 : Int32) ∨ (5 : Int32) = (3 : Int32))))] [(.int (bz ((5 : Int32) = (2 : Int32) ∨ (5 : Int32) = (3 : Int32)))), (.int (bz (own_inp w5 w2 w3)))]))
    have hc101_6 : (bz (own_inp w5 w2 w3)) = (bz ((5 : Int32) = (2 : Int32) ∨ (5 : Int32) = (3 : Int32))) := by rw [bz_f (c := own_inp w5 w2 w3) (fun q => q.elim n5_2 n5_3)]; decide
    refine go (fun _ k => XS.icmpNo X60.here hx rfl (hb hby at_101) rfl (teq hc101_6).2 k) ?_
    show Go p e below _ (T60.setTop (mkF m 104 #[.val (.int p1), .val (.ref b1), .val (.int (5 : Int32)), .val (.ref w5), .val (.int (bz ((5 : Int32) = (2 : Int32) ∨ (5 : Int32) = (3 : Int32))))] []))
    refine go (fun _ k => XS.iconst X60.here hx rfl (hb hby at_104) k) ?_
    show Go p e below _ (T60.setTop (mkF m 105 #[.val (.int p1), .val (.ref b1), .val (.int (5 : Int32)), .val (.ref w5), .val (.int (bz ((5 : Int32) = (2 : Int32) ∨ (5 : Int32) = (3 : Int32))))] [(.int (1 : Int32))]))
    refine go (fun _ k => XS.goto X60.here hx rfl (pc0 := 105) (pc' := 109) rfl (hb hby at_105) (by decide) (by decide) k) ?_
    show Go p e below _ (T60.setTop (mkF m 109 #[.val (.int p1), .val (.ref b1), .val (.int (5 : Int32)), .val (.ref w5), .val (.int (bz ((5 : Int32) = (2 : Int32) ∨ (5 : Int32) = (3 : Int32))))] [(.int (1 : Int32))]))
    obtain ⟨fs, hr, hrun, hended, hW, hsame⟩ := X60.leave (v := some (.int (1 : Int32))) (fun h => by rw [Bd.returns] at h; cases h)
    refine leaf (T := T60) ⟨fs, retN X60 hx (t := .boolean) Bd.returns (by simp) (hb hby at_109) hr, hrun, hended, hW, hsame⟩ ?_ (by decide) (by decide)
    show Q0 Z p1 w0 w1 w2 w3 w4 w5 w6 w7 w8 w9 w10 h0 n0 _ T60.heap _
    rw [e60]
    exact ⟨rfl, N60⟩
  · skip
    rw [hk]
    show Go p e below _ (T29.setTop (mkF m 84 #[.val (.int p1), .val (.ref b1), .unset, .unset, .unset] [(.int (6 : Int32))]))
    refine go (fun _ k => XS.istoreN X29.here hx rfl (hb hby at_84) rfl (l' := #[.val (.int p1), .val (.ref b1), .val (.int (6 : Int32)), .unset, .unset]) rfl k) ?_
    show Go p e below _ (T29.setTop (mkF m 85 #[.val (.int p1), .val (.ref b1), .val (.int (6 : Int32)), .unset, .unset] []))
    refine go (fun _ k => XS.aloadN X29.here hx rfl (hb hby at_85) rfl rfl  k) ?_
    show Go p e below _ (T29.setTop (mkF m 86 #[.val (.int p1), .val (.ref b1), .val (.int (6 : Int32)), .unset, .unset] [(.ref b1)]))
    refine go (fun _ k => XS.iloadN X29.here hx rfl (hb hby at_86) rfl  k) ?_
    show Go p e below _ (T29.setTop (mkF m 87 #[.val (.int p1), .val (.ref b1), .val (.int (6 : Int32)), .unset, .unset] [(.int (6 : Int32)), (.ref b1)]))
    obtain ⟨cl62, Ar62, q62, S62, M62, H62, G62⟩ := V_b1_29
    have hin62 : ¬ ((6 : Int32) < 0 ∨ cl62.slots.size ≤ ((6 : Int32)).toNatClampNeg) := inb_of S62 ⟨by decide, by decide⟩
    have hat62 : cl62.slots[((6 : Int32)).toNatClampNeg]? = some (.ref w6) := Has.at H62 hin62 rfl
    refine go (X29.aaload hx (j := (6 : Int32)) (v := (.ref w6)) (by rw [e29]; exact Ar62.1) (State.isArrayOf_alike hZ.alike Ar62.2.1) rfl Ar62.2.2 hin62 hat62 (g := (mkF m 87 #[.val (.int p1), .val (.ref b1), .val (.int (6 : Int32)), .unset, .unset] [(.int (6 : Int32)), (.ref b1)])) rfl rfl (hb hby at_87)) ?_
    show Go p e below _ (T29.setTop (mkF m 88 #[.val (.int p1), .val (.ref b1), .val (.int (6 : Int32)), .unset, .unset] [(.ref w6)]))
    refine go (fun _ k => XS.astoreN X29.here hx rfl (hb hby at_88) rfl rfl (l' := #[.val (.int p1), .val (.ref b1), .val (.int (6 : Int32)), .val (.ref w6), .unset]) rfl k) ?_
    show Go p e below _ (T29.setTop (mkF m 89 #[.val (.int p1), .val (.ref b1), .val (.int (6 : Int32)), .val (.ref w6), .unset] []))
    refine go (fun _ k => XS.iloadN X29.here hx rfl (hb hby at_89) rfl  k) ?_
    show Go p e below _ (T29.setTop (mkF m 90 #[.val (.int p1), .val (.ref b1), .val (.int (6 : Int32)), .val (.ref w6), .unset] [(.int (6 : Int32))]))
    have K64 : Keep h0 h29 [] := (((((((((((((Keep.refl h0 []).ext E1).wr W3 (Or.inr sz_b1)).wr W5 (Or.inr sz_b1)).wr W7 (Or.inr sz_b1)).wr W9 (Or.inr sz_b1)).wr W12 (Or.inr sz_b1)).wr W14 (Or.inr sz_b1)).wr W16 (Or.inr sz_b1)).wr W19 (Or.inr sz_b1)).wr W22 (Or.inr sz_b1)).wr W26 (Or.inr sz_b1)).wr W29 (Or.inr sz_b1))
    obtain ⟨_, _, ⟨T63, L63, k63, n63⟩, -, X63, ⟨Lc63, hQ63, l63, y63, z63⟩, st63⟩ := Jvm.LawKit.callS X29 hx (y := (⟨"manyworlds/service/KeywordIsInputPinLaw", "expectedInput", "(I)Z"⟩ : MethodName)) hown (mvT hZ (hw _ (List.mem_of_getElem? (i := 27) rfl))) (mvT hZ (hw _ (List.mem_of_getElem? (i := 28) rfl))) (mvT hZ (hw _ (List.mem_of_getElem? (i := 29) rfl))) (mvT hZ (hw _ (List.mem_of_getElem? (i := 30) rfl))) (by decide) (backOf (W := 0) (rm1 l Z a0 hw [] (6 : Int32) h29 n0 (Nat.le_trans Z0 K64.1) ) hZ (hw _ (List.mem_of_getElem? (i := 30) rfl)) (hw _ (List.mem_of_getElem? (i := 29) rfl)) (by decide) (by decide)) (g := (mkF m 90 #[.val (.int p1), .val (.ref b1), .val (.int (6 : Int32)), .val (.ref w6), .unset] [(.int (6 : Int32))])) rfl (by rw [hml]; rfl) (argsL := [(.int (6 : Int32))]) (rest := []) (lenOf pd_0 rfl) rfl (by show 2 * 0 + _ ≤ _; exact Nat.le_of_eq rfl) (hb hby at_90) (fun _ _ => ⟨rfl, e29, (by decide : 1 + 0 ≤ _), (by decide : 11 + 0 ≤ _)⟩)
    dsimp only [Pt.U, Pt.locs, Pt.cells, Pt.slots] at X63 l63 y63 z63 st63 hQ63
    subst l63 y63 z63
    obtain ⟨rfl, N63q, e63⟩ := hQ63
    have N63 := Fr.app N29 N63q
    skip
    refine go st63 ?_
    show Go p e below _ (T63.setTop (mkF m 93 #[.val (.int p1), .val (.ref b1), .val (.int (6 : Int32)), .val (.ref w6), .unset] [(.int (bz ((6 : Int32) = (2 : Int32) ∨ (6 : Int32) = (3 : Int32))))]))
    refine go (fun _ k => XS.istore X63.here hx rfl (hb hby at_93) rfl (l' := #[.val (.int p1), .val (.ref b1), .val (.int (6 : Int32)), .val (.ref w6), .val (.int (bz ((6 : Int32) = (2 : Int32) ∨ (6 : Int32) = (3 : Int32))))]) rfl k) ?_
    show Go p e below _ (T63.setTop (mkF m 95 #[.val (.int p1), .val (.ref b1), .val (.int (6 : Int32)), .val (.ref w6), .val (.int (bz ((6 : Int32) = (2 : Int32) ∨ (6 : Int32) = (3 : Int32))))] []))
    refine go (fun _ k => XS.aloadN X63.here hx rfl (hb hby at_95) rfl rfl  k) ?_
    show Go p e below _ (T63.setTop (mkF m 96 #[.val (.int p1), .val (.ref b1), .val (.int (6 : Int32)), .val (.ref w6), .val (.int (bz ((6 : Int32) = (2 : Int32) ∨ (6 : Int32) = (3 : Int32))))] [(.ref w6)]))
    obtain ⟨cq65, kq65, q65a, q65b, q65c⟩ := isOf hZ e63 (((((f17.wr W16).wr W19).wr W22).wr W26).wr W29)
    obtain ⟨_, _, ⟨T65, L65, k65, n65⟩, -, X65, ⟨Lc65, hQ65, l65, y65, z65⟩, st65⟩ := X63.virtualBack hx (y := (⟨"manyworlds/service/Keyword", "isInput", "()Z"⟩ : MethodName)) (z := (⟨"manyworlds/service/Keyword", "isInput", "()Z"⟩ : MethodName)) hown (mvT hZ (hw _ (List.mem_of_getElem? (i := 31) rfl))) (mvT hZ (hw _ (List.mem_of_getElem? (i := 32) rfl))) (notFace_of_selects (args := #[]) (mvT hZ (hw _ (List.mem_of_getElem? (i := 34) rfl)))) (mvT hZ (hw _ (List.mem_of_getElem? (i := 34) rfl))) (mvT hZ (hw _ (List.mem_of_getElem? (i := 33) rfl))) (by decide) (backOf (W := 0) (rm2 l Z a0 hw [] w6 w2 w3 h29 n0 (Nat.le_trans Z0 K64.1) ((f24.wr W26 g_b1).wr W29 g_b1) S_TRUE S_DOES) hZ (hw _ (List.mem_of_getElem? (i := 35) rfl)) (hw _ (List.mem_of_getElem? (i := 3) rfl)) (by decide) (by decide)) q65a q65c (g := (mkF m 96 #[.val (.int p1), .val (.ref b1), .val (.int (6 : Int32)), .val (.ref w6), .val (.int (bz ((6 : Int32) = (2 : Int32) ∨ (6 : Int32) = (3 : Int32))))] [(.ref w6)])) rfl (by rw [hml]; rfl) (Steps.refl _) (argsL := []) (rest := []) (lenOf pd_1 rfl) rfl (by show 2 * 0 + _ ≤ _; exact Nat.le_of_eq rfl) (hb hby at_96) (fun _ _ => ⟨rfl, e63, (by decide : 1 + 0 ≤ _), (by decide : 11 + 0 ≤ _)⟩)
    dsimp only [Pt.U, Pt.locs, Pt.cells, Pt.slots] at X65 l65 y65 z65 st65 hQ65
    subst l65 y65 z65
    obtain ⟨rfl, N65q, e65⟩ := hQ65
    have N65 := Fr.app N63 N65q
    skip
    refine go (fun _ k => st65.trans k) ?_
    show Go p e below _ (T65.setTop (mkF m 99 #[.val (.int p1), .val (.ref b1), .val (.int (6 : Int32)), .val (.ref w6), .val (.int (bz ((6 : Int32) = (2 : Int32) ∨ (6 : Int32) = (3 : Int32))))] [(.int (bz (own_inp w6 w2 w3)))]))
    refine go (fun _ k => XS.iload X65.here hx rfl (hb hby at_99) rfl  k) ?_
    show Go p e below _ (T65.setTop (mkF m 101 #[.val (.int p1), .val (.ref b1), .val (.int (6 : Int32)), .val (.ref w6), .val (.int (bz ((6 : Int32) = (2 : Int32) ∨ (6 : Int32) = (3 : Int32))))] [(.int (bz ((6 : Int32) = (2 : Int32) ∨ (6 : Int32) = (3 : Int32)))), (.int (bz (own_inp w6 w2 w3)))]))
    have hc101_7 : (bz (own_inp w6 w2 w3)) = (bz ((6 : Int32) = (2 : Int32) ∨ (6 : Int32) = (3 : Int32))) := by rw [bz_f (c := own_inp w6 w2 w3) (fun q => q.elim n6_2 n6_3)]; decide
    refine go (fun _ k => XS.icmpNo X65.here hx rfl (hb hby at_101) rfl (teq hc101_7).2 k) ?_
    show Go p e below _ (T65.setTop (mkF m 104 #[.val (.int p1), .val (.ref b1), .val (.int (6 : Int32)), .val (.ref w6), .val (.int (bz ((6 : Int32) = (2 : Int32) ∨ (6 : Int32) = (3 : Int32))))] []))
    refine go (fun _ k => XS.iconst X65.here hx rfl (hb hby at_104) k) ?_
    show Go p e below _ (T65.setTop (mkF m 105 #[.val (.int p1), .val (.ref b1), .val (.int (6 : Int32)), .val (.ref w6), .val (.int (bz ((6 : Int32) = (2 : Int32) ∨ (6 : Int32) = (3 : Int32))))] [(.int (1 : Int32))]))
    refine go (fun _ k => XS.goto X65.here hx rfl (pc0 := 105) (pc' := 109) rfl (hb hby at_105) (by decide) (by decide) k) ?_
    show Go p e below _ (T65.setTop (mkF m 109 #[.val (.int p1), .val (.ref b1), .val (.int (6 : Int32)), .val (.ref w6), .val (.int (bz ((6 : Int32) = (2 : Int32) ∨ (6 : Int32) = (3 : Int32))))] [(.int (1 : Int32))]))
    obtain ⟨fs, hr, hrun, hended, hW, hsame⟩ := X65.leave (v := some (.int (1 : Int32))) (fun h => by rw [Bd.returns] at h; cases h)
    refine leaf (T := T65) ⟨fs, retN X65 hx (t := .boolean) Bd.returns (by simp) (hb hby at_109) hr, hrun, hended, hW, hsame⟩ ?_ (by decide) (by decide)
    show Q0 Z p1 w0 w1 w2 w3 w4 w5 w6 w7 w8 w9 w10 h0 n0 _ T65.heap _
    rw [e65]
    exact ⟨rfl, N65⟩
  · skip
    rw [hk]
    show Go p e below _ (T29.setTop (mkF m 84 #[.val (.int p1), .val (.ref b1), .unset, .unset, .unset] [(.int (7 : Int32))]))
    refine go (fun _ k => XS.istoreN X29.here hx rfl (hb hby at_84) rfl (l' := #[.val (.int p1), .val (.ref b1), .val (.int (7 : Int32)), .unset, .unset]) rfl k) ?_
    show Go p e below _ (T29.setTop (mkF m 85 #[.val (.int p1), .val (.ref b1), .val (.int (7 : Int32)), .unset, .unset] []))
    refine go (fun _ k => XS.aloadN X29.here hx rfl (hb hby at_85) rfl rfl  k) ?_
    show Go p e below _ (T29.setTop (mkF m 86 #[.val (.int p1), .val (.ref b1), .val (.int (7 : Int32)), .unset, .unset] [(.ref b1)]))
    refine go (fun _ k => XS.iloadN X29.here hx rfl (hb hby at_86) rfl  k) ?_
    show Go p e below _ (T29.setTop (mkF m 87 #[.val (.int p1), .val (.ref b1), .val (.int (7 : Int32)), .unset, .unset] [(.int (7 : Int32)), (.ref b1)]))
    obtain ⟨cl66, Ar66, q66, S66, M66, H66, G66⟩ := V_b1_29
    have hin66 : ¬ ((7 : Int32) < 0 ∨ cl66.slots.size ≤ ((7 : Int32)).toNatClampNeg) := inb_of S66 ⟨by decide, by decide⟩
    have hat66 : cl66.slots[((7 : Int32)).toNatClampNeg]? = some (.ref w7) := Has.at H66 hin66 rfl
    refine go (X29.aaload hx (j := (7 : Int32)) (v := (.ref w7)) (by rw [e29]; exact Ar66.1) (State.isArrayOf_alike hZ.alike Ar66.2.1) rfl Ar66.2.2 hin66 hat66 (g := (mkF m 87 #[.val (.int p1), .val (.ref b1), .val (.int (7 : Int32)), .unset, .unset] [(.int (7 : Int32)), (.ref b1)])) rfl rfl (hb hby at_87)) ?_
    show Go p e below _ (T29.setTop (mkF m 88 #[.val (.int p1), .val (.ref b1), .val (.int (7 : Int32)), .unset, .unset] [(.ref w7)]))
    refine go (fun _ k => XS.astoreN X29.here hx rfl (hb hby at_88) rfl rfl (l' := #[.val (.int p1), .val (.ref b1), .val (.int (7 : Int32)), .val (.ref w7), .unset]) rfl k) ?_
    show Go p e below _ (T29.setTop (mkF m 89 #[.val (.int p1), .val (.ref b1), .val (.int (7 : Int32)), .val (.ref w7), .unset] []))
    refine go (fun _ k => XS.iloadN X29.here hx rfl (hb hby at_89) rfl  k) ?_
    show Go p e below _ (T29.setTop (mkF m 90 #[.val (.int p1), .val (.ref b1), .val (.int (7 : Int32)), .val (.ref w7), .unset] [(.int (7 : Int32))]))
    have K68 : Keep h0 h29 [] := (((((((((((((Keep.refl h0 []).ext E1).wr W3 (Or.inr sz_b1)).wr W5 (Or.inr sz_b1)).wr W7 (Or.inr sz_b1)).wr W9 (Or.inr sz_b1)).wr W12 (Or.inr sz_b1)).wr W14 (Or.inr sz_b1)).wr W16 (Or.inr sz_b1)).wr W19 (Or.inr sz_b1)).wr W22 (Or.inr sz_b1)).wr W26 (Or.inr sz_b1)).wr W29 (Or.inr sz_b1))
    obtain ⟨_, _, ⟨T67, L67, k67, n67⟩, -, X67, ⟨Lc67, hQ67, l67, y67, z67⟩, st67⟩ := Jvm.LawKit.callS X29 hx (y := (⟨"manyworlds/service/KeywordIsInputPinLaw", "expectedInput", "(I)Z"⟩ : MethodName)) hown (mvT hZ (hw _ (List.mem_of_getElem? (i := 27) rfl))) (mvT hZ (hw _ (List.mem_of_getElem? (i := 28) rfl))) (mvT hZ (hw _ (List.mem_of_getElem? (i := 29) rfl))) (mvT hZ (hw _ (List.mem_of_getElem? (i := 30) rfl))) (by decide) (backOf (W := 0) (rm1 l Z a0 hw [] (7 : Int32) h29 n0 (Nat.le_trans Z0 K68.1) ) hZ (hw _ (List.mem_of_getElem? (i := 30) rfl)) (hw _ (List.mem_of_getElem? (i := 29) rfl)) (by decide) (by decide)) (g := (mkF m 90 #[.val (.int p1), .val (.ref b1), .val (.int (7 : Int32)), .val (.ref w7), .unset] [(.int (7 : Int32))])) rfl (by rw [hml]; rfl) (argsL := [(.int (7 : Int32))]) (rest := []) (lenOf pd_0 rfl) rfl (by show 2 * 0 + _ ≤ _; exact Nat.le_of_eq rfl) (hb hby at_90) (fun _ _ => ⟨rfl, e29, (by decide : 1 + 0 ≤ _), (by decide : 11 + 0 ≤ _)⟩)
    dsimp only [Pt.U, Pt.locs, Pt.cells, Pt.slots] at X67 l67 y67 z67 st67 hQ67
    subst l67 y67 z67
    obtain ⟨rfl, N67q, e67⟩ := hQ67
    have N67 := Fr.app N29 N67q
    skip
    refine go st67 ?_
    show Go p e below _ (T67.setTop (mkF m 93 #[.val (.int p1), .val (.ref b1), .val (.int (7 : Int32)), .val (.ref w7), .unset] [(.int (bz ((7 : Int32) = (2 : Int32) ∨ (7 : Int32) = (3 : Int32))))]))
    refine go (fun _ k => XS.istore X67.here hx rfl (hb hby at_93) rfl (l' := #[.val (.int p1), .val (.ref b1), .val (.int (7 : Int32)), .val (.ref w7), .val (.int (bz ((7 : Int32) = (2 : Int32) ∨ (7 : Int32) = (3 : Int32))))]) rfl k) ?_
    show Go p e below _ (T67.setTop (mkF m 95 #[.val (.int p1), .val (.ref b1), .val (.int (7 : Int32)), .val (.ref w7), .val (.int (bz ((7 : Int32) = (2 : Int32) ∨ (7 : Int32) = (3 : Int32))))] []))
    refine go (fun _ k => XS.aloadN X67.here hx rfl (hb hby at_95) rfl rfl  k) ?_
    show Go p e below _ (T67.setTop (mkF m 96 #[.val (.int p1), .val (.ref b1), .val (.int (7 : Int32)), .val (.ref w7), .val (.int (bz ((7 : Int32) = (2 : Int32) ∨ (7 : Int32) = (3 : Int32))))] [(.ref w7)]))
    obtain ⟨cq69, kq69, q69a, q69b, q69c⟩ := isOf hZ e67 ((((f20.wr W19).wr W22).wr W26).wr W29)
    obtain ⟨_, _, ⟨T69, L69, k69, n69⟩, -, X69, ⟨Lc69, hQ69, l69, y69, z69⟩, st69⟩ := X67.virtualBack hx (y := (⟨"manyworlds/service/Keyword", "isInput", "()Z"⟩ : MethodName)) (z := (⟨"manyworlds/service/Keyword", "isInput", "()Z"⟩ : MethodName)) hown (mvT hZ (hw _ (List.mem_of_getElem? (i := 31) rfl))) (mvT hZ (hw _ (List.mem_of_getElem? (i := 32) rfl))) (notFace_of_selects (args := #[]) (mvT hZ (hw _ (List.mem_of_getElem? (i := 34) rfl)))) (mvT hZ (hw _ (List.mem_of_getElem? (i := 34) rfl))) (mvT hZ (hw _ (List.mem_of_getElem? (i := 33) rfl))) (by decide) (backOf (W := 0) (rm2 l Z a0 hw [] w7 w2 w3 h29 n0 (Nat.le_trans Z0 K68.1) ((f24.wr W26 g_b1).wr W29 g_b1) S_TRUE S_DOES) hZ (hw _ (List.mem_of_getElem? (i := 35) rfl)) (hw _ (List.mem_of_getElem? (i := 3) rfl)) (by decide) (by decide)) q69a q69c (g := (mkF m 96 #[.val (.int p1), .val (.ref b1), .val (.int (7 : Int32)), .val (.ref w7), .val (.int (bz ((7 : Int32) = (2 : Int32) ∨ (7 : Int32) = (3 : Int32))))] [(.ref w7)])) rfl (by rw [hml]; rfl) (Steps.refl _) (argsL := []) (rest := []) (lenOf pd_1 rfl) rfl (by show 2 * 0 + _ ≤ _; exact Nat.le_of_eq rfl) (hb hby at_96) (fun _ _ => ⟨rfl, e67, (by decide : 1 + 0 ≤ _), (by decide : 11 + 0 ≤ _)⟩)
    dsimp only [Pt.U, Pt.locs, Pt.cells, Pt.slots] at X69 l69 y69 z69 st69 hQ69
    subst l69 y69 z69
    obtain ⟨rfl, N69q, e69⟩ := hQ69
    have N69 := Fr.app N67 N69q
    skip
    refine go (fun _ k => st69.trans k) ?_
    show Go p e below _ (T69.setTop (mkF m 99 #[.val (.int p1), .val (.ref b1), .val (.int (7 : Int32)), .val (.ref w7), .val (.int (bz ((7 : Int32) = (2 : Int32) ∨ (7 : Int32) = (3 : Int32))))] [(.int (bz (own_inp w7 w2 w3)))]))
    refine go (fun _ k => XS.iload X69.here hx rfl (hb hby at_99) rfl  k) ?_
    show Go p e below _ (T69.setTop (mkF m 101 #[.val (.int p1), .val (.ref b1), .val (.int (7 : Int32)), .val (.ref w7), .val (.int (bz ((7 : Int32) = (2 : Int32) ∨ (7 : Int32) = (3 : Int32))))] [(.int (bz ((7 : Int32) = (2 : Int32) ∨ (7 : Int32) = (3 : Int32)))), (.int (bz (own_inp w7 w2 w3)))]))
    have hc101_8 : (bz (own_inp w7 w2 w3)) = (bz ((7 : Int32) = (2 : Int32) ∨ (7 : Int32) = (3 : Int32))) := by rw [bz_f (c := own_inp w7 w2 w3) (fun q => q.elim n7_2 n7_3)]; decide
    refine go (fun _ k => XS.icmpNo X69.here hx rfl (hb hby at_101) rfl (teq hc101_8).2 k) ?_
    show Go p e below _ (T69.setTop (mkF m 104 #[.val (.int p1), .val (.ref b1), .val (.int (7 : Int32)), .val (.ref w7), .val (.int (bz ((7 : Int32) = (2 : Int32) ∨ (7 : Int32) = (3 : Int32))))] []))
    refine go (fun _ k => XS.iconst X69.here hx rfl (hb hby at_104) k) ?_
    show Go p e below _ (T69.setTop (mkF m 105 #[.val (.int p1), .val (.ref b1), .val (.int (7 : Int32)), .val (.ref w7), .val (.int (bz ((7 : Int32) = (2 : Int32) ∨ (7 : Int32) = (3 : Int32))))] [(.int (1 : Int32))]))
    refine go (fun _ k => XS.goto X69.here hx rfl (pc0 := 105) (pc' := 109) rfl (hb hby at_105) (by decide) (by decide) k) ?_
    show Go p e below _ (T69.setTop (mkF m 109 #[.val (.int p1), .val (.ref b1), .val (.int (7 : Int32)), .val (.ref w7), .val (.int (bz ((7 : Int32) = (2 : Int32) ∨ (7 : Int32) = (3 : Int32))))] [(.int (1 : Int32))]))
    obtain ⟨fs, hr, hrun, hended, hW, hsame⟩ := X69.leave (v := some (.int (1 : Int32))) (fun h => by rw [Bd.returns] at h; cases h)
    refine leaf (T := T69) ⟨fs, retN X69 hx (t := .boolean) Bd.returns (by simp) (hb hby at_109) hr, hrun, hended, hW, hsame⟩ ?_ (by decide) (by decide)
    show Q0 Z p1 w0 w1 w2 w3 w4 w5 w6 w7 w8 w9 w10 h0 n0 _ T69.heap _
    rw [e69]
    exact ⟨rfl, N69⟩
  · skip
    rw [hk]
    show Go p e below _ (T29.setTop (mkF m 84 #[.val (.int p1), .val (.ref b1), .unset, .unset, .unset] [(.int (8 : Int32))]))
    refine go (fun _ k => XS.istoreN X29.here hx rfl (hb hby at_84) rfl (l' := #[.val (.int p1), .val (.ref b1), .val (.int (8 : Int32)), .unset, .unset]) rfl k) ?_
    show Go p e below _ (T29.setTop (mkF m 85 #[.val (.int p1), .val (.ref b1), .val (.int (8 : Int32)), .unset, .unset] []))
    refine go (fun _ k => XS.aloadN X29.here hx rfl (hb hby at_85) rfl rfl  k) ?_
    show Go p e below _ (T29.setTop (mkF m 86 #[.val (.int p1), .val (.ref b1), .val (.int (8 : Int32)), .unset, .unset] [(.ref b1)]))
    refine go (fun _ k => XS.iloadN X29.here hx rfl (hb hby at_86) rfl  k) ?_
    show Go p e below _ (T29.setTop (mkF m 87 #[.val (.int p1), .val (.ref b1), .val (.int (8 : Int32)), .unset, .unset] [(.int (8 : Int32)), (.ref b1)]))
    obtain ⟨cl70, Ar70, q70, S70, M70, H70, G70⟩ := V_b1_29
    have hin70 : ¬ ((8 : Int32) < 0 ∨ cl70.slots.size ≤ ((8 : Int32)).toNatClampNeg) := inb_of S70 ⟨by decide, by decide⟩
    have hat70 : cl70.slots[((8 : Int32)).toNatClampNeg]? = some (.ref w8) := Has.at H70 hin70 rfl
    refine go (X29.aaload hx (j := (8 : Int32)) (v := (.ref w8)) (by rw [e29]; exact Ar70.1) (State.isArrayOf_alike hZ.alike Ar70.2.1) rfl Ar70.2.2 hin70 hat70 (g := (mkF m 87 #[.val (.int p1), .val (.ref b1), .val (.int (8 : Int32)), .unset, .unset] [(.int (8 : Int32)), (.ref b1)])) rfl rfl (hb hby at_87)) ?_
    show Go p e below _ (T29.setTop (mkF m 88 #[.val (.int p1), .val (.ref b1), .val (.int (8 : Int32)), .unset, .unset] [(.ref w8)]))
    refine go (fun _ k => XS.astoreN X29.here hx rfl (hb hby at_88) rfl rfl (l' := #[.val (.int p1), .val (.ref b1), .val (.int (8 : Int32)), .val (.ref w8), .unset]) rfl k) ?_
    show Go p e below _ (T29.setTop (mkF m 89 #[.val (.int p1), .val (.ref b1), .val (.int (8 : Int32)), .val (.ref w8), .unset] []))
    refine go (fun _ k => XS.iloadN X29.here hx rfl (hb hby at_89) rfl  k) ?_
    show Go p e below _ (T29.setTop (mkF m 90 #[.val (.int p1), .val (.ref b1), .val (.int (8 : Int32)), .val (.ref w8), .unset] [(.int (8 : Int32))]))
    have K72 : Keep h0 h29 [] := (((((((((((((Keep.refl h0 []).ext E1).wr W3 (Or.inr sz_b1)).wr W5 (Or.inr sz_b1)).wr W7 (Or.inr sz_b1)).wr W9 (Or.inr sz_b1)).wr W12 (Or.inr sz_b1)).wr W14 (Or.inr sz_b1)).wr W16 (Or.inr sz_b1)).wr W19 (Or.inr sz_b1)).wr W22 (Or.inr sz_b1)).wr W26 (Or.inr sz_b1)).wr W29 (Or.inr sz_b1))
    obtain ⟨_, _, ⟨T71, L71, k71, n71⟩, -, X71, ⟨Lc71, hQ71, l71, y71, z71⟩, st71⟩ := Jvm.LawKit.callS X29 hx (y := (⟨"manyworlds/service/KeywordIsInputPinLaw", "expectedInput", "(I)Z"⟩ : MethodName)) hown (mvT hZ (hw _ (List.mem_of_getElem? (i := 27) rfl))) (mvT hZ (hw _ (List.mem_of_getElem? (i := 28) rfl))) (mvT hZ (hw _ (List.mem_of_getElem? (i := 29) rfl))) (mvT hZ (hw _ (List.mem_of_getElem? (i := 30) rfl))) (by decide) (backOf (W := 0) (rm1 l Z a0 hw [] (8 : Int32) h29 n0 (Nat.le_trans Z0 K72.1) ) hZ (hw _ (List.mem_of_getElem? (i := 30) rfl)) (hw _ (List.mem_of_getElem? (i := 29) rfl)) (by decide) (by decide)) (g := (mkF m 90 #[.val (.int p1), .val (.ref b1), .val (.int (8 : Int32)), .val (.ref w8), .unset] [(.int (8 : Int32))])) rfl (by rw [hml]; rfl) (argsL := [(.int (8 : Int32))]) (rest := []) (lenOf pd_0 rfl) rfl (by show 2 * 0 + _ ≤ _; exact Nat.le_of_eq rfl) (hb hby at_90) (fun _ _ => ⟨rfl, e29, (by decide : 1 + 0 ≤ _), (by decide : 11 + 0 ≤ _)⟩)
    dsimp only [Pt.U, Pt.locs, Pt.cells, Pt.slots] at X71 l71 y71 z71 st71 hQ71
    subst l71 y71 z71
    obtain ⟨rfl, N71q, e71⟩ := hQ71
    have N71 := Fr.app N29 N71q
    skip
    refine go st71 ?_
    show Go p e below _ (T71.setTop (mkF m 93 #[.val (.int p1), .val (.ref b1), .val (.int (8 : Int32)), .val (.ref w8), .unset] [(.int (bz ((8 : Int32) = (2 : Int32) ∨ (8 : Int32) = (3 : Int32))))]))
    refine go (fun _ k => XS.istore X71.here hx rfl (hb hby at_93) rfl (l' := #[.val (.int p1), .val (.ref b1), .val (.int (8 : Int32)), .val (.ref w8), .val (.int (bz ((8 : Int32) = (2 : Int32) ∨ (8 : Int32) = (3 : Int32))))]) rfl k) ?_
    show Go p e below _ (T71.setTop (mkF m 95 #[.val (.int p1), .val (.ref b1), .val (.int (8 : Int32)), .val (.ref w8), .val (.int (bz ((8 : Int32) = (2 : Int32) ∨ (8 : Int32) = (3 : Int32))))] []))
    refine go (fun _ k => XS.aloadN X71.here hx rfl (hb hby at_95) rfl rfl  k) ?_
    show Go p e below _ (T71.setTop (mkF m 96 #[.val (.int p1), .val (.ref b1), .val (.int (8 : Int32)), .val (.ref w8), .val (.int (bz ((8 : Int32) = (2 : Int32) ∨ (8 : Int32) = (3 : Int32))))] [(.ref w8)]))
    obtain ⟨cq73, kq73, q73a, q73b, q73c⟩ := isOf hZ e71 (((f23.wr W22).wr W26).wr W29)
    obtain ⟨_, _, ⟨T73, L73, k73, n73⟩, -, X73, ⟨Lc73, hQ73, l73, y73, z73⟩, st73⟩ := X71.virtualBack hx (y := (⟨"manyworlds/service/Keyword", "isInput", "()Z"⟩ : MethodName)) (z := (⟨"manyworlds/service/Keyword", "isInput", "()Z"⟩ : MethodName)) hown (mvT hZ (hw _ (List.mem_of_getElem? (i := 31) rfl))) (mvT hZ (hw _ (List.mem_of_getElem? (i := 32) rfl))) (notFace_of_selects (args := #[]) (mvT hZ (hw _ (List.mem_of_getElem? (i := 34) rfl)))) (mvT hZ (hw _ (List.mem_of_getElem? (i := 34) rfl))) (mvT hZ (hw _ (List.mem_of_getElem? (i := 33) rfl))) (by decide) (backOf (W := 0) (rm2 l Z a0 hw [] w8 w2 w3 h29 n0 (Nat.le_trans Z0 K72.1) ((f24.wr W26 g_b1).wr W29 g_b1) S_TRUE S_DOES) hZ (hw _ (List.mem_of_getElem? (i := 35) rfl)) (hw _ (List.mem_of_getElem? (i := 3) rfl)) (by decide) (by decide)) q73a q73c (g := (mkF m 96 #[.val (.int p1), .val (.ref b1), .val (.int (8 : Int32)), .val (.ref w8), .val (.int (bz ((8 : Int32) = (2 : Int32) ∨ (8 : Int32) = (3 : Int32))))] [(.ref w8)])) rfl (by rw [hml]; rfl) (Steps.refl _) (argsL := []) (rest := []) (lenOf pd_1 rfl) rfl (by show 2 * 0 + _ ≤ _; exact Nat.le_of_eq rfl) (hb hby at_96) (fun _ _ => ⟨rfl, e71, (by decide : 1 + 0 ≤ _), (by decide : 11 + 0 ≤ _)⟩)
    dsimp only [Pt.U, Pt.locs, Pt.cells, Pt.slots] at X73 l73 y73 z73 st73 hQ73
    subst l73 y73 z73
    obtain ⟨rfl, N73q, e73⟩ := hQ73
    have N73 := Fr.app N71 N73q
    skip
    refine go (fun _ k => st73.trans k) ?_
    show Go p e below _ (T73.setTop (mkF m 99 #[.val (.int p1), .val (.ref b1), .val (.int (8 : Int32)), .val (.ref w8), .val (.int (bz ((8 : Int32) = (2 : Int32) ∨ (8 : Int32) = (3 : Int32))))] [(.int (bz (own_inp w8 w2 w3)))]))
    refine go (fun _ k => XS.iload X73.here hx rfl (hb hby at_99) rfl  k) ?_
    show Go p e below _ (T73.setTop (mkF m 101 #[.val (.int p1), .val (.ref b1), .val (.int (8 : Int32)), .val (.ref w8), .val (.int (bz ((8 : Int32) = (2 : Int32) ∨ (8 : Int32) = (3 : Int32))))] [(.int (bz ((8 : Int32) = (2 : Int32) ∨ (8 : Int32) = (3 : Int32)))), (.int (bz (own_inp w8 w2 w3)))]))
    have hc101_9 : (bz (own_inp w8 w2 w3)) = (bz ((8 : Int32) = (2 : Int32) ∨ (8 : Int32) = (3 : Int32))) := by rw [bz_f (c := own_inp w8 w2 w3) (fun q => q.elim n8_2 n8_3)]; decide
    refine go (fun _ k => XS.icmpNo X73.here hx rfl (hb hby at_101) rfl (teq hc101_9).2 k) ?_
    show Go p e below _ (T73.setTop (mkF m 104 #[.val (.int p1), .val (.ref b1), .val (.int (8 : Int32)), .val (.ref w8), .val (.int (bz ((8 : Int32) = (2 : Int32) ∨ (8 : Int32) = (3 : Int32))))] []))
    refine go (fun _ k => XS.iconst X73.here hx rfl (hb hby at_104) k) ?_
    show Go p e below _ (T73.setTop (mkF m 105 #[.val (.int p1), .val (.ref b1), .val (.int (8 : Int32)), .val (.ref w8), .val (.int (bz ((8 : Int32) = (2 : Int32) ∨ (8 : Int32) = (3 : Int32))))] [(.int (1 : Int32))]))
    refine go (fun _ k => XS.goto X73.here hx rfl (pc0 := 105) (pc' := 109) rfl (hb hby at_105) (by decide) (by decide) k) ?_
    show Go p e below _ (T73.setTop (mkF m 109 #[.val (.int p1), .val (.ref b1), .val (.int (8 : Int32)), .val (.ref w8), .val (.int (bz ((8 : Int32) = (2 : Int32) ∨ (8 : Int32) = (3 : Int32))))] [(.int (1 : Int32))]))
    obtain ⟨fs, hr, hrun, hended, hW, hsame⟩ := X73.leave (v := some (.int (1 : Int32))) (fun h => by rw [Bd.returns] at h; cases h)
    refine leaf (T := T73) ⟨fs, retN X73 hx (t := .boolean) Bd.returns (by simp) (hb hby at_109) hr, hrun, hended, hW, hsame⟩ ?_ (by decide) (by decide)
    show Q0 Z p1 w0 w1 w2 w3 w4 w5 w6 w7 w8 w9 w10 h0 n0 _ T73.heap _
    rw [e73]
    exact ⟨rfl, N73⟩
  · skip
    rw [hk]
    show Go p e below _ (T29.setTop (mkF m 84 #[.val (.int p1), .val (.ref b1), .unset, .unset, .unset] [(.int (9 : Int32))]))
    refine go (fun _ k => XS.istoreN X29.here hx rfl (hb hby at_84) rfl (l' := #[.val (.int p1), .val (.ref b1), .val (.int (9 : Int32)), .unset, .unset]) rfl k) ?_
    show Go p e below _ (T29.setTop (mkF m 85 #[.val (.int p1), .val (.ref b1), .val (.int (9 : Int32)), .unset, .unset] []))
    refine go (fun _ k => XS.aloadN X29.here hx rfl (hb hby at_85) rfl rfl  k) ?_
    show Go p e below _ (T29.setTop (mkF m 86 #[.val (.int p1), .val (.ref b1), .val (.int (9 : Int32)), .unset, .unset] [(.ref b1)]))
    refine go (fun _ k => XS.iloadN X29.here hx rfl (hb hby at_86) rfl  k) ?_
    show Go p e below _ (T29.setTop (mkF m 87 #[.val (.int p1), .val (.ref b1), .val (.int (9 : Int32)), .unset, .unset] [(.int (9 : Int32)), (.ref b1)]))
    obtain ⟨cl74, Ar74, q74, S74, M74, H74, G74⟩ := V_b1_29
    have hin74 : ¬ ((9 : Int32) < 0 ∨ cl74.slots.size ≤ ((9 : Int32)).toNatClampNeg) := inb_of S74 ⟨by decide, by decide⟩
    have hat74 : cl74.slots[((9 : Int32)).toNatClampNeg]? = some (.ref w9) := Has.at H74 hin74 rfl
    refine go (X29.aaload hx (j := (9 : Int32)) (v := (.ref w9)) (by rw [e29]; exact Ar74.1) (State.isArrayOf_alike hZ.alike Ar74.2.1) rfl Ar74.2.2 hin74 hat74 (g := (mkF m 87 #[.val (.int p1), .val (.ref b1), .val (.int (9 : Int32)), .unset, .unset] [(.int (9 : Int32)), (.ref b1)])) rfl rfl (hb hby at_87)) ?_
    show Go p e below _ (T29.setTop (mkF m 88 #[.val (.int p1), .val (.ref b1), .val (.int (9 : Int32)), .unset, .unset] [(.ref w9)]))
    refine go (fun _ k => XS.astoreN X29.here hx rfl (hb hby at_88) rfl rfl (l' := #[.val (.int p1), .val (.ref b1), .val (.int (9 : Int32)), .val (.ref w9), .unset]) rfl k) ?_
    show Go p e below _ (T29.setTop (mkF m 89 #[.val (.int p1), .val (.ref b1), .val (.int (9 : Int32)), .val (.ref w9), .unset] []))
    refine go (fun _ k => XS.iloadN X29.here hx rfl (hb hby at_89) rfl  k) ?_
    show Go p e below _ (T29.setTop (mkF m 90 #[.val (.int p1), .val (.ref b1), .val (.int (9 : Int32)), .val (.ref w9), .unset] [(.int (9 : Int32))]))
    have K76 : Keep h0 h29 [] := (((((((((((((Keep.refl h0 []).ext E1).wr W3 (Or.inr sz_b1)).wr W5 (Or.inr sz_b1)).wr W7 (Or.inr sz_b1)).wr W9 (Or.inr sz_b1)).wr W12 (Or.inr sz_b1)).wr W14 (Or.inr sz_b1)).wr W16 (Or.inr sz_b1)).wr W19 (Or.inr sz_b1)).wr W22 (Or.inr sz_b1)).wr W26 (Or.inr sz_b1)).wr W29 (Or.inr sz_b1))
    obtain ⟨_, _, ⟨T75, L75, k75, n75⟩, -, X75, ⟨Lc75, hQ75, l75, y75, z75⟩, st75⟩ := Jvm.LawKit.callS X29 hx (y := (⟨"manyworlds/service/KeywordIsInputPinLaw", "expectedInput", "(I)Z"⟩ : MethodName)) hown (mvT hZ (hw _ (List.mem_of_getElem? (i := 27) rfl))) (mvT hZ (hw _ (List.mem_of_getElem? (i := 28) rfl))) (mvT hZ (hw _ (List.mem_of_getElem? (i := 29) rfl))) (mvT hZ (hw _ (List.mem_of_getElem? (i := 30) rfl))) (by decide) (backOf (W := 0) (rm1 l Z a0 hw [] (9 : Int32) h29 n0 (Nat.le_trans Z0 K76.1) ) hZ (hw _ (List.mem_of_getElem? (i := 30) rfl)) (hw _ (List.mem_of_getElem? (i := 29) rfl)) (by decide) (by decide)) (g := (mkF m 90 #[.val (.int p1), .val (.ref b1), .val (.int (9 : Int32)), .val (.ref w9), .unset] [(.int (9 : Int32))])) rfl (by rw [hml]; rfl) (argsL := [(.int (9 : Int32))]) (rest := []) (lenOf pd_0 rfl) rfl (by show 2 * 0 + _ ≤ _; exact Nat.le_of_eq rfl) (hb hby at_90) (fun _ _ => ⟨rfl, e29, (by decide : 1 + 0 ≤ _), (by decide : 11 + 0 ≤ _)⟩)
    dsimp only [Pt.U, Pt.locs, Pt.cells, Pt.slots] at X75 l75 y75 z75 st75 hQ75
    subst l75 y75 z75
    obtain ⟨rfl, N75q, e75⟩ := hQ75
    have N75 := Fr.app N29 N75q
    skip
    refine go st75 ?_
    show Go p e below _ (T75.setTop (mkF m 93 #[.val (.int p1), .val (.ref b1), .val (.int (9 : Int32)), .val (.ref w9), .unset] [(.int (bz ((9 : Int32) = (2 : Int32) ∨ (9 : Int32) = (3 : Int32))))]))
    refine go (fun _ k => XS.istore X75.here hx rfl (hb hby at_93) rfl (l' := #[.val (.int p1), .val (.ref b1), .val (.int (9 : Int32)), .val (.ref w9), .val (.int (bz ((9 : Int32) = (2 : Int32) ∨ (9 : Int32) = (3 : Int32))))]) rfl k) ?_
    show Go p e below _ (T75.setTop (mkF m 95 #[.val (.int p1), .val (.ref b1), .val (.int (9 : Int32)), .val (.ref w9), .val (.int (bz ((9 : Int32) = (2 : Int32) ∨ (9 : Int32) = (3 : Int32))))] []))
    refine go (fun _ k => XS.aloadN X75.here hx rfl (hb hby at_95) rfl rfl  k) ?_
    show Go p e below _ (T75.setTop (mkF m 96 #[.val (.int p1), .val (.ref b1), .val (.int (9 : Int32)), .val (.ref w9), .val (.int (bz ((9 : Int32) = (2 : Int32) ∨ (9 : Int32) = (3 : Int32))))] [(.ref w9)]))
    obtain ⟨cq77, kq77, q77a, q77b, q77c⟩ := isOf hZ e75 ((f27.wr W26).wr W29)
    obtain ⟨_, _, ⟨T77, L77, k77, n77⟩, -, X77, ⟨Lc77, hQ77, l77, y77, z77⟩, st77⟩ := X75.virtualBack hx (y := (⟨"manyworlds/service/Keyword", "isInput", "()Z"⟩ : MethodName)) (z := (⟨"manyworlds/service/Keyword", "isInput", "()Z"⟩ : MethodName)) hown (mvT hZ (hw _ (List.mem_of_getElem? (i := 31) rfl))) (mvT hZ (hw _ (List.mem_of_getElem? (i := 32) rfl))) (notFace_of_selects (args := #[]) (mvT hZ (hw _ (List.mem_of_getElem? (i := 34) rfl)))) (mvT hZ (hw _ (List.mem_of_getElem? (i := 34) rfl))) (mvT hZ (hw _ (List.mem_of_getElem? (i := 33) rfl))) (by decide) (backOf (W := 0) (rm2 l Z a0 hw [] w9 w2 w3 h29 n0 (Nat.le_trans Z0 K76.1) ((f24.wr W26 g_b1).wr W29 g_b1) S_TRUE S_DOES) hZ (hw _ (List.mem_of_getElem? (i := 35) rfl)) (hw _ (List.mem_of_getElem? (i := 3) rfl)) (by decide) (by decide)) q77a q77c (g := (mkF m 96 #[.val (.int p1), .val (.ref b1), .val (.int (9 : Int32)), .val (.ref w9), .val (.int (bz ((9 : Int32) = (2 : Int32) ∨ (9 : Int32) = (3 : Int32))))] [(.ref w9)])) rfl (by rw [hml]; rfl) (Steps.refl _) (argsL := []) (rest := []) (lenOf pd_1 rfl) rfl (by show 2 * 0 + _ ≤ _; exact Nat.le_of_eq rfl) (hb hby at_96) (fun _ _ => ⟨rfl, e75, (by decide : 1 + 0 ≤ _), (by decide : 11 + 0 ≤ _)⟩)
    dsimp only [Pt.U, Pt.locs, Pt.cells, Pt.slots] at X77 l77 y77 z77 st77 hQ77
    subst l77 y77 z77
    obtain ⟨rfl, N77q, e77⟩ := hQ77
    have N77 := Fr.app N75 N77q
    skip
    refine go (fun _ k => st77.trans k) ?_
    show Go p e below _ (T77.setTop (mkF m 99 #[.val (.int p1), .val (.ref b1), .val (.int (9 : Int32)), .val (.ref w9), .val (.int (bz ((9 : Int32) = (2 : Int32) ∨ (9 : Int32) = (3 : Int32))))] [(.int (bz (own_inp w9 w2 w3)))]))
    refine go (fun _ k => XS.iload X77.here hx rfl (hb hby at_99) rfl  k) ?_
    show Go p e below _ (T77.setTop (mkF m 101 #[.val (.int p1), .val (.ref b1), .val (.int (9 : Int32)), .val (.ref w9), .val (.int (bz ((9 : Int32) = (2 : Int32) ∨ (9 : Int32) = (3 : Int32))))] [(.int (bz ((9 : Int32) = (2 : Int32) ∨ (9 : Int32) = (3 : Int32)))), (.int (bz (own_inp w9 w2 w3)))]))
    have hc101_10 : (bz (own_inp w9 w2 w3)) = (bz ((9 : Int32) = (2 : Int32) ∨ (9 : Int32) = (3 : Int32))) := by rw [bz_f (c := own_inp w9 w2 w3) (fun q => q.elim n9_2 n9_3)]; decide
    refine go (fun _ k => XS.icmpNo X77.here hx rfl (hb hby at_101) rfl (teq hc101_10).2 k) ?_
    show Go p e below _ (T77.setTop (mkF m 104 #[.val (.int p1), .val (.ref b1), .val (.int (9 : Int32)), .val (.ref w9), .val (.int (bz ((9 : Int32) = (2 : Int32) ∨ (9 : Int32) = (3 : Int32))))] []))
    refine go (fun _ k => XS.iconst X77.here hx rfl (hb hby at_104) k) ?_
    show Go p e below _ (T77.setTop (mkF m 105 #[.val (.int p1), .val (.ref b1), .val (.int (9 : Int32)), .val (.ref w9), .val (.int (bz ((9 : Int32) = (2 : Int32) ∨ (9 : Int32) = (3 : Int32))))] [(.int (1 : Int32))]))
    refine go (fun _ k => XS.goto X77.here hx rfl (pc0 := 105) (pc' := 109) rfl (hb hby at_105) (by decide) (by decide) k) ?_
    show Go p e below _ (T77.setTop (mkF m 109 #[.val (.int p1), .val (.ref b1), .val (.int (9 : Int32)), .val (.ref w9), .val (.int (bz ((9 : Int32) = (2 : Int32) ∨ (9 : Int32) = (3 : Int32))))] [(.int (1 : Int32))]))
    obtain ⟨fs, hr, hrun, hended, hW, hsame⟩ := X77.leave (v := some (.int (1 : Int32))) (fun h => by rw [Bd.returns] at h; cases h)
    refine leaf (T := T77) ⟨fs, retN X77 hx (t := .boolean) Bd.returns (by simp) (hb hby at_109) hr, hrun, hended, hW, hsame⟩ ?_ (by decide) (by decide)
    show Q0 Z p1 w0 w1 w2 w3 w4 w5 w6 w7 w8 w9 w10 h0 n0 _ T77.heap _
    rw [e77]
    exact ⟨rfl, N77⟩
  · skip
    rw [hk]
    show Go p e below _ (T29.setTop (mkF m 84 #[.val (.int p1), .val (.ref b1), .unset, .unset, .unset] [(.int (10 : Int32))]))
    refine go (fun _ k => XS.istoreN X29.here hx rfl (hb hby at_84) rfl (l' := #[.val (.int p1), .val (.ref b1), .val (.int (10 : Int32)), .unset, .unset]) rfl k) ?_
    show Go p e below _ (T29.setTop (mkF m 85 #[.val (.int p1), .val (.ref b1), .val (.int (10 : Int32)), .unset, .unset] []))
    refine go (fun _ k => XS.aloadN X29.here hx rfl (hb hby at_85) rfl rfl  k) ?_
    show Go p e below _ (T29.setTop (mkF m 86 #[.val (.int p1), .val (.ref b1), .val (.int (10 : Int32)), .unset, .unset] [(.ref b1)]))
    refine go (fun _ k => XS.iloadN X29.here hx rfl (hb hby at_86) rfl  k) ?_
    show Go p e below _ (T29.setTop (mkF m 87 #[.val (.int p1), .val (.ref b1), .val (.int (10 : Int32)), .unset, .unset] [(.int (10 : Int32)), (.ref b1)]))
    obtain ⟨cl78, Ar78, q78, S78, M78, H78, G78⟩ := V_b1_29
    have hin78 : ¬ ((10 : Int32) < 0 ∨ cl78.slots.size ≤ ((10 : Int32)).toNatClampNeg) := inb_of S78 ⟨by decide, by decide⟩
    have hat78 : cl78.slots[((10 : Int32)).toNatClampNeg]? = some (.ref w10) := Has.at H78 hin78 rfl
    refine go (X29.aaload hx (j := (10 : Int32)) (v := (.ref w10)) (by rw [e29]; exact Ar78.1) (State.isArrayOf_alike hZ.alike Ar78.2.1) rfl Ar78.2.2 hin78 hat78 (g := (mkF m 87 #[.val (.int p1), .val (.ref b1), .val (.int (10 : Int32)), .unset, .unset] [(.int (10 : Int32)), (.ref b1)])) rfl rfl (hb hby at_87)) ?_
    show Go p e below _ (T29.setTop (mkF m 88 #[.val (.int p1), .val (.ref b1), .val (.int (10 : Int32)), .unset, .unset] [(.ref w10)]))
    refine go (fun _ k => XS.astoreN X29.here hx rfl (hb hby at_88) rfl rfl (l' := #[.val (.int p1), .val (.ref b1), .val (.int (10 : Int32)), .val (.ref w10), .unset]) rfl k) ?_
    show Go p e below _ (T29.setTop (mkF m 89 #[.val (.int p1), .val (.ref b1), .val (.int (10 : Int32)), .val (.ref w10), .unset] []))
    refine go (fun _ k => XS.iloadN X29.here hx rfl (hb hby at_89) rfl  k) ?_
    show Go p e below _ (T29.setTop (mkF m 90 #[.val (.int p1), .val (.ref b1), .val (.int (10 : Int32)), .val (.ref w10), .unset] [(.int (10 : Int32))]))
    have K80 : Keep h0 h29 [] := (((((((((((((Keep.refl h0 []).ext E1).wr W3 (Or.inr sz_b1)).wr W5 (Or.inr sz_b1)).wr W7 (Or.inr sz_b1)).wr W9 (Or.inr sz_b1)).wr W12 (Or.inr sz_b1)).wr W14 (Or.inr sz_b1)).wr W16 (Or.inr sz_b1)).wr W19 (Or.inr sz_b1)).wr W22 (Or.inr sz_b1)).wr W26 (Or.inr sz_b1)).wr W29 (Or.inr sz_b1))
    obtain ⟨_, _, ⟨T79, L79, k79, n79⟩, -, X79, ⟨Lc79, hQ79, l79, y79, z79⟩, st79⟩ := Jvm.LawKit.callS X29 hx (y := (⟨"manyworlds/service/KeywordIsInputPinLaw", "expectedInput", "(I)Z"⟩ : MethodName)) hown (mvT hZ (hw _ (List.mem_of_getElem? (i := 27) rfl))) (mvT hZ (hw _ (List.mem_of_getElem? (i := 28) rfl))) (mvT hZ (hw _ (List.mem_of_getElem? (i := 29) rfl))) (mvT hZ (hw _ (List.mem_of_getElem? (i := 30) rfl))) (by decide) (backOf (W := 0) (rm1 l Z a0 hw [] (10 : Int32) h29 n0 (Nat.le_trans Z0 K80.1) ) hZ (hw _ (List.mem_of_getElem? (i := 30) rfl)) (hw _ (List.mem_of_getElem? (i := 29) rfl)) (by decide) (by decide)) (g := (mkF m 90 #[.val (.int p1), .val (.ref b1), .val (.int (10 : Int32)), .val (.ref w10), .unset] [(.int (10 : Int32))])) rfl (by rw [hml]; rfl) (argsL := [(.int (10 : Int32))]) (rest := []) (lenOf pd_0 rfl) rfl (by show 2 * 0 + _ ≤ _; exact Nat.le_of_eq rfl) (hb hby at_90) (fun _ _ => ⟨rfl, e29, (by decide : 1 + 0 ≤ _), (by decide : 11 + 0 ≤ _)⟩)
    dsimp only [Pt.U, Pt.locs, Pt.cells, Pt.slots] at X79 l79 y79 z79 st79 hQ79
    subst l79 y79 z79
    obtain ⟨rfl, N79q, e79⟩ := hQ79
    have N79 := Fr.app N29 N79q
    skip
    refine go st79 ?_
    show Go p e below _ (T79.setTop (mkF m 93 #[.val (.int p1), .val (.ref b1), .val (.int (10 : Int32)), .val (.ref w10), .unset] [(.int (bz ((10 : Int32) = (2 : Int32) ∨ (10 : Int32) = (3 : Int32))))]))
    refine go (fun _ k => XS.istore X79.here hx rfl (hb hby at_93) rfl (l' := #[.val (.int p1), .val (.ref b1), .val (.int (10 : Int32)), .val (.ref w10), .val (.int (bz ((10 : Int32) = (2 : Int32) ∨ (10 : Int32) = (3 : Int32))))]) rfl k) ?_
    show Go p e below _ (T79.setTop (mkF m 95 #[.val (.int p1), .val (.ref b1), .val (.int (10 : Int32)), .val (.ref w10), .val (.int (bz ((10 : Int32) = (2 : Int32) ∨ (10 : Int32) = (3 : Int32))))] []))
    refine go (fun _ k => XS.aloadN X79.here hx rfl (hb hby at_95) rfl rfl  k) ?_
    show Go p e below _ (T79.setTop (mkF m 96 #[.val (.int p1), .val (.ref b1), .val (.int (10 : Int32)), .val (.ref w10), .val (.int (bz ((10 : Int32) = (2 : Int32) ∨ (10 : Int32) = (3 : Int32))))] [(.ref w10)]))
    obtain ⟨cq81, kq81, q81a, q81b, q81c⟩ := isOf hZ e79 (f30.wr W29)
    obtain ⟨_, _, ⟨T81, L81, k81, n81⟩, -, X81, ⟨Lc81, hQ81, l81, y81, z81⟩, st81⟩ := X79.virtualBack hx (y := (⟨"manyworlds/service/Keyword", "isInput", "()Z"⟩ : MethodName)) (z := (⟨"manyworlds/service/Keyword", "isInput", "()Z"⟩ : MethodName)) hown (mvT hZ (hw _ (List.mem_of_getElem? (i := 31) rfl))) (mvT hZ (hw _ (List.mem_of_getElem? (i := 32) rfl))) (notFace_of_selects (args := #[]) (mvT hZ (hw _ (List.mem_of_getElem? (i := 34) rfl)))) (mvT hZ (hw _ (List.mem_of_getElem? (i := 34) rfl))) (mvT hZ (hw _ (List.mem_of_getElem? (i := 33) rfl))) (by decide) (backOf (W := 0) (rm2 l Z a0 hw [] w10 w2 w3 h29 n0 (Nat.le_trans Z0 K80.1) ((f24.wr W26 g_b1).wr W29 g_b1) S_TRUE S_DOES) hZ (hw _ (List.mem_of_getElem? (i := 35) rfl)) (hw _ (List.mem_of_getElem? (i := 3) rfl)) (by decide) (by decide)) q81a q81c (g := (mkF m 96 #[.val (.int p1), .val (.ref b1), .val (.int (10 : Int32)), .val (.ref w10), .val (.int (bz ((10 : Int32) = (2 : Int32) ∨ (10 : Int32) = (3 : Int32))))] [(.ref w10)])) rfl (by rw [hml]; rfl) (Steps.refl _) (argsL := []) (rest := []) (lenOf pd_1 rfl) rfl (by show 2 * 0 + _ ≤ _; exact Nat.le_of_eq rfl) (hb hby at_96) (fun _ _ => ⟨rfl, e79, (by decide : 1 + 0 ≤ _), (by decide : 11 + 0 ≤ _)⟩)
    dsimp only [Pt.U, Pt.locs, Pt.cells, Pt.slots] at X81 l81 y81 z81 st81 hQ81
    subst l81 y81 z81
    obtain ⟨rfl, N81q, e81⟩ := hQ81
    have N81 := Fr.app N79 N81q
    skip
    refine go (fun _ k => st81.trans k) ?_
    show Go p e below _ (T81.setTop (mkF m 99 #[.val (.int p1), .val (.ref b1), .val (.int (10 : Int32)), .val (.ref w10), .val (.int (bz ((10 : Int32) = (2 : Int32) ∨ (10 : Int32) = (3 : Int32))))] [(.int (bz (own_inp w10 w2 w3)))]))
    refine go (fun _ k => XS.iload X81.here hx rfl (hb hby at_99) rfl  k) ?_
    show Go p e below _ (T81.setTop (mkF m 101 #[.val (.int p1), .val (.ref b1), .val (.int (10 : Int32)), .val (.ref w10), .val (.int (bz ((10 : Int32) = (2 : Int32) ∨ (10 : Int32) = (3 : Int32))))] [(.int (bz ((10 : Int32) = (2 : Int32) ∨ (10 : Int32) = (3 : Int32)))), (.int (bz (own_inp w10 w2 w3)))]))
    have hc101_11 : (bz (own_inp w10 w2 w3)) = (bz ((10 : Int32) = (2 : Int32) ∨ (10 : Int32) = (3 : Int32))) := by rw [bz_f (c := own_inp w10 w2 w3) (fun q => q.elim n10_2 n10_3)]; decide
    refine go (fun _ k => XS.icmpNo X81.here hx rfl (hb hby at_101) rfl (teq hc101_11).2 k) ?_
    show Go p e below _ (T81.setTop (mkF m 104 #[.val (.int p1), .val (.ref b1), .val (.int (10 : Int32)), .val (.ref w10), .val (.int (bz ((10 : Int32) = (2 : Int32) ∨ (10 : Int32) = (3 : Int32))))] []))
    refine go (fun _ k => XS.iconst X81.here hx rfl (hb hby at_104) k) ?_
    show Go p e below _ (T81.setTop (mkF m 105 #[.val (.int p1), .val (.ref b1), .val (.int (10 : Int32)), .val (.ref w10), .val (.int (bz ((10 : Int32) = (2 : Int32) ∨ (10 : Int32) = (3 : Int32))))] [(.int (1 : Int32))]))
    refine go (fun _ k => XS.goto X81.here hx rfl (pc0 := 105) (pc' := 109) rfl (hb hby at_105) (by decide) (by decide) k) ?_
    show Go p e below _ (T81.setTop (mkF m 109 #[.val (.int p1), .val (.ref b1), .val (.int (10 : Int32)), .val (.ref w10), .val (.int (bz ((10 : Int32) = (2 : Int32) ∨ (10 : Int32) = (3 : Int32))))] [(.int (1 : Int32))]))
    obtain ⟨fs, hr, hrun, hended, hW, hsame⟩ := X81.leave (v := some (.int (1 : Int32))) (fun h => by rw [Bd.returns] at h; cases h)
    refine leaf (T := T81) ⟨fs, retN X81 hx (t := .boolean) Bd.returns (by simp) (hb hby at_109) hr, hrun, hended, hW, hsame⟩ ?_ (by decide) (by decide)
    show Q0 Z p1 w0 w1 w2 w3 w4 w5 w6 w7 w8 w9 w10 h0 n0 _ T81.heap _
    rw [e81]
    exact ⟨rfl, N81⟩
set_option maxRecDepth 65536 in
set_option maxHeartbeats 40000000 in
theorem comes_1 {Post : Tables → Env → Array Value → State → Outcome → State → Prop} (hpost : ∀ tb e args s v u, (limb_1_1.after args s (.returned v) u = true ∧ limb_1_2.after args s (.returned v) u = true ∧ True) → FrameEnd s (.returned v) u (Jvm.fieldLocs frame_1_writes args s ++ Jvm.arrayLocs frame_1_arrays args s ++ Jvm.staticLocs frame_1_statics s) 16 128 → Post tb e args s (.returned v) u) :
    ArmFor flags0 classFile x code maxLocals ret World_1 tables_1 room_1 Calls_1 rest_1 Pre_1 Post := by
  intro l hfl _ _ p e ha hc hk s m args below hf hA hF happ hP
  obtain ⟨hcalls, hrest, hpre⟩ := hP
  obtain ⟨-, -, -, hnamed, -, -, -, hat⟩ := (Spec.applies_iff hf).mp happ
  obtain ⟨hg, hn⟩ := and_e (Cond.before_iff.mp (show (Jvm.Cond.and given_1 narrow_1).before args s = true from hpre))
  obtain ⟨hg1, hg2⟩ := and_e hg
  obtain ⟨w0, rfl⟩ : ∃ w0 : Value, args = #[w0] := by
    have hs : args.size = 1 := by simpa [Cond.value, given_1] using hg1
    obtain ⟨L⟩ := args
    match L, hs with
    | [w0], _ => exact ⟨w0, rfl⟩
  have hw := fun d (hd : d ∈ tables_1) => atoms_spec (ws := Jvm.Cond.code x code maxLocals ret :: tables_1) hat d (List.mem_cons_of_mem _ hd)
  have hfit : Fit s := fun {y c} hc i hi => by
    obtain ⟨ha, rfl⟩ := Array.getElem?_eq_some_iff.mp hc
    have q := List.all_eq_true.mp ((Array.all_eq_true_iff_forall_mem.mp hF) _ (Array.getElem_mem ha)) i (List.mem_range.mpr hi)
    simpa [Array.getElem?_eq_getElem hi] using q
  obtain ⟨i0, ei0⟩ := is_v hg2
  obtain rfl : w0 = (.int i0) := Option.some.inj ei0
  obtain ⟨hx_ROLE, hn_0⟩ := and_e hn
  obtain ⟨hx_INIT, hn_1⟩ := and_e hn_0
  obtain ⟨hx_TRUE, hn_2⟩ := and_e hn_1
  obtain ⟨hx_DOES, hn_3⟩ := and_e hn_2
  obtain ⟨hx_NEXT, hn_4⟩ := and_e hn_3
  obtain ⟨hx_LEGAL, hn_5⟩ := and_e hn_4
  obtain ⟨hx_GOAL, hn_6⟩ := and_e hn_5
  obtain ⟨hx_TERMINAL, hn_7⟩ := and_e hn_6
  obtain ⟨hx_SEES, hn_8⟩ := and_e hn_7
  obtain ⟨hx_BASE, hn_9⟩ := and_e hn_8
  obtain ⟨hx_INPUT, hn_10⟩ := and_e hn_9
  obtain ⟨ho_ROLE, hn_11⟩ := and_e hn_10
  obtain ⟨ho_TRUE, hn_12⟩ := and_e hn_11
  obtain ⟨ho_DOES, hn_13⟩ := and_e hn_12
  obtain ⟨ho_TERMINAL, hn_14⟩ := and_e hn_13
  obtain ⟨ho_SEES, hn_15⟩ := and_e hn_14
  obtain ⟨ho_INPUT, hn_16⟩ := and_e hn_15
  obtain ⟨ho_INIT, hn_17⟩ := and_e hn_16
  obtain ⟨ho_BASE, hn_18⟩ := and_e hn_17
  obtain ⟨ho_LEGAL, hn_19⟩ := and_e hn_18
  obtain ⟨ho_GOAL, hn_20⟩ := and_e hn_19
  have ho_NEXT := hn_20
  obtain ⟨w0_, ew0⟩ := exa_v hx_ROLE
  have fo0 := own_ord ew0 ho_ROLE
  have SS0 := Sta.start ew0 (Or.inr ⟨(hw _ (List.mem_of_getElem? (i := 3) rfl)), (hw _ (List.mem_of_getElem? (i := 4) rfl))⟩)
  obtain ⟨w1_, ew1⟩ := exa_v hx_INIT
  have fo1 := own_ord ew1 ho_INIT
  have SS1 := Sta.start ew1 (Or.inr ⟨(hw _ (List.mem_of_getElem? (i := 3) rfl)), (hw _ (List.mem_of_getElem? (i := 7) rfl))⟩)
  obtain ⟨w2_, ew2⟩ := exa_v hx_TRUE
  have fo2 := own_ord ew2 ho_TRUE
  have SS2 := Sta.start ew2 (Or.inr ⟨(hw _ (List.mem_of_getElem? (i := 3) rfl)), (hw _ (List.mem_of_getElem? (i := 9) rfl))⟩)
  obtain ⟨w3_, ew3⟩ := exa_v hx_DOES
  have fo3 := own_ord ew3 ho_DOES
  have SS3 := Sta.start ew3 (Or.inr ⟨(hw _ (List.mem_of_getElem? (i := 3) rfl)), (hw _ (List.mem_of_getElem? (i := 11) rfl))⟩)
  obtain ⟨w4_, ew4⟩ := exa_v hx_NEXT
  have fo4 := own_ord ew4 ho_NEXT
  have SS4 := Sta.start ew4 (Or.inr ⟨(hw _ (List.mem_of_getElem? (i := 3) rfl)), (hw _ (List.mem_of_getElem? (i := 13) rfl))⟩)
  obtain ⟨w5_, ew5⟩ := exa_v hx_LEGAL
  have fo5 := own_ord ew5 ho_LEGAL
  have SS5 := Sta.start ew5 (Or.inr ⟨(hw _ (List.mem_of_getElem? (i := 3) rfl)), (hw _ (List.mem_of_getElem? (i := 15) rfl))⟩)
  obtain ⟨w6_, ew6⟩ := exa_v hx_GOAL
  have fo6 := own_ord ew6 ho_GOAL
  have SS6 := Sta.start ew6 (Or.inr ⟨(hw _ (List.mem_of_getElem? (i := 3) rfl)), (hw _ (List.mem_of_getElem? (i := 17) rfl))⟩)
  obtain ⟨w7_, ew7⟩ := exa_v hx_TERMINAL
  have fo7 := own_ord ew7 ho_TERMINAL
  have SS7 := Sta.start ew7 (Or.inr ⟨(hw _ (List.mem_of_getElem? (i := 3) rfl)), (hw _ (List.mem_of_getElem? (i := 19) rfl))⟩)
  obtain ⟨w8_, ew8⟩ := exa_v hx_SEES
  have fo8 := own_ord ew8 ho_SEES
  have SS8 := Sta.start ew8 (Or.inr ⟨(hw _ (List.mem_of_getElem? (i := 3) rfl)), (hw _ (List.mem_of_getElem? (i := 21) rfl))⟩)
  obtain ⟨w9_, ew9⟩ := exa_v hx_BASE
  have fo9 := own_ord ew9 ho_BASE
  have SS9 := Sta.start ew9 (Or.inr ⟨(hw _ (List.mem_of_getElem? (i := 3) rfl)), (hw _ (List.mem_of_getElem? (i := 23) rfl))⟩)
  obtain ⟨w10_, ew10⟩ := exa_v hx_INPUT
  have fo10 := own_ord ew10 ho_INPUT
  have SS10 := Sta.start ew10 (Or.inr ⟨(hw _ (List.mem_of_getElem? (i := 3) rfl)), (hw _ (List.mem_of_getElem? (i := 25) rfl))⟩)
  obtain ⟨n, o, h1, h2, h3, _, L, rfl, ⟨rfl, N⟩, hq⟩ := rm0 l s _ hw tables_1 i0 w0_ w1_ w2_ w3_ w4_ w5_ w6_ w7_ w8_ w9_ w10_ s.heap s.heap.size (Nat.le_refl _) (Old.start s) SS0 SS1 SS2 SS3 SS4 SS5 SS6 SS7 SS8 SS9 SS10 (Exa.start ew0 hx_ROLE) (Exa.start ew1 hx_INIT) (Exa.start ew2 hx_TRUE) (Exa.start ew3 hx_DOES) (Exa.start ew4 hx_NEXT) (Exa.start ew5 hx_LEGAL) (Exa.start ew6 hx_GOAL) (Exa.start ew7 hx_TERMINAL) (Exa.start ew8 hx_SEES) (Exa.start ew9 hx_BASE) (Exa.start ew10 hx_INPUT) (own_unlike fo0 fo2 (by decide)) (own_unlike fo1 fo2 (by decide)) (own_unlike fo4 fo2 (by decide)) (own_unlike fo5 fo2 (by decide)) (own_unlike fo6 fo2 (by decide)) (own_unlike fo7 fo2 (by decide)) (own_unlike fo8 fo2 (by decide)) (own_unlike fo9 fo2 (by decide)) (own_unlike fo10 fo2 (by decide)) (own_unlike fo0 fo3 (by decide)) (own_unlike fo1 fo3 (by decide)) (own_unlike fo4 fo3 (by decide)) (own_unlike fo5 fo3 (by decide)) (own_unlike fo6 fo3 (by decide)) (own_unlike fo7 fo3 (by decide)) (own_unlike fo8 fo3 (by decide)) (own_unlike fo9 fo3 (by decide)) (own_unlike fo10 fo3 (by decide)) p e ha hc hk s m _ below hf ((Spec.applies_iff_loose hf).mp happ).1 ⟨rfl, State.Warmed39.refl s, rfl⟩ trivial
  refine ⟨n, _, h1, h2, h3, hpost _ _ _ _ _ _ ⟨Cond.after_iff.mpr rfl, Cond.after_iff.mpr (eq_i res_at (Term.int_eval (1)) rfl), trivial⟩ ⟨hq.1, hq.2.1, (hq.2.2.sift fun y hy => Or.inr (N y hy)).mono (by decide) (by decide)⟩⟩
theorem main_1_1 : Claimed_1_1 := comes_1 fun _ _ _ _ _ _ h hF => ⟨h.1, hF⟩
theorem main_1_2 : Claimed_1_2 := comes_1 fun _ _ _ _ _ _ h hF => ⟨h.2.1, hF⟩
end Jvm.Pilot.@@N@@
namespace Jvm.Pilot.@@N@@
open Jvm Jvm.ClassFile Sem Op Lib Jvm.Free Jvm.Stand Jvm.Pilot.@@N@@.Jvm.D
/-! MADE BY PROGRAM (witnessworld.py) out of the Statement's table words and the real class files: 13 classes; the members and pool entries that the words name. The judged class is class 1, her method 1. -/
namespace start1
open Jvm.ClassFile
def u (s : String) : CpInfo := .utf8 (stringToUtf16 s)
/-- a pool by its gaps: so many unusable entries, then the entry; so many at the end -/
def gap : Nat → List CpInfo → List CpInfo
  | 0, r => r
  | n + 1, r => .unusable :: gap n r
def poolList (es : List (Nat × CpInfo)) (last : Nat) : List CpInfo := es.foldr (fun e r => gap e.1 (e.2 :: r)) (gap last [])
def pool (es : List (Nat × CpInfo)) (last : Nat) : Array CpInfo := ⟨poolList es last⟩
def fileOf (pool : Array CpInfo) (this : Nat) (attrs : Array Attribute := #[]) (ms : Array MethodInfo := #[]) (fl : Nat := 33) (sup : Nat := 0) (ifs : Array Nat := #[]) (fds : Array FieldInfo := #[]) : ClassFile where
  minorVersion := 0
  majorVersion := 65
  constantPool := pool
  accessFlags := fl
  thisClass := this
  superClass := sup
  interfaces := ifs
  fields := fds
  methods := ms
  attributes := attrs
def plain (name : String) (sup : Option ClassId) : Class where
  name := name
  kind := .ordinary
  loader := none
  accessFlags := 33
  super := sup
  interfaces := #[]
  cf := none
  fields := #[]
  methods := #[]
  instanceTypes := #[]
  staticTypes := #[]
  resolved := #[]
  callSites := []
  init := .initialized
  statics := none
  mirror := none

def pool0 : Array CpInfo := pool [(5, u "<init>"), (0, u "()V"), (1, .class_ 10), (1, u "java/lang/Object")] 113

def k0m0 : Method := { name := "<init>", desc := "()V", sig := { parameters := [], returnType := none }, accessFlags := 1, code := none }
/-- java/lang/Object -/
def k0 : Class := { plain "java/lang/Object" none with
  accessFlags := 33
  interfaces := #[]
  cf := some (fileOf pool0 8 #[] #[{ accessFlags := 1, nameIndex := 5, descriptorIndex := 6, attributes := #[] }] 33 0 #[] #[])
  fields := #[]
  methods := #[k0m0]
  instanceTypes := #[]
  staticTypes := #[]
  resolved := Array.replicate 124 none
  statics := none }

def pool1 : Array CpInfo := pool [(2, .class_ 4), (1, u "java/lang/Object"), (0, u "<init>"), (0, u "()V"), (0, .class_ 8), (0, u "manyworlds/service/Keyword"), (0, .fieldref 7 10), (0, .nameAndType 11 12), (0, u "ROLE"), (0, u "Lmanyworlds/service/Keyword;"), (0, .fieldref 7 14), (0, .nameAndType 15 12), (0, u "INIT"), (0, .fieldref 7 17), (0, .nameAndType 18 12), (0, u "TRUE"), (0, .fieldref 7 20), (0, .nameAndType 21 12), (0, u "DOES"), (0, .fieldref 7 23), (0, .nameAndType 24 12), (0, u "NEXT"), (0, .fieldref 7 26), (0, .nameAndType 27 12), (0, u "LEGAL"), (0, .fieldref 7 29), (0, .nameAndType 30 12), (0, u "GOAL"), (0, .fieldref 7 32), (0, .nameAndType 33 12), (0, u "TERMINAL"), (0, .fieldref 7 35), (0, .nameAndType 36 12), (0, u "SEES"), (0, .fieldref 7 38), (0, .nameAndType 39 12), (0, u "BASE"), (0, .fieldref 7 41), (0, .nameAndType 42 12), (0, u "INPUT"), (0, .integer 2147483647), (0, .methodref 45 46), (0, .class_ 47), (0, .nameAndType 48 49), (0, u "manyworlds/service/KeywordIsInputPinLaw"), (0, u "expectedInput"), (0, u "(I)Z"), (0, .methodref 7 51), (0, .nameAndType 52 53), (0, u "isInput"), (0, u "()Z"), (2, u "law")] 5

def k1m0 : Method := { name := "<init>", desc := "()V", sig := { parameters := [], returnType := none }, accessFlags := 1, code := none }
def k1c1 : Code := { maxStack := 4, maxLocals := 5, code := code, exceptionTable := #[], attributes := #[] }
def k1m1 : Method := { name := "law", desc := "(I)Z", sig := { parameters := [.int], returnType := some .boolean }, accessFlags := 9, code := some k1c1 }
def k1c2 : Code := { maxStack := 2, maxLocals := 1, code := method_3_code, exceptionTable := #[], attributes := #[] }
def k1m2 : Method := { name := "expectedInput", desc := "(I)Z", sig := { parameters := [.int], returnType := some .boolean }, accessFlags := 10, code := some k1c2 }
/-- manyworlds/service/KeywordIsInputPinLaw -/
def k1 : Class := { plain "manyworlds/service/KeywordIsInputPinLaw" (some 0) with
  accessFlags := 49
  interfaces := #[]
  cf := some (fileOf pool1 45 #[] #[{ accessFlags := 1, nameIndex := 5, descriptorIndex := 6, attributes := #[] }, { accessFlags := 9, nameIndex := 56, descriptorIndex := 49, attributes := #[] }, { accessFlags := 10, nameIndex := 48, descriptorIndex := 49, attributes := #[] }] 49 2 #[] #[])
  fields := #[]
  methods := #[k1m0, k1m1, k1m2]
  instanceTypes := #[]
  staticTypes := #[]
  resolved := Array.replicate 62 none
  statics := none }

def pool2 : Array CpInfo := pool [(1, .class_ 2), (0, u "java/lang/constant/Constable"), (0, .class_ 4), (0, u "java/lang/Object")] 6

/-- java/lang/constant/Constable -/
def k2 : Class := { plain "java/lang/constant/Constable" (some 0) with
  accessFlags := 1537
  interfaces := #[]
  cf := some (fileOf pool2 1 #[] #[] 1537 3 #[] #[])
  fields := #[]
  methods := #[]
  instanceTypes := #[]
  staticTypes := #[]
  resolved := Array.replicate 11 none
  statics := none }

def pool3 : Array CpInfo := pool [(1, .class_ 2), (0, u "java/lang/Comparable"), (0, .class_ 4), (0, u "java/lang/Object")] 7

/-- java/lang/Comparable -/
def k3 : Class := { plain "java/lang/Comparable" (some 0) with
  accessFlags := 1537
  interfaces := #[]
  cf := some (fileOf pool3 1 #[] #[] 1537 3 #[] #[])
  fields := #[]
  methods := #[]
  instanceTypes := #[]
  staticTypes := #[]
  resolved := Array.replicate 12 none
  statics := none }

def pool4 : Array CpInfo := pool [(1, .class_ 2), (0, u "java/io/Serializable"), (0, .class_ 4), (0, u "java/lang/Object")] 2

/-- java/io/Serializable -/
def k4 : Class := { plain "java/io/Serializable" (some 0) with
  accessFlags := 1537
  interfaces := #[]
  cf := some (fileOf pool4 1 #[] #[] 1537 3 #[] #[])
  fields := #[]
  methods := #[]
  instanceTypes := #[]
  staticTypes := #[]
  resolved := Array.replicate 7 none
  statics := none }

def pool5 : Array CpInfo := pool [(2, .class_ 4), (1, u "java/lang/Enum"), (0, u "name"), (0, u "Ljava/lang/String;"), (2, u "ordinal"), (0, u "I"), (1, .class_ 14), (1, u "java/lang/Object"), (4, u "hash"), (86, .class_ 108), (1, u "java/lang/Enum$EnumDesc"), (2, .class_ 112), (0, u "java/lang/constant/Constable"), (0, .class_ 114), (0, u "java/lang/Comparable"), (0, .class_ 116), (0, u "java/io/Serializable")] 87

/-- java/lang/Enum -/
def k5 : Class := { plain "java/lang/Enum" (some 0) with
  accessFlags := 1057
  interfaces := #[2, 3, 4]
  cf := some (fileOf pool5 2 #[.nestMembers #[106]] #[] 1057 12 #[111, 113, 115] #[{ accessFlags := 18, nameIndex := 5, descriptorIndex := 6, attributes := #[] }, { accessFlags := 18, nameIndex := 9, descriptorIndex := 10, attributes := #[] }, { accessFlags := 2, nameIndex := 19, descriptorIndex := 10, attributes := #[] }])
  fields := #[{ name := "name", type := (.object "java/lang/String"), accessFlags := 18, slot := 0, constantValue := 0 }, { name := "ordinal", type := .int, accessFlags := 18, slot := 1, constantValue := 0 }, { name := "hash", type := .int, accessFlags := 2, slot := 2, constantValue := 0 }]
  methods := #[]
  instanceTypes := #[(.object "java/lang/String"), .int, .int]
  staticTypes := #[]
  resolved := Array.replicate 204 none
  statics := none }

def pool6 : Array CpInfo := pool [(1, .class_ 2), (0, u "manyworlds/service/Keyword"), (2, u "ROLE"), (0, u "Lmanyworlds/service/Keyword;"), (2, u "INIT"), (0, .fieldref 1 11), (0, .nameAndType 12 6), (0, u "TRUE"), (0, .fieldref 1 14), (0, .nameAndType 15 6), (0, u "DOES"), (2, u "NEXT"), (2, u "LEGAL"), (2, u "GOAL"), (2, u "TERMINAL"), (2, u "SEES"), (2, u "BASE"), (2, u "INPUT"), (2, u "$VALUES"), (0, u "[Lmanyworlds/service/Keyword;"), (6, .class_ 49), (1, u "java/lang/Enum"), (8, u "word"), (0, u "Ljava/lang/String;"), (7, u "symbol"), (0, u "Lmanyworlds/model/Symbol;"), (2, u "arity"), (0, u "I"), (2, u "latest"), (0, u "Lmanyworlds/service/Layer;"), (2, u "BY_WORD"), (0, u "Ljava/util/Map;"), (103, u "isInput"), (0, u "()Z")] 33

def k6c0 : Code := { maxStack := 2, maxLocals := 1, code := prog_70_method_9_code, exceptionTable := #[], attributes := #[] }
def k6m0 : Method := { name := "isInput", desc := "()Z", sig := { parameters := [], returnType := some .boolean }, accessFlags := 0, code := some k6c0 }
/-- manyworlds/service/Keyword -/
def k6 : Class := { plain "manyworlds/service/Keyword" (some 5) with
  accessFlags := 16432
  interfaces := #[]
  cf := some (fileOf pool6 1 #[] #[{ accessFlags := 0, nameIndex := 184, descriptorIndex := 185, attributes := #[] }] 16432 47 #[] #[{ accessFlags := 16409, nameIndex := 5, descriptorIndex := 6, attributes := #[] }, { accessFlags := 16409, nameIndex := 9, descriptorIndex := 6, attributes := #[] }, { accessFlags := 16409, nameIndex := 12, descriptorIndex := 6, attributes := #[] }, { accessFlags := 16409, nameIndex := 15, descriptorIndex := 6, attributes := #[] }, { accessFlags := 16409, nameIndex := 18, descriptorIndex := 6, attributes := #[] }, { accessFlags := 16409, nameIndex := 21, descriptorIndex := 6, attributes := #[] }, { accessFlags := 16409, nameIndex := 24, descriptorIndex := 6, attributes := #[] }, { accessFlags := 16409, nameIndex := 27, descriptorIndex := 6, attributes := #[] }, { accessFlags := 16409, nameIndex := 30, descriptorIndex := 6, attributes := #[] }, { accessFlags := 16409, nameIndex := 33, descriptorIndex := 6, attributes := #[] }, { accessFlags := 16409, nameIndex := 36, descriptorIndex := 6, attributes := #[] }, { accessFlags := 26, nameIndex := 79, descriptorIndex := 80, attributes := #[] }, { accessFlags := 18, nameIndex := 58, descriptorIndex := 59, attributes := #[] }, { accessFlags := 18, nameIndex := 67, descriptorIndex := 68, attributes := #[] }, { accessFlags := 18, nameIndex := 71, descriptorIndex := 72, attributes := #[] }, { accessFlags := 18, nameIndex := 75, descriptorIndex := 76, attributes := #[] }, { accessFlags := 4122, nameIndex := 39, descriptorIndex := 40, attributes := #[] }])
  fields := #[{ name := "ROLE", type := (.object "manyworlds/service/Keyword"), accessFlags := 16409, slot := 0, constantValue := 0 }, { name := "INIT", type := (.object "manyworlds/service/Keyword"), accessFlags := 16409, slot := 1, constantValue := 0 }, { name := "TRUE", type := (.object "manyworlds/service/Keyword"), accessFlags := 16409, slot := 2, constantValue := 0 }, { name := "DOES", type := (.object "manyworlds/service/Keyword"), accessFlags := 16409, slot := 3, constantValue := 0 }, { name := "NEXT", type := (.object "manyworlds/service/Keyword"), accessFlags := 16409, slot := 4, constantValue := 0 }, { name := "LEGAL", type := (.object "manyworlds/service/Keyword"), accessFlags := 16409, slot := 5, constantValue := 0 }, { name := "GOAL", type := (.object "manyworlds/service/Keyword"), accessFlags := 16409, slot := 6, constantValue := 0 }, { name := "TERMINAL", type := (.object "manyworlds/service/Keyword"), accessFlags := 16409, slot := 7, constantValue := 0 }, { name := "SEES", type := (.object "manyworlds/service/Keyword"), accessFlags := 16409, slot := 8, constantValue := 0 }, { name := "BASE", type := (.object "manyworlds/service/Keyword"), accessFlags := 16409, slot := 9, constantValue := 0 }, { name := "INPUT", type := (.object "manyworlds/service/Keyword"), accessFlags := 16409, slot := 10, constantValue := 0 }, { name := "BY_WORD", type := (.object "java/util/Map"), accessFlags := 26, slot := 11, constantValue := 0 }, { name := "word", type := (.object "java/lang/String"), accessFlags := 18, slot := 3, constantValue := 0 }, { name := "symbol", type := (.object "manyworlds/model/Symbol"), accessFlags := 18, slot := 4, constantValue := 0 }, { name := "arity", type := .int, accessFlags := 18, slot := 5, constantValue := 0 }, { name := "latest", type := (.object "manyworlds/service/Layer"), accessFlags := 18, slot := 6, constantValue := 0 }, { name := "$VALUES", type := (.array (.object "manyworlds/service/Keyword")), accessFlags := 4122, slot := 12, constantValue := 0 }]
  methods := #[k6m0]
  instanceTypes := #[(.object "java/lang/String"), .int, .int, (.object "java/lang/String"), (.object "manyworlds/model/Symbol"), .int, (.object "manyworlds/service/Layer")]
  staticTypes := #[(.object "manyworlds/service/Keyword"), (.object "manyworlds/service/Keyword"), (.object "manyworlds/service/Keyword"), (.object "manyworlds/service/Keyword"), (.object "manyworlds/service/Keyword"), (.object "manyworlds/service/Keyword"), (.object "manyworlds/service/Keyword"), (.object "manyworlds/service/Keyword"), (.object "manyworlds/service/Keyword"), (.object "manyworlds/service/Keyword"), (.object "manyworlds/service/Keyword"), (.object "java/util/Map"), (.array (.object "manyworlds/service/Keyword"))]
  resolved := Array.replicate 219 none
  statics := some 0 }

def pool7 : Array CpInfo := pool [(1, u "java/lang/Cloneable"), (0, .class_ 1), (0, u "java/lang/Object"), (0, .class_ 3)] 3

/-- java/lang/Cloneable -/
def k7 : Class := { plain "java/lang/Cloneable" (some 0) with
  accessFlags := 1537
  interfaces := #[]
  cf := some (fileOf pool7 2 #[] #[] 1537 4 #[] #[])
  fields := #[]
  methods := #[]
  instanceTypes := #[]
  staticTypes := #[]
  resolved := Array.replicate 8 none
  statics := none }

/-- the primitive byte -/
def k8 : Class := { plain "byte" none with kind := .primitive 'B', accessFlags := 0x411 }
/-- [B -/
def k9 : Class := { plain "[B" (some 0) with kind := .array 8 .byte, interfaces := #[7, 4], accessFlags := 1041 }

/-- the primitive int -/
def k10 : Class := { plain "int" none with kind := .primitive 'I', accessFlags := 0x411 }
/-- [I -/
def k11 : Class := { plain "[I" (some 0) with kind := .array 10 .int, interfaces := #[7, 4], accessFlags := 1041 }

/-- [Lmanyworlds/service/Keyword; -/
def k12 : Class := { plain "[Lmanyworlds/service/Keyword;" (some 0) with kind := .array 6 (.object "manyworlds/service/Keyword"), interfaces := #[7, 4], accessFlags := 1041 }

def heap : Heap := #[{ cls := 6, slots := #[.ref 1, .ref 2, .ref 3, .ref 4, .ref 5, .ref 6, .ref 7, .ref 8, .ref 9, .ref 10, .ref 11, .null, .null], vm := .statics 6 },
  { cls := 6, slots := #[.null, .int 0, .int 0, .null, .null, .int 0, .null], vm := .none },
  { cls := 6, slots := #[.null, .int 1, .int 0, .null, .null, .int 0, .null], vm := .none },
  { cls := 6, slots := #[.null, .int 2, .int 0, .null, .null, .int 0, .null], vm := .none },
  { cls := 6, slots := #[.null, .int 3, .int 0, .null, .null, .int 0, .null], vm := .none },
  { cls := 6, slots := #[.null, .int 4, .int 0, .null, .null, .int 0, .null], vm := .none },
  { cls := 6, slots := #[.null, .int 5, .int 0, .null, .null, .int 0, .null], vm := .none },
  { cls := 6, slots := #[.null, .int 6, .int 0, .null, .null, .int 0, .null], vm := .none },
  { cls := 6, slots := #[.null, .int 7, .int 0, .null, .null, .int 0, .null], vm := .none },
  { cls := 6, slots := #[.null, .int 8, .int 0, .null, .null, .int 0, .null], vm := .none },
  { cls := 6, slots := #[.null, .int 9, .int 0, .null, .null, .int 0, .null], vm := .none },
  { cls := 6, slots := #[.null, .int 10, .int 0, .null, .null, .int 0, .null], vm := .none }]
def classes : Array Class := #[k0, k1, k2, k3, k4, k5, k6, k7, k8, k9, k10, k11, k12]
def interned : List (Array UInt16 × Addr) := []
def slotsUsed : Nat := 90
def theMethod : MethodId := ⟨1, 1⟩
def args0 : Array Value := #[.int 5]
def aboutOver (below : List Frame) : State where
  vm := { classes := classes, interned := interned.toArray }
  heap := heap
  slotsUsed := slotsUsed
  threads := #[{ frames := .invoking theMethod args0 :: below }]
def below0 : List Frame := [.native { method := ⟨0, 0⟩, args := #[] }]
def about1 : State := aboutOver below0
def p0 : Program := .bare "" "" ""
def e0 : Env := launch0.env 0 0 0
theorem w_frames : about1.frames = Frame.invoking theMethod args0 :: below0 := rfl
set_option maxRecDepth 65536 in
theorem w_args : argsFit about1.vm theMethod args0 = true := by decide +kernel
set_option maxRecDepth 65536 in
theorem w_heap : heapFits about1 = true := by decide +kernel
set_option maxRecDepth 65536 in
theorem w_runnable : about1.curStatus? = some .runnable := by decide +kernel
set_option maxRecDepth 65536 in
theorem w_alone : about1.alone = true := by decide +kernel
set_option maxRecDepth 65536 in
theorem w_named : about1.methodNamed? x = some theMethod := by decide +kernel
set_option maxRecDepth 65536 in
theorem w_hears : about1.hears theMethod below0 = true := by decide +kernel
set_option maxRecDepth 65536 in
theorem w_ripe : about1.ripe theMethod args0 below0 = true := by decide +kernel
theorem w_running : about1.status = .running := rfl
set_option maxRecDepth 65536 in
theorem w_room : about1.hasRoom e0.platform room_1 = true :=
  launch0.hasRoom_least _ room_1 (by decide +kernel) (by decide +kernel) (by decide +kernel) (by decide +kernel) (by decide +kernel) (by decide +kernel)
theorem allAtoms_all (ts : List Jvm.Cond) (a : Array Jvm.Value) (st : Jvm.State) : (allAtoms ts).before a st = ts.all (fun c => c.before a st) := by
  induction ts with
  | nil => rfl
  | cons c t ih =>
    show (Jvm.Cond.and c (allAtoms t)).before a st = _
    rw [Jvm.Cond.before_and, ih, List.all_cons]
def words1 : List Jvm.Cond := Jvm.Cond.code x code maxLocals ret :: tables_1
/-- a 'code' word, met by the world's own term for the bytes: nothing is compared byte by byte -/
theorem code_word {y : MethodName} {bytes : ByteArray} {mx : Nat} {rt : Option FieldType} {a : Array Value} {s : State} {m : MethodId} {meth : Method} {c : Code} (h1 : s.methodNamed? y = some m) (h2 : s.vm.method? m = some meth) (h3 : meth.code = some c) (h4 : c.code = bytes)
    (h5 : (c.maxLocals == mx && c.exceptionTable.isEmpty && decide (c.maxStack ≤ mostOperands) && decide (meth.sig.returnType = rt) && !meth.locks && decide (parseMethodDescriptor y.desc = some meth.sig)) = true) : (Jvm.Cond.code y bytes mx rt).before a s = true := by
  simp only [Bool.and_eq_true, beq_iff_eq, Bool.not_eq_true', decide_eq_true_eq] at h5
  obtain ⟨⟨⟨⟨⟨g1, g2⟩, g3⟩, g4⟩, g5⟩, g6⟩ := h5
  simp [Cond.before, Cond.holds, Cond.value, h1, h2, h3, h4, g1, g2, g3, g4, g5, g6]
def isCode : Jvm.Cond → Bool
  | .code _ _ _ _ => true
  | _ => false
theorem all_split {L : List Jvm.Cond} {P : Jvm.Cond → Bool} (h1 : L.all (fun c => isCode c || P c) = true) (h2 : ∀ c ∈ L.filter isCode, P c = true) : L.all P = true := by
  refine List.all_eq_true.mpr fun c hc => ?_
  have h := List.all_eq_true.mp h1 c hc
  rcases Bool.eq_false_or_eq_true (isCode c) with hi | hi
  · exact h2 c (List.mem_filter.mpr ⟨hc, hi⟩)
  · simpa [hi] using h
set_option maxRecDepth 65536 in
theorem w_c0 : (Jvm.Cond.code x code maxLocals ret).before args0 about1 = true := code_word (m := ⟨1, 1⟩) (meth := k1m1) (c := k1c1) (by decide +kernel) rfl rfl rfl (by decide +kernel)
set_option maxRecDepth 65536 in
theorem w_c1 : (Jvm.Cond.code ({ cls := "manyworlds/service/KeywordIsInputPinLaw", name := "expectedInput", desc := "(I)Z" } : Jvm.MethodName) method_3_code (1 : Nat) (Option.some Jvm.ClassFile.FieldType.boolean)).before args0 about1 = true := code_word (m := ⟨1, 2⟩) (meth := k1m2) (c := k1c2) (by decide +kernel) rfl rfl rfl (by decide +kernel)
set_option maxRecDepth 65536 in
theorem w_c2 : (Jvm.Cond.code ({ cls := "manyworlds/service/Keyword", name := "isInput", desc := "()Z" } : Jvm.MethodName) prog_70_method_9_code (1 : Nat) (Option.some Jvm.ClassFile.FieldType.boolean)).before args0 about1 = true := code_word (m := ⟨6, 0⟩) (meth := k6m0) (c := k6c0) (by decide +kernel) rfl rfl rfl (by decide +kernel)
def codes1 : List Jvm.Cond := [Jvm.Cond.code x code maxLocals ret, Jvm.Cond.code ({ cls := "manyworlds/service/KeywordIsInputPinLaw", name := "expectedInput", desc := "(I)Z" } : Jvm.MethodName) method_3_code (1 : Nat) (Option.some Jvm.ClassFile.FieldType.boolean), Jvm.Cond.code ({ cls := "manyworlds/service/Keyword", name := "isInput", desc := "()Z" } : Jvm.MethodName) prog_70_method_9_code (1 : Nat) (Option.some Jvm.ClassFile.FieldType.boolean)]
set_option maxRecDepth 65536 in
theorem codes_eq : words1.filter isCode = codes1 := rfl
theorem w_codes : ∀ c ∈ words1.filter isCode, c.before args0 about1 = true := by
  rw [codes_eq]
  intro c hc
  simp only [codes1, List.mem_cons, List.not_mem_nil, or_false] at hc
  rcases hc with rfl | rfl | rfl
  · exact w_c0
  · exact w_c1
  · exact w_c2
set_option maxRecDepth 65536 in
theorem w_t1 : (words1.take 24).all (fun c => isCode c || c.before args0 about1) = true := by decide +kernel
set_option maxRecDepth 65536 in
theorem w_t2 : (words1.drop 24).all (fun c => isCode c || c.before args0 about1) = true := by decide +kernel
theorem w_tables : (allAtoms (Jvm.Cond.code x code maxLocals ret :: tables_1)).before args0 about1 = true := by
  rw [allAtoms_all]
  show words1.all (fun c => c.before args0 about1) = true
  refine all_split ?_ w_codes
  rw [← List.take_append_drop 24 words1, List.all_append, w_t1, w_t2]
  rfl
set_option maxRecDepth 65536 in
theorem w_case : (Jvm.Cond.and given_1 narrow_1).before args0 about1 = true := by decide +kernel
theorem w_applies : (headSpec (Jvm.Cond.code x code maxLocals ret :: tables_1) room_1).applies x e0.platform about1 = true :=
  (Spec.applies_iff w_frames).mpr ⟨w_running, w_runnable, w_alone, w_named, w_hears, w_ripe, w_room, w_tables⟩
theorem atStart : AtStart classFile x code maxLocals ret World_1 tables_1 room_1 Calls_1 rest_1 Pre_1 launch0 p0 e0 about1 theMethod args0 below0 :=
  ⟨lists_1, trivial, launch0.admits_env _ _ _, launch0.least_env, fairChoices_fair.cas, fairChoices_fair.clock, w_frames, w_args, w_heap, w_applies, trivial, trivial, w_case⟩
end start1
theorem witness_1 : WitnessClaimed_1 := ⟨start1.p0, start1.e0, start1.about1, start1.theMethod, start1.args0, start1.below0, start1.atStart⟩
end Jvm.Pilot.@@N@@
