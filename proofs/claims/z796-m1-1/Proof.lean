import JvmDerived
import JvmDerived.Pilot.@@N@@Statement
import JvmDerived.Pilot.@@N@@Code
set_option linter.unusedVariables false
set_option linter.unusedSimpArgs false

namespace Jvm.Pilot.@@N@@
open Jvm Jvm.ClassFile Sem Op Lib Jvm.Free Jvm.Stand Jvm.LawKit Jvm.RoadKit Bundle Jvm.Pilot.@@N@@.Jvm.D
/-! the walk's own frame: a goal that goes forward step by step -/
def Go (p : Program) (e : Env) (below : List Frame) (P : State → Outcome → Prop) (A : State) : Prop := ∃ s₂ o, Steps p.tables e below A s₂ ∧ P s₂ o
theorem go {p : Program} {e : Env} {below : List Frame} {P : State → Outcome → Prop} {A B : State} (h : ∀ t, Steps p.tables e below B t → Steps p.tables e below A t) (k : Go p e below P B) : Go p e below P A := by
  obtain ⟨t, o, a, b⟩ := k
  exact ⟨t, o, h t a, b⟩
def PP (s : State) (below : List Frame) (Q : Option Value → Heap → List Loc → Prop) (ce sl : Nat) (s₂ : State) (o : Outcome) : Prop := s₂.status = .running ∧ Ended s₂ below o ∧ ∃ v L, o = .returned v ∧ Q v s₂.heap L ∧ FrameEnd s o s₂ L ce sl
theorem leaf {p : Program} {e : Env} {s A : State} {below : List Frame} {Q : Option Value → Heap → List Loc → Prop} {ce sl : Nat} {T : State} {v : Option Value} {locs : List Loc} {cells slots : Nat}
    (h : ∃ fs, Steps p.tables e below A (T.setFrames fs) ∧ (T.setFrames fs).status = .running ∧ Ended (T.setFrames fs) below (.returned v) ∧ s.WarmedH (T.setFrames fs).vm ∧ s.sameButNew ({ T.setFrames fs with vm := s.vm } : State) locs cells slots)
    (hQ : Q v T.heap locs) (hc : cells ≤ ce) (hs : slots ≤ sl) : Go p e below (PP s below Q ce sl) A := by
  obtain ⟨fs, h1, h2, h3, h4, h5⟩ := h
  exact ⟨_, _, h1, h2, h3, v, locs, rfl, hQ, ⟨_, rfl⟩, h4, h5.mono hc hs⟩
theorem retI {p : Program} {l : Launch} {e : Env} {R : Room} {s : State} {m : MethodId} {args : Array Value} {below : List Frame} {meth : Method} {c : Code} {T : State} {locs : List Loc} {cells slots : Nat} (X : Stand p l e R s m args below meth c T locs cells slots) (hx : p.tables.exec = Jvm.exec) {pc : Nat} {Ls : Array Slot} {z : Int32} {rest : List Value} (hret : meth.sig.returnType = some .int) (hd : decode c.code pc = .ok (.ireturn, 1)) {fs : List Frame}
    (hl : ∀ (f : JFrame) (acts : List Action), f.method = m → f.locked = none → f.entered = [] → (doReturn e (T.setTop f) acts (some (.int z))).1 = T.setFrames fs) : Steps p.tables e below (T.setTop (mkF m pc Ls (.int z :: rest))) (T.setFrames fs) :=
  retOut X hx hret rfl (Or.inl ⟨rfl, Or.inl rfl, z, rfl⟩) hd hl
theorem retJ {p : Program} {l : Launch} {e : Env} {R : Room} {s : State} {m : MethodId} {args : Array Value} {below : List Frame} {meth : Method} {c : Code} {T : State} {locs : List Loc} {cells slots : Nat} (X : Stand p l e R s m args below meth c T locs cells slots) (hx : p.tables.exec = Jvm.exec) {pc : Nat} {Ls : Array Slot} {z : Int64} {rest : List Value} (hret : meth.sig.returnType = some .long) (hd : decode c.code pc = .ok (.lreturn, 1)) {fs : List Frame}
    (hl : ∀ (f : JFrame) (acts : List Action), f.method = m → f.locked = none → f.entered = [] → (doReturn e (T.setTop f) acts (some (.long z))).1 = T.setFrames fs) : Steps p.tables e below (T.setTop (mkF m pc Ls (.long z :: rest))) (T.setFrames fs) :=
  retOut X hx hret rfl (Or.inr (Or.inl ⟨rfl, rfl, z, rfl⟩)) hd hl
theorem retA {p : Program} {l : Launch} {e : Env} {R : Room} {s : State} {m : MethodId} {args : Array Value} {below : List Frame} {meth : Method} {c : Code} {T : State} {locs : List Loc} {cells slots : Nat} (X : Stand p l e R s m args below meth c T locs cells slots) (hx : p.tables.exec = Jvm.exec) {pc : Nat} {Ls : Array Slot} {w : Value} {t : FieldType} {rest : List Value} (hret : meth.sig.returnType = some t) (ht : t.isReference = true) (hw : w.isRef = true) (hn : narrow t w = w) (hd : decode c.code pc = .ok (.areturn, 1)) {fs : List Frame}
    (hl : ∀ (f : JFrame) (acts : List Action), f.method = m → f.locked = none → f.entered = [] → (doReturn e (T.setTop f) acts (some w)).1 = T.setFrames fs) : Steps p.tables e below (T.setTop (mkF m pc Ls (w :: rest))) (T.setFrames fs) :=
  retOut X hx hret hn (Or.inr (Or.inr (Or.inr (Or.inr ⟨rfl, ht, hw⟩)))) hd hl
theorem own_psel {Z s : State} {a0 args : Array Value} {y : MethodName} {n : Nat} (hZ : Z.Warmed39 s.vm) (hi : (Jvm.Cond.instantiable y.cls n).before a0 Z = true) (hp : (Jvm.Cond.privateMethod y).before a0 Z = true) (hinst : (Jvm.Cond.instanceMethod y).before a0 Z = true) (hy : y.cls ≠ "java/lang/invoke/MethodHandle" ∧ y.cls ≠ "java/lang/invoke/VarHandle") : (Jvm.Cond.selects y.cls y y).before args s = true := by
  have hi' : (Jvm.Cond.instantiable y.cls n).before args s = true := mvT hZ hi
  obtain ⟨c, k, h1, h2, h3, h4, h5, h6⟩ := Cond.instantiable_spec hi'
  have h7 : k.isInterface = false := by
    cases hq : k.isInterface
    · rfl
    · rw [hq] at h4; simp at h4
  exact selects_self_of_private h1 h2 h7 (Cond.privateMethod_at (mvP hZ hp (args := args))) (mvT hZ hinst) hy
def PPW (s : State) (below : List Frame) (Q : Option Value → Heap → List Loc → Prop) (ce sl : Nat) (s₂ : State) (o : Outcome) : Prop := s₂.status = .running ∧ Ended s₂ below o ∧ ∃ v L, o = .returned v ∧ Q v s₂.heap L ∧ ReturnedEndW s o s₂ L ce sl
theorem endW_mono {s t : State} {o : Outcome} {L : List Loc} {k n k' n' : Nat} (h : ReturnedEndW s o t L k n) (hk : k ≤ k') (hn : n ≤ n') : ReturnedEndW s o t L k' n' := ⟨h.1, h.2.1, h.2.2.1, h.2.2.2.mono hk hn⟩
theorem leafW {p : Program} {e : Env} {s A : State} {below : List Frame} {Q : Option Value → Heap → List Loc → Prop} {ce sl : Nat} {T : State} {v : Option Value} {locs : List Loc} {cells slots : Nat}
    (h : ∃ fs, Steps p.tables e below A (T.setFrames fs) ∧ (T.setFrames fs).status = .running ∧ Ended (T.setFrames fs) below (.returned v) ∧ ReturnedEndW s (.returned v) (T.setFrames fs) locs cells slots)
    (hQ : Q v T.heap locs) (hc : cells ≤ ce) (hs : slots ≤ sl) : Go p e below (PPW s below Q ce sl) A := by
  obtain ⟨fs, h1, h2, h3, h4⟩ := h
  exact ⟨_, _, h1, h2, h3, v, locs, rfl, hQ, endW_mono h4 hc hs⟩
def PPH (Z : State) (EL : List (String × Nat)) (s : State) (below : List Frame) (Q : Option Value → Heap → List Loc → Prop) (ce sl : Nat) (s₂ : State) (o : Outcome) : Prop := s₂.status = .running ∧ Ended s₂ below o ∧ ∃ v L, o = .returned v ∧ Q v s₂.heap L ∧ CHr Z EL s.vm s.heap s₂.vm s₂.heap ∧ ReturnedEndW s o s₂ L ce sl
theorem leafH {Z : State} {EL : List (String × Nat)} {p : Program} {e : Env} {s A : State} {below : List Frame} {Q : Option Value → Heap → List Loc → Prop} {ce sl : Nat} {T : State} {v : Option Value} {locs : List Loc} {cells slots : Nat}
    (h : ∃ fs, Steps p.tables e below A (T.setFrames fs) ∧ (T.setFrames fs).status = .running ∧ Ended (T.setFrames fs) below (.returned v) ∧ ReturnedEndW s (.returned v) (T.setFrames fs) locs cells slots)
    (hQ : Q v T.heap locs) (hR : CHr Z EL s.vm s.heap T.vm T.heap) (hc : cells ≤ ce) (hs : slots ≤ sl) : Go p e below (PPH Z EL s below Q ce sl) A := by
  obtain ⟨fs, h1, h2, h3, h4⟩ := h
  exact ⟨_, _, h1, h2, h3, v, locs, rfl, hQ, hR, endW_mono h4 hc hs⟩
theorem coldZ {Z s : State} {vm0 vm1 : Vm} {n : Nat} (hZ : Z.Warmed39 (s.setVm vm0).vm) (h2 : (s.setVm vm0).Since vm1 n) : Z.Warmed39 (s.setVm vm1).vm := State.Warmed39.trans (t := s.setVm vm0) hZ h2.1
theorem coldO {s : State} {vm0 vm1 : Vm} {n : Nat} {own : String} {c : ClassId} (hown : (s.setVm vm0).vm.findClass own = some c) (h2 : (s.setVm vm0).Since vm1 n) : (s.setVm vm1).vm.findClass own = some c := by
  rw [show (s.setVm vm1).vm = vm1 from rfl, h2.1.alike.findClass]; exact hown
/-! a truth as Java's int -/
def bz (c : Prop) [Decidable c] : Int32 := if c then 1 else 0
theorem bz_t {c : Prop} [Decidable c] (h : c) : bz c = 1 := if_pos h
theorem bz_f {c : Prop} [Decidable c] (h : ¬ c) : bz c = 0 := if_neg h
theorem bz_ne {c : Prop} [Decidable c] (h : c) : ¬ (bz c = 0) := by rw [bz_t h]; decide
theorem bz_nf {c : Prop} [Decidable c] (h : ¬ c) : ¬ (bz c = 1) := by rw [bz_f h]; decide
theorem bz_congr {c d : Prop} [Decidable c] [Decidable d] (h : c ↔ d) : bz c = bz d := by by_cases q : c; rw [bz_t q, bz_t (h.mp q)]; rw [bz_f q, bz_f (fun z => q (h.mpr z))]
theorem bz_nar (c : Prop) [Decidable c] : nar .boolean (bz c) = bz c := by by_cases q : c; rw [bz_t q]; rfl; rw [bz_f q]; rfl

def lmax (x y : Int64) : Int64 := if x < y then y else x
def lmin (x y : Int64) : Int64 := if y < x then y else x
def own_pr (a w : Addr) (q : Int64) (p : Int32) : Int32 := if Value.ref a = Value.ref w then bz (q = p.toInt64) else bz (¬ (q < p.toInt64))
theorem own_all (w : Addr) (q : Int64) (p : Int32) : own_pr w w q p = bz (lmin q p.toInt64 = lmax q p.toInt64) := by
  unfold own_pr
  rw [if_pos rfl]
  refine bz_congr ?_
  unfold lmin lmax
  constructor
  · intro h
    rw [h]
  · intro h
    split at h <;> split at h
    · rename_i a b
      rw [Int64.lt_iff_toInt_lt] at a b
      omega
    · exact h.symm
    · exact h
    · rename_i a b
      rw [Int64.lt_iff_toInt_lt] at a b
      rw [← Int64.toInt_inj]; omega
theorem own_part (a w : Addr) (h : ¬ (Value.ref a = Value.ref w)) (q : Int64) (p : Int32) : own_pr a w q p = bz (lmax q p.toInt64 = q) := by
  unfold own_pr
  rw [if_neg h]
  refine bz_congr ?_
  unfold lmax
  constructor
  · intro g; rw [if_neg g]
  · intro g k
    rw [if_pos k] at g
    rw [g, Int64.lt_iff_toInt_lt] at k; omega
theorem own_ord {args : Array Value} {s : State} {t : Term} {a : Addr} {C n d : String} {k : Int32} (ev : t.eval args s none [] s = some (.ref a)) (h : (Jvm.Cond.eq (.field t C n d) (.int k)).value args s none s [] = some true) : s.fieldOf? a C n d = some (.int k) := by
  have e := fld_at (C := C) (n := n) (dd := d) ev
  simp only [Cond.value, e, Term.int_eval] at h
  cases hq : s.fieldOf? a C n d with
  | none => rw [hq] at h; simp at h
  | some v => rw [hq] at h; cases v <;> simp_all
theorem d3_0 : decode jdk_29_method_66_code 0 = .ok (.lload_n 0, 1) := by decide +kernel
theorem d3_1 : decode jdk_29_method_66_code 1 = .ok (.lload_n 2, 1) := by decide +kernel
theorem d3_2 : decode jdk_29_method_66_code 2 = .ok (.lcmp, 1) := by decide +kernel
theorem d3_3 : decode jdk_29_method_66_code 3 = .ok (.ifCond .lt 7, 3) := by decide +kernel
theorem d3_6 : decode jdk_29_method_66_code 6 = .ok (.lload_n 0, 1) := by decide +kernel
theorem d3_7 : decode jdk_29_method_66_code 7 = .ok (.goto 4, 3) := by decide +kernel
theorem d3_10 : decode jdk_29_method_66_code 10 = .ok (.lload_n 2, 1) := by decide +kernel
theorem d3_11 : decode jdk_29_method_66_code 11 = .ok (.lreturn, 1) := by decide +kernel
theorem ef_rm3 (m : MethodId) (q1 : Int64) (q2 : Int64) : entryFrame m #[(.long q1), (.long q2)] 4 = mkF m 0 #[.val (.long q1), .second, .val (.long q2), .second] [] := by first | (simp [entryFrame, mkF, argsToLocals, Value.category]; done) | rfl
def Q3 (Z : State) (q1 : Int64) (q2 : Int64) (h0 : Heap) (n0 : Nat) (v : Option Value) (h : Heap) (L : List Loc) : Prop := v = some (.long (lmax q1 q2)) ∧ Fr n0 L ∧ h = h0
set_option maxRecDepth 65536 in
set_option maxHeartbeats 40000000 in
theorem rm3 (l : Launch) (Z : State) (a0 : Array Value) (hw : ∀ d ∈ tables_1, d.before a0 Z = true) (ws : List Jvm.Cond) (q1 : Int64) (q2 : Int64) (h0 : Heap) (n0 : Nat) (Z0 : n0 ≤ h0.size) :
    MetFree l (⟨"java/lang/Math", "max", "(JJ)J"⟩ : MethodName) (head1 (Jvm.Cond.code (⟨"java/lang/Math", "max", "(JJ)J"⟩ : MethodName) jdk_29_method_66_code 4 (some .long) :: ws) ({ frames := 0, cells := 0, slots := 0, locals := 0 } : Room)) (fun a U => a = #[(.long q1), (.long q2)] ∧ Z.Warmed39 U.vm ∧ U.heap = h0) (fun _ _ _ _ _ => True) (fun _ U o U' => ∃ v L, o = .returned v ∧ Q3 Z q1 q2 h0 n0 v U'.heap L ∧ FrameEnd U o U' L ({ frames := 0, cells := 0, slots := 0, locals := 0 } : Room).cells ({ frames := 0, cells := 0, slots := 0, locals := 0 } : Room).slots) := by
  refine MetFree.of_bodySF (Jvm.Free.JP.mathPlain rfl (by decide +kernel)) hisR ?_
  intro p e s m args below meth c s₁ Bd hml0 hP hK
  obtain ⟨rfl, hZ, hh⟩ := hP
  have hx := Bd.exec
  have hby := Bd.bytes
  have hml : c.maxLocals = 4 := hml0
  have hown : s.vm.findClass "java/lang/Math" = some m.cls := findClass_of_methodNamed Bd.named
  have hnm := (name_of_methodNamed Bd.named Bd.method).1
  have X0 : Stand p l e ({ frames := 0, cells := 0, slots := 0, locals := 0 } : Room) s m #[(.long q1), (.long q2)] below meth c s₁ [] 0 0 := Stand.of_body Bd
  have e0 : s₁.heap = h0 := by rw [← hh, Bd.state]; rfl
  have N0 := Fr.nil n0
  show Go p e below (PP s below (Q3 Z q1 q2 h0 n0) ({ frames := 0, cells := 0, slots := 0, locals := 0 } : Room).cells ({ frames := 0, cells := 0, slots := 0, locals := 0 } : Room).slots) (s₁.setTop (entryFrame m #[(.long q1), (.long q2)] 4))
  refine go (fun _ k => castTop (ef_rm3 m q1 q2) k) ?_
  show Go p e below _ (s₁.setTop (mkF m 0 #[.val (.long q1), .second, .val (.long q2), .second] []))
  refine go (fun _ k => XS.lloadN X0.here hx rfl (hb hby d3_0) rfl  k) ?_
  show Go p e below _ (s₁.setTop (mkF m 1 #[.val (.long q1), .second, .val (.long q2), .second] [(.long q1)]))
  refine go (fun _ k => XS.lloadN X0.here hx rfl (hb hby d3_1) rfl  k) ?_
  show Go p e below _ (s₁.setTop (mkF m 2 #[.val (.long q1), .second, .val (.long q2), .second] [(.long q2), (.long q1)]))
  refine go (fun _ k => XS.lcmp X0.here hx rfl (hb hby d3_2) rfl k) ?_
  show Go p e below _ (s₁.setTop (mkF m 3 #[.val (.long q1), .second, .val (.long q2), .second] [(.int (lcmpW q1 q2))]))
  by_cases hc3_1 : q1 < q2
  · skip
    refine go (fun _ k => XS.ifYes X0.here hx rfl (pc0 := 3) (pc' := 10) rfl (hb hby d3_3) rfl ((if0 _ _).trans (tlt ((lw_lt _ _).mpr hc3_1)).1) (by decide) (by decide) k) ?_
    show Go p e below _ (s₁.setTop (mkF m 10 #[.val (.long q1), .second, .val (.long q2), .second] []))
    refine go (fun _ k => XS.lloadN X0.here hx rfl (hb hby d3_10) rfl  k) ?_
    show Go p e below _ (s₁.setTop (mkF m 11 #[.val (.long q1), .second, .val (.long q2), .second] [(.long q2)]))
    obtain ⟨fs, hr, hrun, hended, hW, hsame⟩ := X0.leave (v := some (.long q2)) (fun h => by rw [Bd.returns] at h; cases h)
    refine leaf (T := s₁) ⟨fs, retJ X0 hx Bd.returns (hb hby d3_11) hr, hrun, hended, hW, hsame⟩ ?_ (by decide) (by decide)
    show Q3 Z q1 q2 h0 n0 _ s₁.heap _
    rw [e0]
    exact ⟨(by rw [lmax, if_pos hc3_1]), N0, rfl⟩
  · skip
    refine go (fun _ k => XS.ifNo X0.here hx rfl (hb hby d3_3) rfl ((if0 _ _).trans (flt (fun q => hc3_1 ((lw_lt _ _).mp q))).1) k) ?_
    show Go p e below _ (s₁.setTop (mkF m 6 #[.val (.long q1), .second, .val (.long q2), .second] []))
    refine go (fun _ k => XS.lloadN X0.here hx rfl (hb hby d3_6) rfl  k) ?_
    show Go p e below _ (s₁.setTop (mkF m 7 #[.val (.long q1), .second, .val (.long q2), .second] [(.long q1)]))
    refine go (fun _ k => XS.goto X0.here hx rfl (pc0 := 7) (pc' := 11) rfl (hb hby d3_7) (by decide) (by decide) k) ?_
    show Go p e below _ (s₁.setTop (mkF m 11 #[.val (.long q1), .second, .val (.long q2), .second] [(.long q1)]))
    obtain ⟨fs, hr, hrun, hended, hW, hsame⟩ := X0.leave (v := some (.long q1)) (fun h => by rw [Bd.returns] at h; cases h)
    refine leaf (T := s₁) ⟨fs, retJ X0 hx Bd.returns (hb hby d3_11) hr, hrun, hended, hW, hsame⟩ ?_ (by decide) (by decide)
    show Q3 Z q1 q2 h0 n0 _ s₁.heap _
    rw [e0]
    exact ⟨(by rw [lmax, if_neg hc3_1]), N0, rfl⟩
theorem d2_0 : decode jdk_29_method_70_code 0 = .ok (.lload_n 0, 1) := by decide +kernel
theorem d2_1 : decode jdk_29_method_70_code 1 = .ok (.lload_n 2, 1) := by decide +kernel
theorem d2_2 : decode jdk_29_method_70_code 2 = .ok (.lcmp, 1) := by decide +kernel
theorem d2_3 : decode jdk_29_method_70_code 3 = .ok (.ifCond .gt 7, 3) := by decide +kernel
theorem d2_6 : decode jdk_29_method_70_code 6 = .ok (.lload_n 0, 1) := by decide +kernel
theorem d2_7 : decode jdk_29_method_70_code 7 = .ok (.goto 4, 3) := by decide +kernel
theorem d2_10 : decode jdk_29_method_70_code 10 = .ok (.lload_n 2, 1) := by decide +kernel
theorem d2_11 : decode jdk_29_method_70_code 11 = .ok (.lreturn, 1) := by decide +kernel
theorem ef_rm2 (m : MethodId) (q1 : Int64) (q2 : Int64) : entryFrame m #[(.long q1), (.long q2)] 4 = mkF m 0 #[.val (.long q1), .second, .val (.long q2), .second] [] := by first | (simp [entryFrame, mkF, argsToLocals, Value.category]; done) | rfl
def Q2 (Z : State) (q1 : Int64) (q2 : Int64) (h0 : Heap) (n0 : Nat) (v : Option Value) (h : Heap) (L : List Loc) : Prop := v = some (.long (lmin q1 q2)) ∧ Fr n0 L ∧ h = h0
set_option maxRecDepth 65536 in
set_option maxHeartbeats 40000000 in
theorem rm2 (l : Launch) (Z : State) (a0 : Array Value) (hw : ∀ d ∈ tables_1, d.before a0 Z = true) (ws : List Jvm.Cond) (q1 : Int64) (q2 : Int64) (h0 : Heap) (n0 : Nat) (Z0 : n0 ≤ h0.size) :
    MetFree l (⟨"java/lang/Math", "min", "(JJ)J"⟩ : MethodName) (head1 (Jvm.Cond.code (⟨"java/lang/Math", "min", "(JJ)J"⟩ : MethodName) jdk_29_method_70_code 4 (some .long) :: ws) ({ frames := 0, cells := 0, slots := 0, locals := 0 } : Room)) (fun a U => a = #[(.long q1), (.long q2)] ∧ Z.Warmed39 U.vm ∧ U.heap = h0) (fun _ _ _ _ _ => True) (fun _ U o U' => ∃ v L, o = .returned v ∧ Q2 Z q1 q2 h0 n0 v U'.heap L ∧ FrameEnd U o U' L ({ frames := 0, cells := 0, slots := 0, locals := 0 } : Room).cells ({ frames := 0, cells := 0, slots := 0, locals := 0 } : Room).slots) := by
  refine MetFree.of_bodySF (Jvm.Free.JP.mathPlain rfl (by decide +kernel)) hisR ?_
  intro p e s m args below meth c s₁ Bd hml0 hP hK
  obtain ⟨rfl, hZ, hh⟩ := hP
  have hx := Bd.exec
  have hby := Bd.bytes
  have hml : c.maxLocals = 4 := hml0
  have hown : s.vm.findClass "java/lang/Math" = some m.cls := findClass_of_methodNamed Bd.named
  have hnm := (name_of_methodNamed Bd.named Bd.method).1
  have X0 : Stand p l e ({ frames := 0, cells := 0, slots := 0, locals := 0 } : Room) s m #[(.long q1), (.long q2)] below meth c s₁ [] 0 0 := Stand.of_body Bd
  have e0 : s₁.heap = h0 := by rw [← hh, Bd.state]; rfl
  have N0 := Fr.nil n0
  show Go p e below (PP s below (Q2 Z q1 q2 h0 n0) ({ frames := 0, cells := 0, slots := 0, locals := 0 } : Room).cells ({ frames := 0, cells := 0, slots := 0, locals := 0 } : Room).slots) (s₁.setTop (entryFrame m #[(.long q1), (.long q2)] 4))
  refine go (fun _ k => castTop (ef_rm2 m q1 q2) k) ?_
  show Go p e below _ (s₁.setTop (mkF m 0 #[.val (.long q1), .second, .val (.long q2), .second] []))
  refine go (fun _ k => XS.lloadN X0.here hx rfl (hb hby d2_0) rfl  k) ?_
  show Go p e below _ (s₁.setTop (mkF m 1 #[.val (.long q1), .second, .val (.long q2), .second] [(.long q1)]))
  refine go (fun _ k => XS.lloadN X0.here hx rfl (hb hby d2_1) rfl  k) ?_
  show Go p e below _ (s₁.setTop (mkF m 2 #[.val (.long q1), .second, .val (.long q2), .second] [(.long q2), (.long q1)]))
  refine go (fun _ k => XS.lcmp X0.here hx rfl (hb hby d2_2) rfl k) ?_
  show Go p e below _ (s₁.setTop (mkF m 3 #[.val (.long q1), .second, .val (.long q2), .second] [(.int (lcmpW q1 q2))]))
  by_cases hc3_1 : q2 < q1
  · skip
    refine go (fun _ k => XS.ifYes X0.here hx rfl (pc0 := 3) (pc' := 10) rfl (hb hby d2_3) rfl ((if0 _ _).trans (tlt ((lw_gt _ _).mpr hc3_1)).2.2.1) (by decide) (by decide) k) ?_
    show Go p e below _ (s₁.setTop (mkF m 10 #[.val (.long q1), .second, .val (.long q2), .second] []))
    refine go (fun _ k => XS.lloadN X0.here hx rfl (hb hby d2_10) rfl  k) ?_
    show Go p e below _ (s₁.setTop (mkF m 11 #[.val (.long q1), .second, .val (.long q2), .second] [(.long q2)]))
    obtain ⟨fs, hr, hrun, hended, hW, hsame⟩ := X0.leave (v := some (.long q2)) (fun h => by rw [Bd.returns] at h; cases h)
    refine leaf (T := s₁) ⟨fs, retJ X0 hx Bd.returns (hb hby d2_11) hr, hrun, hended, hW, hsame⟩ ?_ (by decide) (by decide)
    show Q2 Z q1 q2 h0 n0 _ s₁.heap _
    rw [e0]
    exact ⟨(by rw [lmin, if_pos hc3_1]), N0, rfl⟩
  · skip
    refine go (fun _ k => XS.ifNo X0.here hx rfl (hb hby d2_3) rfl ((if0 _ _).trans (flt (fun q => hc3_1 ((lw_gt _ _).mp q))).2.2.1) k) ?_
    show Go p e below _ (s₁.setTop (mkF m 6 #[.val (.long q1), .second, .val (.long q2), .second] []))
    refine go (fun _ k => XS.lloadN X0.here hx rfl (hb hby d2_6) rfl  k) ?_
    show Go p e below _ (s₁.setTop (mkF m 7 #[.val (.long q1), .second, .val (.long q2), .second] [(.long q1)]))
    refine go (fun _ k => XS.goto X0.here hx rfl (pc0 := 7) (pc' := 11) rfl (hb hby d2_7) (by decide) (by decide) k) ?_
    show Go p e below _ (s₁.setTop (mkF m 11 #[.val (.long q1), .second, .val (.long q2), .second] [(.long q1)]))
    obtain ⟨fs, hr, hrun, hended, hW, hsame⟩ := X0.leave (v := some (.long q1)) (fun h => by rw [Bd.returns] at h; cases h)
    refine leaf (T := s₁) ⟨fs, retJ X0 hx Bd.returns (hb hby d2_11) hr, hrun, hended, hW, hsame⟩ ?_ (by decide) (by decide)
    show Q2 Z q1 q2 h0 n0 _ s₁.heap _
    rw [e0]
    exact ⟨(by rw [lmin, if_neg hc3_1]), N0, rfl⟩
theorem pn_0 : plainName "com/example/quotewright/quotewright/pricing/BundlePromotion$Match" = true := by first | (simp [plainName, overriddenIn]; done) | decide +kernel
theorem d1_0 : decode prog_13_method_4_code 0 = .ok (.aload_n 0, 1) := by decide +kernel
theorem d1_1 : decode prog_13_method_4_code 1 = .ok (.getstatic 3, 3) := by decide +kernel
theorem d1_4 : decode prog_13_method_4_code 4 = .ok (.if_acmp .ne 18, 3) := by decide +kernel
theorem d1_7 : decode prog_13_method_4_code 7 = .ok (.lload_n 1, 1) := by decide +kernel
theorem d1_8 : decode prog_13_method_4_code 8 = .ok (.iload_n 3, 1) := by decide +kernel
theorem d1_9 : decode prog_13_method_4_code 9 = .ok (.i2l, 1) := by decide +kernel
theorem d1_10 : decode prog_13_method_4_code 10 = .ok (.lcmp, 1) := by decide +kernel
theorem d1_11 : decode prog_13_method_4_code 11 = .ok (.ifCond .ne 7, 3) := by decide +kernel
theorem d1_14 : decode prog_13_method_4_code 14 = .ok (.iconst 1, 1) := by decide +kernel
theorem d1_15 : decode prog_13_method_4_code 15 = .ok (.goto 19, 3) := by decide +kernel
theorem d1_18 : decode prog_13_method_4_code 18 = .ok (.iconst 0, 1) := by decide +kernel
theorem d1_19 : decode prog_13_method_4_code 19 = .ok (.goto 15, 3) := by decide +kernel
theorem d1_22 : decode prog_13_method_4_code 22 = .ok (.lload_n 1, 1) := by decide +kernel
theorem d1_23 : decode prog_13_method_4_code 23 = .ok (.iload_n 3, 1) := by decide +kernel
theorem d1_24 : decode prog_13_method_4_code 24 = .ok (.i2l, 1) := by decide +kernel
theorem d1_25 : decode prog_13_method_4_code 25 = .ok (.lcmp, 1) := by decide +kernel
theorem d1_26 : decode prog_13_method_4_code 26 = .ok (.ifCond .lt 7, 3) := by decide +kernel
theorem d1_29 : decode prog_13_method_4_code 29 = .ok (.iconst 1, 1) := by decide +kernel
theorem d1_30 : decode prog_13_method_4_code 30 = .ok (.goto 4, 3) := by decide +kernel
theorem d1_33 : decode prog_13_method_4_code 33 = .ok (.iconst 0, 1) := by decide +kernel
theorem d1_34 : decode prog_13_method_4_code 34 = .ok (.ireturn, 1) := by decide +kernel
theorem ef_rm1 (m : MethodId) (a1 : Addr) (q2 : Int64) (p3 : Int32) : entryFrame m #[(.ref a1), (.long q2), (.int p3)] 4 = mkF m 0 #[.val (.ref a1), .val (.long q2), .second, .val (.int p3)] [] := by first | (simp [entryFrame, mkF, argsToLocals, Value.category]; done) | rfl
def Q1 (Z : State) (a1 : Addr) (q2 : Int64) (p3 : Int32) (wA : Addr) (h0 : Heap) (n0 : Nat) (v : Option Value) (h : Heap) (L : List Loc) : Prop := v = some (.int (own_pr a1 wA q2 p3)) ∧ Fr n0 L ∧ h = h0
set_option maxRecDepth 65536 in
set_option maxHeartbeats 40000000 in
theorem rm1 (l : Launch) (Z : State) (a0 : Array Value) (hw : ∀ d ∈ tables_1, d.before a0 Z = true) (ws : List Jvm.Cond) (a1 : Addr) (q2 : Int64) (p3 : Int32) (wA : Addr) (h0 : Heap) (n0 : Nat) (Z0 : n0 ≤ h0.size) (O0 : Old Z n0 h0) (S_ALL : Sta Z Z.heap "com/example/quotewright/quotewright/pricing/BundlePromotion$Match" "ALL" "Lcom/example/quotewright/quotewright/pricing/BundlePromotion$Match;" (.ref wA)) :
    MetFree l (⟨"com/example/quotewright/quotewright/pricing/BundlePromotion$Match", "prices", "(JI)Z"⟩ : MethodName) (head1 (Jvm.Cond.code (⟨"com/example/quotewright/quotewright/pricing/BundlePromotion$Match", "prices", "(JI)Z"⟩ : MethodName) prog_13_method_4_code 4 (some .boolean) :: ws) ({ frames := 0, cells := 0, slots := 0, locals := 0 } : Room)) (fun a U => a = #[(.ref a1), (.long q2), (.int p3)] ∧ Z.Warmed39 U.vm ∧ U.heap = h0) (fun _ _ _ _ _ => True) (fun _ U o U' => ∃ v L, o = .returned v ∧ Q1 Z a1 q2 p3 wA h0 n0 v U'.heap L ∧ FrameEnd U o U' L ({ frames := 0, cells := 0, slots := 0, locals := 0 } : Room).cells ({ frames := 0, cells := 0, slots := 0, locals := 0 } : Room).slots) := by
  refine MetFree.of_bodySF (plainFor_of_name pn_0) hisR ?_
  intro p e s m args below meth c s₁ Bd hml0 hP hK
  obtain ⟨rfl, hZ, hh⟩ := hP
  have hx := Bd.exec
  have hby := Bd.bytes
  have hml : c.maxLocals = 4 := hml0
  have hown : s.vm.findClass "com/example/quotewright/quotewright/pricing/BundlePromotion$Match" = some m.cls := findClass_of_methodNamed Bd.named
  have hnm := (name_of_methodNamed Bd.named Bd.method).1
  have X0 : Stand p l e ({ frames := 0, cells := 0, slots := 0, locals := 0 } : Room) s m #[(.ref a1), (.long q2), (.int p3)] below meth c s₁ [] 0 0 := Stand.of_body Bd
  have e0 : s₁.heap = h0 := by rw [← hh, Bd.state]; rfl
  have N0 := Fr.nil n0
  show Go p e below (PP s below (Q1 Z a1 q2 p3 wA h0 n0) ({ frames := 0, cells := 0, slots := 0, locals := 0 } : Room).cells ({ frames := 0, cells := 0, slots := 0, locals := 0 } : Room).slots) (s₁.setTop (entryFrame m #[(.ref a1), (.long q2), (.int p3)] 4))
  refine go (fun _ k => castTop (ef_rm1 m a1 q2 p3) k) ?_
  show Go p e below _ (s₁.setTop (mkF m 0 #[.val (.ref a1), .val (.long q2), .second, .val (.int p3)] []))
  refine go (fun _ k => XS.aloadN X0.here hx rfl (hb hby d1_0) rfl rfl  k) ?_
  show Go p e below _ (s₁.setTop (mkF m 1 #[.val (.ref a1), .val (.long q2), .second, .val (.int p3)] [(.ref a1)]))
  obtain ⟨T1, X1, e1, st1⟩ := getS2 X0 hx hZ hown (host := "") (Or.inl (hw _ (List.mem_of_getElem? (i := 8) rfl))) Via.refl e0 (S_ALL.ext O0.2) (g := (mkF m 1 #[.val (.ref a1), .val (.long q2), .second, .val (.int p3)] [(.ref a1)])) rfl (hb hby d1_1)
  refine go st1 ?_
  show Go p e below _ (T1.setTop (mkF m 4 #[.val (.ref a1), .val (.long q2), .second, .val (.int p3)] [(.ref wA), (.ref a1)]))
  by_cases ha4_1 : (Value.ref a1) = (.ref wA)
  · skip
    refine go (fun _ k => Jvm.RoadKit.acmp (g := (mkF m 4 #[.val (.ref a1), .val (.long q2), .second, .val (.int p3)] [(.ref wA), (.ref a1)])) X1 hx rfl rfl rfl (pc0 := 4) (pc' := 7) (same := true) rfl (hb hby d1_4) rfl (decide_eq_true ha4_1) (by decide) (by decide) k) ?_
    show Go p e below _ (T1.setTop (mkF m 7 #[.val (.ref a1), .val (.long q2), .second, .val (.int p3)] []))
    refine go (fun _ k => XS.lloadN X1.here hx rfl (hb hby d1_7) rfl  k) ?_
    show Go p e below _ (T1.setTop (mkF m 8 #[.val (.ref a1), .val (.long q2), .second, .val (.int p3)] [(.long q2)]))
    refine go (fun _ k => XS.iloadN X1.here hx rfl (hb hby d1_8) rfl  k) ?_
    show Go p e below _ (T1.setTop (mkF m 9 #[.val (.ref a1), .val (.long q2), .second, .val (.int p3)] [(.int p3), (.long q2)]))
    refine go (fun _ k => XS.i2l X1.here hx rfl (hb hby d1_9) rfl k) ?_
    show Go p e below _ (T1.setTop (mkF m 10 #[.val (.ref a1), .val (.long q2), .second, .val (.int p3)] [(.long (p3.toInt64)), (.long q2)]))
    refine go (fun _ k => XS.lcmp X1.here hx rfl (hb hby d1_10) rfl k) ?_
    show Go p e below _ (T1.setTop (mkF m 11 #[.val (.ref a1), .val (.long q2), .second, .val (.int p3)] [(.int (lcmpW q2 (p3.toInt64)))]))
    by_cases hc11_2 : q2 = (p3.toInt64)
    · skip
      refine go (fun _ k => XS.ifNo X1.here hx rfl (hb hby d1_11) rfl ((if0 _ _).trans (teq ((lw_eq _ _).mpr hc11_2)).2) k) ?_
      show Go p e below _ (T1.setTop (mkF m 14 #[.val (.ref a1), .val (.long q2), .second, .val (.int p3)] []))
      refine go (fun _ k => XS.iconst X1.here hx rfl (hb hby d1_14) k) ?_
      show Go p e below _ (T1.setTop (mkF m 15 #[.val (.ref a1), .val (.long q2), .second, .val (.int p3)] [(.int (1 : Int32))]))
      refine go (fun _ k => XS.goto X1.here hx rfl (pc0 := 15) (pc' := 34) rfl (hb hby d1_15) (by decide) (by decide) k) ?_
      show Go p e below _ (T1.setTop (mkF m 34 #[.val (.ref a1), .val (.long q2), .second, .val (.int p3)] [(.int (1 : Int32))]))
      obtain ⟨fs, hr, hrun, hended, hW, hsame⟩ := X1.leave (v := some (.int (1 : Int32))) (fun h => by rw [Bd.returns] at h; cases h)
      refine leaf (T := T1) ⟨fs, retN X1 hx (t := .boolean) Bd.returns (by simp) (hb hby d1_34) hr, hrun, hended, hW, hsame⟩ ?_ (by decide) (by decide)
      show Q1 Z a1 q2 p3 wA h0 n0 _ T1.heap _
      rw [e1]
      exact ⟨(by rw [own_pr, if_pos ha4_1, bz_t hc11_2]), N0, rfl⟩
    · skip
      refine go (fun _ k => XS.ifYes X1.here hx rfl (pc0 := 11) (pc' := 18) rfl (hb hby d1_11) rfl ((if0 _ _).trans (feq (fun q => hc11_2 ((lw_eq _ _).mp q))).2) (by decide) (by decide) k) ?_
      show Go p e below _ (T1.setTop (mkF m 18 #[.val (.ref a1), .val (.long q2), .second, .val (.int p3)] []))
      refine go (fun _ k => XS.iconst X1.here hx rfl (hb hby d1_18) k) ?_
      show Go p e below _ (T1.setTop (mkF m 19 #[.val (.ref a1), .val (.long q2), .second, .val (.int p3)] [(.int (0 : Int32))]))
      refine go (fun _ k => XS.goto X1.here hx rfl (pc0 := 19) (pc' := 34) rfl (hb hby d1_19) (by decide) (by decide) k) ?_
      show Go p e below _ (T1.setTop (mkF m 34 #[.val (.ref a1), .val (.long q2), .second, .val (.int p3)] [(.int (0 : Int32))]))
      obtain ⟨fs, hr, hrun, hended, hW, hsame⟩ := X1.leave (v := some (.int (0 : Int32))) (fun h => by rw [Bd.returns] at h; cases h)
      refine leaf (T := T1) ⟨fs, retN X1 hx (t := .boolean) Bd.returns (by simp) (hb hby d1_34) hr, hrun, hended, hW, hsame⟩ ?_ (by decide) (by decide)
      show Q1 Z a1 q2 p3 wA h0 n0 _ T1.heap _
      rw [e1]
      exact ⟨(by rw [own_pr, if_pos ha4_1, bz_f hc11_2]), N0, rfl⟩
  · skip
    refine go (fun _ k => Jvm.RoadKit.acmp (g := (mkF m 4 #[.val (.ref a1), .val (.long q2), .second, .val (.int p3)] [(.ref wA), (.ref a1)])) X1 hx rfl rfl rfl (pc0 := 4) (pc' := 22) (same := false) rfl (hb hby d1_4) rfl (decide_eq_false ha4_1) (by decide) (by decide) k) ?_
    show Go p e below _ (T1.setTop (mkF m 22 #[.val (.ref a1), .val (.long q2), .second, .val (.int p3)] []))
    refine go (fun _ k => XS.lloadN X1.here hx rfl (hb hby d1_22) rfl  k) ?_
    show Go p e below _ (T1.setTop (mkF m 23 #[.val (.ref a1), .val (.long q2), .second, .val (.int p3)] [(.long q2)]))
    refine go (fun _ k => XS.iloadN X1.here hx rfl (hb hby d1_23) rfl  k) ?_
    show Go p e below _ (T1.setTop (mkF m 24 #[.val (.ref a1), .val (.long q2), .second, .val (.int p3)] [(.int p3), (.long q2)]))
    refine go (fun _ k => XS.i2l X1.here hx rfl (hb hby d1_24) rfl k) ?_
    show Go p e below _ (T1.setTop (mkF m 25 #[.val (.ref a1), .val (.long q2), .second, .val (.int p3)] [(.long (p3.toInt64)), (.long q2)]))
    refine go (fun _ k => XS.lcmp X1.here hx rfl (hb hby d1_25) rfl k) ?_
    show Go p e below _ (T1.setTop (mkF m 26 #[.val (.ref a1), .val (.long q2), .second, .val (.int p3)] [(.int (lcmpW q2 (p3.toInt64)))]))
    by_cases hc26_3 : q2 < (p3.toInt64)
    · skip
      refine go (fun _ k => XS.ifYes X1.here hx rfl (pc0 := 26) (pc' := 33) rfl (hb hby d1_26) rfl ((if0 _ _).trans (tlt ((lw_lt _ _).mpr hc26_3)).1) (by decide) (by decide) k) ?_
      show Go p e below _ (T1.setTop (mkF m 33 #[.val (.ref a1), .val (.long q2), .second, .val (.int p3)] []))
      refine go (fun _ k => XS.iconst X1.here hx rfl (hb hby d1_33) k) ?_
      show Go p e below _ (T1.setTop (mkF m 34 #[.val (.ref a1), .val (.long q2), .second, .val (.int p3)] [(.int (0 : Int32))]))
      obtain ⟨fs, hr, hrun, hended, hW, hsame⟩ := X1.leave (v := some (.int (0 : Int32))) (fun h => by rw [Bd.returns] at h; cases h)
      refine leaf (T := T1) ⟨fs, retN X1 hx (t := .boolean) Bd.returns (by simp) (hb hby d1_34) hr, hrun, hended, hW, hsame⟩ ?_ (by decide) (by decide)
      show Q1 Z a1 q2 p3 wA h0 n0 _ T1.heap _
      rw [e1]
      exact ⟨(by rw [own_pr, if_neg ha4_1, bz_f (fun q => q hc26_3)]), N0, rfl⟩
    · skip
      refine go (fun _ k => XS.ifNo X1.here hx rfl (hb hby d1_26) rfl ((if0 _ _).trans (flt (fun q => hc26_3 ((lw_lt _ _).mp q))).1) k) ?_
      show Go p e below _ (T1.setTop (mkF m 29 #[.val (.ref a1), .val (.long q2), .second, .val (.int p3)] []))
      refine go (fun _ k => XS.iconst X1.here hx rfl (hb hby d1_29) k) ?_
      show Go p e below _ (T1.setTop (mkF m 30 #[.val (.ref a1), .val (.long q2), .second, .val (.int p3)] [(.int (1 : Int32))]))
      refine go (fun _ k => XS.goto X1.here hx rfl (pc0 := 30) (pc' := 34) rfl (hb hby d1_30) (by decide) (by decide) k) ?_
      show Go p e below _ (T1.setTop (mkF m 34 #[.val (.ref a1), .val (.long q2), .second, .val (.int p3)] [(.int (1 : Int32))]))
      obtain ⟨fs, hr, hrun, hended, hW, hsame⟩ := X1.leave (v := some (.int (1 : Int32))) (fun h => by rw [Bd.returns] at h; cases h)
      refine leaf (T := T1) ⟨fs, retN X1 hx (t := .boolean) Bd.returns (by simp) (hb hby d1_34) hr, hrun, hended, hW, hsame⟩ ?_ (by decide) (by decide)
      show Q1 Z a1 q2 p3 wA h0 n0 _ T1.heap _
      rw [e1]
      exact ⟨(by rw [own_pr, if_neg ha4_1, bz_t hc26_3]), N0, rfl⟩
theorem pd_0 : parseMethodDescriptor "(JI)Z" = some ⟨[.long, .int], some .boolean⟩ := by decide +kernel
theorem pd_1 : parseMethodDescriptor "(JJ)J" = some ⟨[.long, .long], some .long⟩ := by decide +kernel
theorem pn_1 : plainName "com/example/quotewright/quotewright/pricing/BundlePromotionPricesPinLaw" = true := by first | (simp [plainName, overriddenIn]; done) | decide +kernel
theorem ef_rm0 (m : MethodId) (q1 : Int64) (p2 : Int32) (p3 : Int32) : entryFrame m #[(.long q1), (.int p2), (.int p3)] maxLocals = mkF m 0 #[.val (.long q1), .second, .val (.int p2), .val (.int p3), .unset, .unset, .unset, .unset, .unset, .unset, .unset, .unset] [] := by first | (simp [entryFrame, mkF, argsToLocals, Value.category, maxLocals]; done) | rfl
def Q0 (Z : State) (q1 : Int64) (p2 : Int32) (p3 : Int32) (wA : Addr) (wP : Addr) (h0 : Heap) (n0 : Nat) (v : Option Value) (h : Heap) (L : List Loc) : Prop := v = some (.int (1 : Int32)) ∧ Fr n0 L
set_option maxRecDepth 65536 in
set_option maxHeartbeats 40000000 in
theorem rm0 (l : Launch) (Z : State) (a0 : Array Value) (hw : ∀ d ∈ tables_1, d.before a0 Z = true) (ws : List Jvm.Cond) (q1 : Int64) (p2 : Int32) (p3 : Int32) (wA : Addr) (wP : Addr) (h0 : Heap) (n0 : Nat) (Z0 : n0 ≤ h0.size) (O0 : Old Z n0 h0) (S_ALL : Sta Z Z.heap "com/example/quotewright/quotewright/pricing/BundlePromotion$Match" "ALL" "Lcom/example/quotewright/quotewright/pricing/BundlePromotion$Match;" (.ref wA)) (S_PARTIAL : Sta Z Z.heap "com/example/quotewright/quotewright/pricing/BundlePromotion$Match" "PARTIAL" "Lcom/example/quotewright/quotewright/pricing/BundlePromotion$Match;" (.ref wP)) (E_wA : Exa Z h0 wA "com/example/quotewright/quotewright/pricing/BundlePromotion$Match") (E_wP : Exa Z h0 wP "com/example/quotewright/quotewright/pricing/BundlePromotion$Match") (hne : ¬ (Value.ref wP = Value.ref wA)) :
    MetFree l x (head1 (Jvm.Cond.code x code maxLocals ret :: ws) room_1) (fun a U => a = #[(.long q1), (.int p2), (.int p3)] ∧ Z.Warmed39 U.vm ∧ U.heap = h0) (fun _ _ _ _ _ => True) (fun _ U o U' => ∃ v L, o = .returned v ∧ Q0 Z q1 p2 p3 wA wP h0 n0 v U'.heap L ∧ FrameEnd U o U' L room_1.cells room_1.slots) := by
  refine MetFree.of_bodySF (plainFor_of_name pn_1) hisR ?_
  intro p e s m args below meth c s₁ Bd hml0 hP hK
  obtain ⟨rfl, hZ, hh⟩ := hP
  have hx := Bd.exec
  have hby := Bd.bytes
  have hml : c.maxLocals = 12 := hml0
  have hown : s.vm.findClass "com/example/quotewright/quotewright/pricing/BundlePromotionPricesPinLaw" = some m.cls := findClass_of_methodNamed Bd.named
  have hnm := (name_of_methodNamed Bd.named Bd.method).1
  have X0 : Stand p l e room_1 s m #[(.long q1), (.int p2), (.int p3)] below meth c s₁ [] 0 0 := Stand.of_body Bd
  have e0 : s₁.heap = h0 := by rw [← hh, Bd.state]; rfl
  have N0 := Fr.nil n0
  show Go p e below (PP s below (Q0 Z q1 p2 p3 wA wP h0 n0) room_1.cells room_1.slots) (s₁.setTop (entryFrame m #[(.long q1), (.int p2), (.int p3)] maxLocals))
  refine go (fun _ k => castTop (ef_rm0 m q1 p2 p3) k) ?_
  show Go p e below _ (s₁.setTop (mkF m 0 #[.val (.long q1), .second, .val (.int p2), .val (.int p3), .unset, .unset, .unset, .unset, .unset, .unset, .unset, .unset] []))
  refine go (fun _ k => XS.iloadN X0.here hx rfl (hb hby at_0) rfl  k) ?_
  show Go p e below _ (s₁.setTop (mkF m 1 #[.val (.long q1), .second, .val (.int p2), .val (.int p3), .unset, .unset, .unset, .unset, .unset, .unset, .unset, .unset] [(.int p2)]))
  refine go (fun _ k => XS.i2l X0.here hx rfl (hb hby at_1) rfl k) ?_
  show Go p e below _ (s₁.setTop (mkF m 2 #[.val (.long q1), .second, .val (.int p2), .val (.int p3), .unset, .unset, .unset, .unset, .unset, .unset, .unset, .unset] [(.long (p2.toInt64))]))
  refine go (fun _ k => XS.lstore X0.here hx rfl (hb hby at_2) rfl (l' := #[.val (.long q1), .second, .val (.int p2), .val (.int p3), .val (.long (p2.toInt64)), .second, .unset, .unset, .unset, .unset, .unset, .unset]) rfl k) ?_
  show Go p e below _ (s₁.setTop (mkF m 4 #[.val (.long q1), .second, .val (.int p2), .val (.int p3), .val (.long (p2.toInt64)), .second, .unset, .unset, .unset, .unset, .unset, .unset] []))
  refine go (fun _ k => XS.iloadN X0.here hx rfl (hb hby at_4) rfl  k) ?_
  show Go p e below _ (s₁.setTop (mkF m 5 #[.val (.long q1), .second, .val (.int p2), .val (.int p3), .val (.long (p2.toInt64)), .second, .unset, .unset, .unset, .unset, .unset, .unset] [(.int p3)]))
  refine go (fun _ k => XS.iconst X0.here hx rfl (hb hby at_5) k) ?_
  show Go p e below _ (s₁.setTop (mkF m 6 #[.val (.long q1), .second, .val (.int p2), .val (.int p3), .val (.long (p2.toInt64)), .second, .unset, .unset, .unset, .unset, .unset, .unset] [(.int (1 : Int32)), (.int p3)]))
  refine go (fun _ k => XS.iand X0.here hx rfl (hb hby at_6) rfl k) ?_
  show Go p e below _ (s₁.setTop (mkF m 7 #[.val (.long q1), .second, .val (.int p2), .val (.int p3), .val (.long (p2.toInt64)), .second, .unset, .unset, .unset, .unset, .unset, .unset] [(.int (p3 &&& (1 : Int32)))]))
  have J25_1 : ∀ (v25_2 : Int64), v25_2 = (if (p3 &&& (1 : Int32)) = (0 : Int32) then q1 else ((p2.toInt64) + ((((p3 >>> ((1 : Int32) &&& 31)) &&& (3 : Int32)) - (1 : Int32)).toInt64))) → Go p e below (PP s below (Q0 Z q1 p2 p3 wA wP h0 n0) room_1.cells room_1.slots) (s₁.setTop (mkF m 25 #[.val (.long q1), .second, .val (.int p2), .val (.int p3), .val (.long (p2.toInt64)), .second, .unset, .unset, .unset, .unset, .unset, .unset] [(.long v25_2)])) := by
    intro v25_2 hv25_2
    show Go p e below _ (s₁.setTop (mkF m 25 #[.val (.long q1), .second, .val (.int p2), .val (.int p3), .val (.long (p2.toInt64)), .second, .unset, .unset, .unset, .unset, .unset, .unset] [(.long v25_2)]))
    refine go (fun _ k => XS.lstore X0.here hx rfl (hb hby at_25) rfl (l' := #[.val (.long q1), .second, .val (.int p2), .val (.int p3), .val (.long (p2.toInt64)), .second, .val (.long v25_2), .second, .unset, .unset, .unset, .unset]) rfl k) ?_
    show Go p e below _ (s₁.setTop (mkF m 27 #[.val (.long q1), .second, .val (.int p2), .val (.int p3), .val (.long (p2.toInt64)), .second, .val (.long v25_2), .second, .unset, .unset, .unset, .unset] []))
    obtain ⟨T2, X2, e2, st2⟩ := getS2 X0 hx hZ hown (host := "") (Or.inl (hw _ (List.mem_of_getElem? (i := 0) rfl))) Via.refl e0 (S_ALL.ext O0.2) (g := (mkF m 27 #[.val (.long q1), .second, .val (.int p2), .val (.int p3), .val (.long (p2.toInt64)), .second, .val (.long v25_2), .second, .unset, .unset, .unset, .unset] [])) rfl (hb hby at_27)
    refine go st2 ?_
    show Go p e below _ (T2.setTop (mkF m 30 #[.val (.long q1), .second, .val (.int p2), .val (.int p3), .val (.long (p2.toInt64)), .second, .val (.long v25_2), .second, .unset, .unset, .unset, .unset] [(.ref wA)]))
    refine go (fun _ k => XS.lload X2.here hx rfl (hb hby at_30) rfl  k) ?_
    show Go p e below _ (T2.setTop (mkF m 32 #[.val (.long q1), .second, .val (.int p2), .val (.int p3), .val (.long (p2.toInt64)), .second, .val (.long v25_2), .second, .unset, .unset, .unset, .unset] [(.long v25_2), (.ref wA)]))
    refine go (fun _ k => XS.iloadN X2.here hx rfl (hb hby at_32) rfl  k) ?_
    show Go p e below _ (T2.setTop (mkF m 33 #[.val (.long q1), .second, .val (.int p2), .val (.int p3), .val (.long (p2.toInt64)), .second, .val (.long v25_2), .second, .unset, .unset, .unset, .unset] [(.int p2), (.long v25_2), (.ref wA)]))
    obtain ⟨cq3, kq3, q3a, q3b, q3c⟩ := isOf hZ e2 E_wA
    obtain ⟨_, _, ⟨T3, L3, k3, n3⟩, -, X3, ⟨Lc3, hQ3, l3, y3, z3⟩, st3⟩ := X2.virtualBack hx (y := (⟨"com/example/quotewright/quotewright/pricing/BundlePromotion$Match", "prices", "(JI)Z"⟩ : MethodName)) (z := (⟨"com/example/quotewright/quotewright/pricing/BundlePromotion$Match", "prices", "(JI)Z"⟩ : MethodName)) hown (mvT hZ (hw _ (List.mem_of_getElem? (i := 3) rfl))) (mvT hZ (hw _ (List.mem_of_getElem? (i := 4) rfl))) (notFace_of_selects (args := #[]) (mvT hZ (hw _ (List.mem_of_getElem? (i := 6) rfl)))) (mvT hZ (hw _ (List.mem_of_getElem? (i := 6) rfl))) (mvT hZ (hw _ (List.mem_of_getElem? (i := 5) rfl))) (by decide) (backOf (W := 0) (rm1 l Z a0 hw [] wA v25_2 p2 wA h0 n0 (Nat.le_trans Z0 (Keep.refl h0 []).1) O0 S_ALL) hZ (hw _ (List.mem_of_getElem? (i := 7) rfl)) (hw _ (List.mem_of_getElem? (i := 1) rfl)) (by decide) (by decide)) q3a q3c (g := (mkF m 33 #[.val (.long q1), .second, .val (.int p2), .val (.int p3), .val (.long (p2.toInt64)), .second, .val (.long v25_2), .second, .unset, .unset, .unset, .unset] [(.int p2), (.long v25_2), (.ref wA)])) rfl (by rw [hml]; rfl) (Steps.refl _) (argsL := [(.long v25_2), (.int p2)]) (rest := []) (lenOf pd_0 rfl) rfl (by show 2 * 0 + _ ≤ _; exact Nat.le_of_eq rfl) (hb hby at_33) (fun _ _ => ⟨rfl, e2, (by decide : 0 + 0 ≤ _), (by decide : 0 + 0 ≤ _)⟩)
    dsimp only [Pt.U, Pt.locs, Pt.cells, Pt.slots] at X3 l3 y3 z3 st3 hQ3
    subst l3 y3 z3
    obtain ⟨rfl, N3q, e3⟩ := hQ3
    have N3 := Fr.app N0 N3q
    skip
    refine go (fun _ k => st3.trans k) ?_
    show Go p e below _ (T3.setTop (mkF m 36 #[.val (.long q1), .second, .val (.int p2), .val (.int p3), .val (.long (p2.toInt64)), .second, .val (.long v25_2), .second, .unset, .unset, .unset, .unset] [(.int (own_pr wA wA v25_2 p2))]))
    refine go (fun _ k => XS.istore X3.here hx rfl (hb hby at_36) rfl (l' := #[.val (.long q1), .second, .val (.int p2), .val (.int p3), .val (.long (p2.toInt64)), .second, .val (.long v25_2), .second, .val (.int (own_pr wA wA v25_2 p2)), .unset, .unset, .unset]) rfl k) ?_
    show Go p e below _ (T3.setTop (mkF m 38 #[.val (.long q1), .second, .val (.int p2), .val (.int p3), .val (.long (p2.toInt64)), .second, .val (.long v25_2), .second, .val (.int (own_pr wA wA v25_2 p2)), .unset, .unset, .unset] []))
    obtain ⟨T4, X4, e4, st4⟩ := getS2 X3 hx hZ hown (host := "") (Or.inl (hw _ (List.mem_of_getElem? (i := 9) rfl))) Via.refl e3 (S_PARTIAL.ext O0.2) (g := (mkF m 38 #[.val (.long q1), .second, .val (.int p2), .val (.int p3), .val (.long (p2.toInt64)), .second, .val (.long v25_2), .second, .val (.int (own_pr wA wA v25_2 p2)), .unset, .unset, .unset] [])) rfl (hb hby at_38)
    refine go st4 ?_
    show Go p e below _ (T4.setTop (mkF m 41 #[.val (.long q1), .second, .val (.int p2), .val (.int p3), .val (.long (p2.toInt64)), .second, .val (.long v25_2), .second, .val (.int (own_pr wA wA v25_2 p2)), .unset, .unset, .unset] [(.ref wP)]))
    refine go (fun _ k => XS.lload X4.here hx rfl (hb hby at_41) rfl  k) ?_
    show Go p e below _ (T4.setTop (mkF m 43 #[.val (.long q1), .second, .val (.int p2), .val (.int p3), .val (.long (p2.toInt64)), .second, .val (.long v25_2), .second, .val (.int (own_pr wA wA v25_2 p2)), .unset, .unset, .unset] [(.long v25_2), (.ref wP)]))
    refine go (fun _ k => XS.iloadN X4.here hx rfl (hb hby at_43) rfl  k) ?_
    show Go p e below _ (T4.setTop (mkF m 44 #[.val (.long q1), .second, .val (.int p2), .val (.int p3), .val (.long (p2.toInt64)), .second, .val (.long v25_2), .second, .val (.int (own_pr wA wA v25_2 p2)), .unset, .unset, .unset] [(.int p2), (.long v25_2), (.ref wP)]))
    obtain ⟨cq5, kq5, q5a, q5b, q5c⟩ := isOf hZ e4 E_wP
    obtain ⟨_, _, ⟨T5, L5, k5, n5⟩, -, X5, ⟨Lc5, hQ5, l5, y5, z5⟩, st5⟩ := X4.virtualBack hx (y := (⟨"com/example/quotewright/quotewright/pricing/BundlePromotion$Match", "prices", "(JI)Z"⟩ : MethodName)) (z := (⟨"com/example/quotewright/quotewright/pricing/BundlePromotion$Match", "prices", "(JI)Z"⟩ : MethodName)) hown (mvT hZ (hw _ (List.mem_of_getElem? (i := 3) rfl))) (mvT hZ (hw _ (List.mem_of_getElem? (i := 4) rfl))) (notFace_of_selects (args := #[]) (mvT hZ (hw _ (List.mem_of_getElem? (i := 6) rfl)))) (mvT hZ (hw _ (List.mem_of_getElem? (i := 6) rfl))) (mvT hZ (hw _ (List.mem_of_getElem? (i := 5) rfl))) (by decide) (backOf (W := 0) (rm1 l Z a0 hw [] wP v25_2 p2 wA h0 n0 (Nat.le_trans Z0 (Keep.refl h0 []).1) O0 S_ALL) hZ (hw _ (List.mem_of_getElem? (i := 7) rfl)) (hw _ (List.mem_of_getElem? (i := 1) rfl)) (by decide) (by decide)) q5a q5c (g := (mkF m 44 #[.val (.long q1), .second, .val (.int p2), .val (.int p3), .val (.long (p2.toInt64)), .second, .val (.long v25_2), .second, .val (.int (own_pr wA wA v25_2 p2)), .unset, .unset, .unset] [(.int p2), (.long v25_2), (.ref wP)])) rfl (by rw [hml]; rfl) (Steps.refl _) (argsL := [(.long v25_2), (.int p2)]) (rest := []) (lenOf pd_0 rfl) rfl (by show 2 * 0 + _ ≤ _; exact Nat.le_of_eq rfl) (hb hby at_44) (fun _ _ => ⟨rfl, e4, (by decide : 0 + 0 ≤ _), (by decide : 0 + 0 ≤ _)⟩)
    dsimp only [Pt.U, Pt.locs, Pt.cells, Pt.slots] at X5 l5 y5 z5 st5 hQ5
    subst l5 y5 z5
    obtain ⟨rfl, N5q, e5⟩ := hQ5
    have N5 := Fr.app N3 N5q
    skip
    refine go (fun _ k => st5.trans k) ?_
    show Go p e below _ (T5.setTop (mkF m 47 #[.val (.long q1), .second, .val (.int p2), .val (.int p3), .val (.long (p2.toInt64)), .second, .val (.long v25_2), .second, .val (.int (own_pr wA wA v25_2 p2)), .unset, .unset, .unset] [(.int (own_pr wP wA v25_2 p2))]))
    refine go (fun _ k => XS.istore X5.here hx rfl (hb hby at_47) rfl (l' := #[.val (.long q1), .second, .val (.int p2), .val (.int p3), .val (.long (p2.toInt64)), .second, .val (.long v25_2), .second, .val (.int (own_pr wA wA v25_2 p2)), .val (.int (own_pr wP wA v25_2 p2)), .unset, .unset]) rfl k) ?_
    show Go p e below _ (T5.setTop (mkF m 49 #[.val (.long q1), .second, .val (.int p2), .val (.int p3), .val (.long (p2.toInt64)), .second, .val (.long v25_2), .second, .val (.int (own_pr wA wA v25_2 p2)), .val (.int (own_pr wP wA v25_2 p2)), .unset, .unset] []))
    refine go (fun _ k => XS.lload X5.here hx rfl (hb hby at_49) rfl  k) ?_
    show Go p e below _ (T5.setTop (mkF m 51 #[.val (.long q1), .second, .val (.int p2), .val (.int p3), .val (.long (p2.toInt64)), .second, .val (.long v25_2), .second, .val (.int (own_pr wA wA v25_2 p2)), .val (.int (own_pr wP wA v25_2 p2)), .unset, .unset] [(.long v25_2)]))
    refine go (fun _ k => XS.lload X5.here hx rfl (hb hby at_51) rfl  k) ?_
    show Go p e below _ (T5.setTop (mkF m 53 #[.val (.long q1), .second, .val (.int p2), .val (.int p3), .val (.long (p2.toInt64)), .second, .val (.long v25_2), .second, .val (.int (own_pr wA wA v25_2 p2)), .val (.int (own_pr wP wA v25_2 p2)), .unset, .unset] [(.long (p2.toInt64)), (.long v25_2)]))
    obtain ⟨_, _, ⟨T6, L6, k6, n6⟩, -, X6, ⟨Lc6, hQ6, l6, y6, z6⟩, st6⟩ := Jvm.LawKit.callS X5 hx (y := (⟨"java/lang/Math", "min", "(JJ)J"⟩ : MethodName)) hown (mvT hZ (hw _ (List.mem_of_getElem? (i := 11) rfl))) (mvT hZ (hw _ (List.mem_of_getElem? (i := 12) rfl))) (mvT hZ (hw _ (List.mem_of_getElem? (i := 13) rfl))) (mvT hZ (hw _ (List.mem_of_getElem? (i := 14) rfl))) (by decide) (backOf (W := 0) (rm2 l Z a0 hw [] v25_2 (p2.toInt64) h0 n0 (Nat.le_trans Z0 (Keep.refl h0 []).1) ) hZ (hw _ (List.mem_of_getElem? (i := 14) rfl)) (hw _ (List.mem_of_getElem? (i := 13) rfl)) (by decide) (by decide)) (g := (mkF m 53 #[.val (.long q1), .second, .val (.int p2), .val (.int p3), .val (.long (p2.toInt64)), .second, .val (.long v25_2), .second, .val (.int (own_pr wA wA v25_2 p2)), .val (.int (own_pr wP wA v25_2 p2)), .unset, .unset] [(.long (p2.toInt64)), (.long v25_2)])) rfl (by rw [hml]; rfl) (argsL := [(.long v25_2), (.long (p2.toInt64))]) (rest := []) (lenOf pd_1 rfl) rfl (by show 2 * 0 + _ ≤ _; exact Nat.le_of_eq rfl) (hb hby at_53) (fun _ _ => ⟨rfl, e5, (by decide : 0 + 0 ≤ _), (by decide : 0 + 0 ≤ _)⟩)
    dsimp only [Pt.U, Pt.locs, Pt.cells, Pt.slots] at X6 l6 y6 z6 st6 hQ6
    subst l6 y6 z6
    obtain ⟨rfl, N6q, e6⟩ := hQ6
    have N6 := Fr.app N5 N6q
    skip
    refine go st6 ?_
    show Go p e below _ (T6.setTop (mkF m 56 #[.val (.long q1), .second, .val (.int p2), .val (.int p3), .val (.long (p2.toInt64)), .second, .val (.long v25_2), .second, .val (.int (own_pr wA wA v25_2 p2)), .val (.int (own_pr wP wA v25_2 p2)), .unset, .unset] [(.long (lmin v25_2 (p2.toInt64)))]))
    refine go (fun _ k => XS.lload X6.here hx rfl (hb hby at_56) rfl  k) ?_
    show Go p e below _ (T6.setTop (mkF m 58 #[.val (.long q1), .second, .val (.int p2), .val (.int p3), .val (.long (p2.toInt64)), .second, .val (.long v25_2), .second, .val (.int (own_pr wA wA v25_2 p2)), .val (.int (own_pr wP wA v25_2 p2)), .unset, .unset] [(.long v25_2), (.long (lmin v25_2 (p2.toInt64)))]))
    refine go (fun _ k => XS.lload X6.here hx rfl (hb hby at_58) rfl  k) ?_
    show Go p e below _ (T6.setTop (mkF m 60 #[.val (.long q1), .second, .val (.int p2), .val (.int p3), .val (.long (p2.toInt64)), .second, .val (.long v25_2), .second, .val (.int (own_pr wA wA v25_2 p2)), .val (.int (own_pr wP wA v25_2 p2)), .unset, .unset] [(.long (p2.toInt64)), (.long v25_2), (.long (lmin v25_2 (p2.toInt64)))]))
    obtain ⟨_, _, ⟨T7, L7, k7, n7⟩, -, X7, ⟨Lc7, hQ7, l7, y7, z7⟩, st7⟩ := Jvm.LawKit.callS X6 hx (y := (⟨"java/lang/Math", "max", "(JJ)J"⟩ : MethodName)) hown (mvT hZ (hw _ (List.mem_of_getElem? (i := 15) rfl))) (mvT hZ (hw _ (List.mem_of_getElem? (i := 16) rfl))) (mvT hZ (hw _ (List.mem_of_getElem? (i := 13) rfl))) (mvT hZ (hw _ (List.mem_of_getElem? (i := 17) rfl))) (by decide) (backOf (W := 2) (rm3 l Z a0 hw [] v25_2 (p2.toInt64) h0 n0 (Nat.le_trans Z0 (Keep.refl h0 []).1) ) hZ (hw _ (List.mem_of_getElem? (i := 17) rfl)) (hw _ (List.mem_of_getElem? (i := 13) rfl)) (by decide) (by decide)) (g := (mkF m 60 #[.val (.long q1), .second, .val (.int p2), .val (.int p3), .val (.long (p2.toInt64)), .second, .val (.long v25_2), .second, .val (.int (own_pr wA wA v25_2 p2)), .val (.int (own_pr wP wA v25_2 p2)), .unset, .unset] [(.long (p2.toInt64)), (.long v25_2), (.long (lmin v25_2 (p2.toInt64)))])) rfl (by rw [hml]; rfl) (argsL := [(.long v25_2), (.long (p2.toInt64))]) (rest := [(.long (lmin v25_2 (p2.toInt64)))]) (lenOf pd_1 rfl) rfl (by show 2 * 0 + _ ≤ _; exact Nat.le_of_eq rfl) (hb hby at_60) (fun _ _ => ⟨rfl, e6, (by decide : 0 + 0 ≤ _), (by decide : 0 + 0 ≤ _)⟩)
    dsimp only [Pt.U, Pt.locs, Pt.cells, Pt.slots] at X7 l7 y7 z7 st7 hQ7
    subst l7 y7 z7
    obtain ⟨rfl, N7q, e7⟩ := hQ7
    have N7 := Fr.app N6 N7q
    skip
    refine go st7 ?_
    show Go p e below _ (T7.setTop (mkF m 63 #[.val (.long q1), .second, .val (.int p2), .val (.int p3), .val (.long (p2.toInt64)), .second, .val (.long v25_2), .second, .val (.int (own_pr wA wA v25_2 p2)), .val (.int (own_pr wP wA v25_2 p2)), .unset, .unset] [(.long (lmax v25_2 (p2.toInt64))), (.long (lmin v25_2 (p2.toInt64)))]))
    refine go (fun _ k => XS.lcmp X7.here hx rfl (hb hby at_63) rfl k) ?_
    show Go p e below _ (T7.setTop (mkF m 64 #[.val (.long q1), .second, .val (.int p2), .val (.int p3), .val (.long (p2.toInt64)), .second, .val (.long v25_2), .second, .val (.int (own_pr wA wA v25_2 p2)), .val (.int (own_pr wP wA v25_2 p2)), .unset, .unset] [(.int (lcmpW (lmin v25_2 (p2.toInt64)) (lmax v25_2 (p2.toInt64))))]))
    have J72_8 : ∀ (v72_4 : Int32), v72_4 = (bz ((lmin v25_2 (p2.toInt64)) = (lmax v25_2 (p2.toInt64)))) → Go p e below (PP s below (Q0 Z q1 p2 p3 wA wP h0 n0) room_1.cells room_1.slots) (T7.setTop (mkF m 72 #[.val (.long q1), .second, .val (.int p2), .val (.int p3), .val (.long (p2.toInt64)), .second, .val (.long v25_2), .second, .val (.int (own_pr wA wA v25_2 p2)), .val (.int (own_pr wP wA v25_2 p2)), .unset, .unset] [(.int v72_4)])) := by
      intro v72_4 hv72_4
      subst hv72_4
      show Go p e below _ (T7.setTop (mkF m 72 #[.val (.long q1), .second, .val (.int p2), .val (.int p3), .val (.long (p2.toInt64)), .second, .val (.long v25_2), .second, .val (.int (own_pr wA wA v25_2 p2)), .val (.int (own_pr wP wA v25_2 p2)), .unset, .unset] [(.int (bz ((lmin v25_2 (p2.toInt64)) = (lmax v25_2 (p2.toInt64)))))]))
      refine go (fun _ k => XS.istore X7.here hx rfl (hb hby at_72) rfl (l' := #[.val (.long q1), .second, .val (.int p2), .val (.int p3), .val (.long (p2.toInt64)), .second, .val (.long v25_2), .second, .val (.int (own_pr wA wA v25_2 p2)), .val (.int (own_pr wP wA v25_2 p2)), .val (.int (bz ((lmin v25_2 (p2.toInt64)) = (lmax v25_2 (p2.toInt64))))), .unset]) rfl k) ?_
      show Go p e below _ (T7.setTop (mkF m 74 #[.val (.long q1), .second, .val (.int p2), .val (.int p3), .val (.long (p2.toInt64)), .second, .val (.long v25_2), .second, .val (.int (own_pr wA wA v25_2 p2)), .val (.int (own_pr wP wA v25_2 p2)), .val (.int (bz ((lmin v25_2 (p2.toInt64)) = (lmax v25_2 (p2.toInt64))))), .unset] []))
      refine go (fun _ k => XS.lload X7.here hx rfl (hb hby at_74) rfl  k) ?_
      show Go p e below _ (T7.setTop (mkF m 76 #[.val (.long q1), .second, .val (.int p2), .val (.int p3), .val (.long (p2.toInt64)), .second, .val (.long v25_2), .second, .val (.int (own_pr wA wA v25_2 p2)), .val (.int (own_pr wP wA v25_2 p2)), .val (.int (bz ((lmin v25_2 (p2.toInt64)) = (lmax v25_2 (p2.toInt64))))), .unset] [(.long v25_2)]))
      refine go (fun _ k => XS.lload X7.here hx rfl (hb hby at_76) rfl  k) ?_
      show Go p e below _ (T7.setTop (mkF m 78 #[.val (.long q1), .second, .val (.int p2), .val (.int p3), .val (.long (p2.toInt64)), .second, .val (.long v25_2), .second, .val (.int (own_pr wA wA v25_2 p2)), .val (.int (own_pr wP wA v25_2 p2)), .val (.int (bz ((lmin v25_2 (p2.toInt64)) = (lmax v25_2 (p2.toInt64))))), .unset] [(.long (p2.toInt64)), (.long v25_2)]))
      obtain ⟨_, _, ⟨T9, L9, k9, n9⟩, -, X9, ⟨Lc9, hQ9, l9, y9, z9⟩, st9⟩ := Jvm.LawKit.callS X7 hx (y := (⟨"java/lang/Math", "max", "(JJ)J"⟩ : MethodName)) hown (mvT hZ (hw _ (List.mem_of_getElem? (i := 15) rfl))) (mvT hZ (hw _ (List.mem_of_getElem? (i := 16) rfl))) (mvT hZ (hw _ (List.mem_of_getElem? (i := 13) rfl))) (mvT hZ (hw _ (List.mem_of_getElem? (i := 17) rfl))) (by decide) (backOf (W := 0) (rm3 l Z a0 hw [] v25_2 (p2.toInt64) h0 n0 (Nat.le_trans Z0 (Keep.refl h0 []).1) ) hZ (hw _ (List.mem_of_getElem? (i := 17) rfl)) (hw _ (List.mem_of_getElem? (i := 13) rfl)) (by decide) (by decide)) (g := (mkF m 78 #[.val (.long q1), .second, .val (.int p2), .val (.int p3), .val (.long (p2.toInt64)), .second, .val (.long v25_2), .second, .val (.int (own_pr wA wA v25_2 p2)), .val (.int (own_pr wP wA v25_2 p2)), .val (.int (bz ((lmin v25_2 (p2.toInt64)) = (lmax v25_2 (p2.toInt64))))), .unset] [(.long (p2.toInt64)), (.long v25_2)])) rfl (by rw [hml]; rfl) (argsL := [(.long v25_2), (.long (p2.toInt64))]) (rest := []) (lenOf pd_1 rfl) rfl (by show 2 * 0 + _ ≤ _; exact Nat.le_of_eq rfl) (hb hby at_78) (fun _ _ => ⟨rfl, e7, (by decide : 0 + 0 ≤ _), (by decide : 0 + 0 ≤ _)⟩)
      dsimp only [Pt.U, Pt.locs, Pt.cells, Pt.slots] at X9 l9 y9 z9 st9 hQ9
      subst l9 y9 z9
      obtain ⟨rfl, N9q, e9⟩ := hQ9
      have N9 := Fr.app N7 N9q
      skip
      refine go st9 ?_
      show Go p e below _ (T9.setTop (mkF m 81 #[.val (.long q1), .second, .val (.int p2), .val (.int p3), .val (.long (p2.toInt64)), .second, .val (.long v25_2), .second, .val (.int (own_pr wA wA v25_2 p2)), .val (.int (own_pr wP wA v25_2 p2)), .val (.int (bz ((lmin v25_2 (p2.toInt64)) = (lmax v25_2 (p2.toInt64))))), .unset] [(.long (lmax v25_2 (p2.toInt64)))]))
      refine go (fun _ k => XS.lload X9.here hx rfl (hb hby at_81) rfl  k) ?_
      show Go p e below _ (T9.setTop (mkF m 83 #[.val (.long q1), .second, .val (.int p2), .val (.int p3), .val (.long (p2.toInt64)), .second, .val (.long v25_2), .second, .val (.int (own_pr wA wA v25_2 p2)), .val (.int (own_pr wP wA v25_2 p2)), .val (.int (bz ((lmin v25_2 (p2.toInt64)) = (lmax v25_2 (p2.toInt64))))), .unset] [(.long v25_2), (.long (lmax v25_2 (p2.toInt64)))]))
      refine go (fun _ k => XS.lcmp X9.here hx rfl (hb hby at_83) rfl k) ?_
      show Go p e below _ (T9.setTop (mkF m 84 #[.val (.long q1), .second, .val (.int p2), .val (.int p3), .val (.long (p2.toInt64)), .second, .val (.long v25_2), .second, .val (.int (own_pr wA wA v25_2 p2)), .val (.int (own_pr wP wA v25_2 p2)), .val (.int (bz ((lmin v25_2 (p2.toInt64)) = (lmax v25_2 (p2.toInt64))))), .unset] [(.int (lcmpW (lmax v25_2 (p2.toInt64)) v25_2))]))
      have J92_10 : ∀ (v92_6 : Int32), v92_6 = (bz ((lmax v25_2 (p2.toInt64)) = v25_2)) → Go p e below (PP s below (Q0 Z q1 p2 p3 wA wP h0 n0) room_1.cells room_1.slots) (T9.setTop (mkF m 92 #[.val (.long q1), .second, .val (.int p2), .val (.int p3), .val (.long (p2.toInt64)), .second, .val (.long v25_2), .second, .val (.int (own_pr wA wA v25_2 p2)), .val (.int (own_pr wP wA v25_2 p2)), .val (.int (bz ((lmin v25_2 (p2.toInt64)) = (lmax v25_2 (p2.toInt64))))), .unset] [(.int v92_6)])) := by
        intro v92_6 hv92_6
        subst hv92_6
        show Go p e below _ (T9.setTop (mkF m 92 #[.val (.long q1), .second, .val (.int p2), .val (.int p3), .val (.long (p2.toInt64)), .second, .val (.long v25_2), .second, .val (.int (own_pr wA wA v25_2 p2)), .val (.int (own_pr wP wA v25_2 p2)), .val (.int (bz ((lmin v25_2 (p2.toInt64)) = (lmax v25_2 (p2.toInt64))))), .unset] [(.int (bz ((lmax v25_2 (p2.toInt64)) = v25_2)))]))
        refine go (fun _ k => XS.istore X9.here hx rfl (hb hby at_92) rfl (l' := #[.val (.long q1), .second, .val (.int p2), .val (.int p3), .val (.long (p2.toInt64)), .second, .val (.long v25_2), .second, .val (.int (own_pr wA wA v25_2 p2)), .val (.int (own_pr wP wA v25_2 p2)), .val (.int (bz ((lmin v25_2 (p2.toInt64)) = (lmax v25_2 (p2.toInt64))))), .val (.int (bz ((lmax v25_2 (p2.toInt64)) = v25_2)))]) rfl k) ?_
        show Go p e below _ (T9.setTop (mkF m 94 #[.val (.long q1), .second, .val (.int p2), .val (.int p3), .val (.long (p2.toInt64)), .second, .val (.long v25_2), .second, .val (.int (own_pr wA wA v25_2 p2)), .val (.int (own_pr wP wA v25_2 p2)), .val (.int (bz ((lmin v25_2 (p2.toInt64)) = (lmax v25_2 (p2.toInt64))))), .val (.int (bz ((lmax v25_2 (p2.toInt64)) = v25_2)))] []))
        refine go (fun _ k => XS.iload X9.here hx rfl (hb hby at_94) rfl  k) ?_
        show Go p e below _ (T9.setTop (mkF m 96 #[.val (.long q1), .second, .val (.int p2), .val (.int p3), .val (.long (p2.toInt64)), .second, .val (.long v25_2), .second, .val (.int (own_pr wA wA v25_2 p2)), .val (.int (own_pr wP wA v25_2 p2)), .val (.int (bz ((lmin v25_2 (p2.toInt64)) = (lmax v25_2 (p2.toInt64))))), .val (.int (bz ((lmax v25_2 (p2.toInt64)) = v25_2)))] [(.int (own_pr wA wA v25_2 p2))]))
        refine go (fun _ k => XS.iload X9.here hx rfl (hb hby at_96) rfl  k) ?_
        show Go p e below _ (T9.setTop (mkF m 98 #[.val (.long q1), .second, .val (.int p2), .val (.int p3), .val (.long (p2.toInt64)), .second, .val (.long v25_2), .second, .val (.int (own_pr wA wA v25_2 p2)), .val (.int (own_pr wP wA v25_2 p2)), .val (.int (bz ((lmin v25_2 (p2.toInt64)) = (lmax v25_2 (p2.toInt64))))), .val (.int (bz ((lmax v25_2 (p2.toInt64)) = v25_2)))] [(.int (bz ((lmin v25_2 (p2.toInt64)) = (lmax v25_2 (p2.toInt64))))), (.int (own_pr wA wA v25_2 p2))]))
        have hc98_7 : (own_pr wA wA v25_2 p2) = (bz ((lmin v25_2 (p2.toInt64)) = (lmax v25_2 (p2.toInt64)))) := own_all wA _ p2
        refine go (fun _ k => XS.icmpNo X9.here hx rfl (hb hby at_98) rfl (teq hc98_7).2 k) ?_
        show Go p e below _ (T9.setTop (mkF m 101 #[.val (.long q1), .second, .val (.int p2), .val (.int p3), .val (.long (p2.toInt64)), .second, .val (.long v25_2), .second, .val (.int (own_pr wA wA v25_2 p2)), .val (.int (own_pr wP wA v25_2 p2)), .val (.int (bz ((lmin v25_2 (p2.toInt64)) = (lmax v25_2 (p2.toInt64))))), .val (.int (bz ((lmax v25_2 (p2.toInt64)) = v25_2)))] []))
        refine go (fun _ k => XS.iload X9.here hx rfl (hb hby at_101) rfl  k) ?_
        show Go p e below _ (T9.setTop (mkF m 103 #[.val (.long q1), .second, .val (.int p2), .val (.int p3), .val (.long (p2.toInt64)), .second, .val (.long v25_2), .second, .val (.int (own_pr wA wA v25_2 p2)), .val (.int (own_pr wP wA v25_2 p2)), .val (.int (bz ((lmin v25_2 (p2.toInt64)) = (lmax v25_2 (p2.toInt64))))), .val (.int (bz ((lmax v25_2 (p2.toInt64)) = v25_2)))] [(.int (own_pr wP wA v25_2 p2))]))
        refine go (fun _ k => XS.iload X9.here hx rfl (hb hby at_103) rfl  k) ?_
        show Go p e below _ (T9.setTop (mkF m 105 #[.val (.long q1), .second, .val (.int p2), .val (.int p3), .val (.long (p2.toInt64)), .second, .val (.long v25_2), .second, .val (.int (own_pr wA wA v25_2 p2)), .val (.int (own_pr wP wA v25_2 p2)), .val (.int (bz ((lmin v25_2 (p2.toInt64)) = (lmax v25_2 (p2.toInt64))))), .val (.int (bz ((lmax v25_2 (p2.toInt64)) = v25_2)))] [(.int (bz ((lmax v25_2 (p2.toInt64)) = v25_2))), (.int (own_pr wP wA v25_2 p2))]))
        have hc105_8 : (own_pr wP wA v25_2 p2) = (bz ((lmax v25_2 (p2.toInt64)) = v25_2)) := own_part wP wA hne _ p2
        refine go (fun _ k => XS.icmpNo X9.here hx rfl (hb hby at_105) rfl (teq hc105_8).2 k) ?_
        show Go p e below _ (T9.setTop (mkF m 108 #[.val (.long q1), .second, .val (.int p2), .val (.int p3), .val (.long (p2.toInt64)), .second, .val (.long v25_2), .second, .val (.int (own_pr wA wA v25_2 p2)), .val (.int (own_pr wP wA v25_2 p2)), .val (.int (bz ((lmin v25_2 (p2.toInt64)) = (lmax v25_2 (p2.toInt64))))), .val (.int (bz ((lmax v25_2 (p2.toInt64)) = v25_2)))] []))
        refine go (fun _ k => XS.iconst X9.here hx rfl (hb hby at_108) k) ?_
        show Go p e below _ (T9.setTop (mkF m 109 #[.val (.long q1), .second, .val (.int p2), .val (.int p3), .val (.long (p2.toInt64)), .second, .val (.long v25_2), .second, .val (.int (own_pr wA wA v25_2 p2)), .val (.int (own_pr wP wA v25_2 p2)), .val (.int (bz ((lmin v25_2 (p2.toInt64)) = (lmax v25_2 (p2.toInt64))))), .val (.int (bz ((lmax v25_2 (p2.toInt64)) = v25_2)))] [(.int (1 : Int32))]))
        refine go (fun _ k => XS.goto X9.here hx rfl (pc0 := 109) (pc' := 113) rfl (hb hby at_109) (by decide) (by decide) k) ?_
        show Go p e below _ (T9.setTop (mkF m 113 #[.val (.long q1), .second, .val (.int p2), .val (.int p3), .val (.long (p2.toInt64)), .second, .val (.long v25_2), .second, .val (.int (own_pr wA wA v25_2 p2)), .val (.int (own_pr wP wA v25_2 p2)), .val (.int (bz ((lmin v25_2 (p2.toInt64)) = (lmax v25_2 (p2.toInt64))))), .val (.int (bz ((lmax v25_2 (p2.toInt64)) = v25_2)))] [(.int (1 : Int32))]))
        obtain ⟨fs, hr, hrun, hended, hW, hsame⟩ := X9.leave (v := some (.int (1 : Int32))) (fun h => by rw [Bd.returns] at h; cases h)
        refine leaf (T := T9) ⟨fs, retN X9 hx (t := .boolean) Bd.returns (by simp) (hb hby at_113) hr, hrun, hended, hW, hsame⟩ ?_ (by decide) (by decide)
        show Q0 Z q1 p2 p3 wA wP h0 n0 _ T9.heap _
        rw [e9]
        exact ⟨rfl, N9⟩
      by_cases hc84_5 : (lmax v25_2 (p2.toInt64)) = v25_2
      · skip
        refine go (fun _ k => XS.ifNo X9.here hx rfl (hb hby at_84) rfl ((if0 _ _).trans (teq ((lw_eq _ _).mpr hc84_5)).2) k) ?_
        show Go p e below _ (T9.setTop (mkF m 87 #[.val (.long q1), .second, .val (.int p2), .val (.int p3), .val (.long (p2.toInt64)), .second, .val (.long v25_2), .second, .val (.int (own_pr wA wA v25_2 p2)), .val (.int (own_pr wP wA v25_2 p2)), .val (.int (bz ((lmin v25_2 (p2.toInt64)) = (lmax v25_2 (p2.toInt64))))), .unset] []))
        refine go (fun _ k => XS.iconst X9.here hx rfl (hb hby at_87) k) ?_
        show Go p e below _ (T9.setTop (mkF m 88 #[.val (.long q1), .second, .val (.int p2), .val (.int p3), .val (.long (p2.toInt64)), .second, .val (.long v25_2), .second, .val (.int (own_pr wA wA v25_2 p2)), .val (.int (own_pr wP wA v25_2 p2)), .val (.int (bz ((lmin v25_2 (p2.toInt64)) = (lmax v25_2 (p2.toInt64))))), .unset] [(.int (1 : Int32))]))
        refine go (fun _ k => XS.goto X9.here hx rfl (pc0 := 88) (pc' := 92) rfl (hb hby at_88) (by decide) (by decide) k) ?_
        show Go p e below _ (T9.setTop (mkF m 92 #[.val (.long q1), .second, .val (.int p2), .val (.int p3), .val (.long (p2.toInt64)), .second, .val (.long v25_2), .second, .val (.int (own_pr wA wA v25_2 p2)), .val (.int (own_pr wP wA v25_2 p2)), .val (.int (bz ((lmin v25_2 (p2.toInt64)) = (lmax v25_2 (p2.toInt64))))), .unset] [(.int (1 : Int32))]))
        exact J92_10 _ (by simp only [if_pos hc84_5, bz_t hc84_5, bz_f (fun q => q hc84_5 : ¬ ¬ ((lmax v25_2 (p2.toInt64)) = v25_2))])
      · skip
        refine go (fun _ k => XS.ifYes X9.here hx rfl (pc0 := 84) (pc' := 91) rfl (hb hby at_84) rfl ((if0 _ _).trans (feq (fun q => hc84_5 ((lw_eq _ _).mp q))).2) (by decide) (by decide) k) ?_
        show Go p e below _ (T9.setTop (mkF m 91 #[.val (.long q1), .second, .val (.int p2), .val (.int p3), .val (.long (p2.toInt64)), .second, .val (.long v25_2), .second, .val (.int (own_pr wA wA v25_2 p2)), .val (.int (own_pr wP wA v25_2 p2)), .val (.int (bz ((lmin v25_2 (p2.toInt64)) = (lmax v25_2 (p2.toInt64))))), .unset] []))
        refine go (fun _ k => XS.iconst X9.here hx rfl (hb hby at_91) k) ?_
        show Go p e below _ (T9.setTop (mkF m 92 #[.val (.long q1), .second, .val (.int p2), .val (.int p3), .val (.long (p2.toInt64)), .second, .val (.long v25_2), .second, .val (.int (own_pr wA wA v25_2 p2)), .val (.int (own_pr wP wA v25_2 p2)), .val (.int (bz ((lmin v25_2 (p2.toInt64)) = (lmax v25_2 (p2.toInt64))))), .unset] [(.int (0 : Int32))]))
        exact J92_10 _ (by simp only [if_neg hc84_5, bz_f hc84_5, bz_t hc84_5])
    by_cases hc64_3 : (lmin v25_2 (p2.toInt64)) = (lmax v25_2 (p2.toInt64))
    · skip
      refine go (fun _ k => XS.ifNo X7.here hx rfl (hb hby at_64) rfl ((if0 _ _).trans (teq ((lw_eq _ _).mpr hc64_3)).2) k) ?_
      show Go p e below _ (T7.setTop (mkF m 67 #[.val (.long q1), .second, .val (.int p2), .val (.int p3), .val (.long (p2.toInt64)), .second, .val (.long v25_2), .second, .val (.int (own_pr wA wA v25_2 p2)), .val (.int (own_pr wP wA v25_2 p2)), .unset, .unset] []))
      refine go (fun _ k => XS.iconst X7.here hx rfl (hb hby at_67) k) ?_
      show Go p e below _ (T7.setTop (mkF m 68 #[.val (.long q1), .second, .val (.int p2), .val (.int p3), .val (.long (p2.toInt64)), .second, .val (.long v25_2), .second, .val (.int (own_pr wA wA v25_2 p2)), .val (.int (own_pr wP wA v25_2 p2)), .unset, .unset] [(.int (1 : Int32))]))
      refine go (fun _ k => XS.goto X7.here hx rfl (pc0 := 68) (pc' := 72) rfl (hb hby at_68) (by decide) (by decide) k) ?_
      show Go p e below _ (T7.setTop (mkF m 72 #[.val (.long q1), .second, .val (.int p2), .val (.int p3), .val (.long (p2.toInt64)), .second, .val (.long v25_2), .second, .val (.int (own_pr wA wA v25_2 p2)), .val (.int (own_pr wP wA v25_2 p2)), .unset, .unset] [(.int (1 : Int32))]))
      exact J72_8 _ (by simp only [if_pos hc64_3, bz_t hc64_3, bz_f (fun q => q hc64_3 : ¬ ¬ ((lmin v25_2 (p2.toInt64)) = (lmax v25_2 (p2.toInt64))))])
    · skip
      refine go (fun _ k => XS.ifYes X7.here hx rfl (pc0 := 64) (pc' := 71) rfl (hb hby at_64) rfl ((if0 _ _).trans (feq (fun q => hc64_3 ((lw_eq _ _).mp q))).2) (by decide) (by decide) k) ?_
      show Go p e below _ (T7.setTop (mkF m 71 #[.val (.long q1), .second, .val (.int p2), .val (.int p3), .val (.long (p2.toInt64)), .second, .val (.long v25_2), .second, .val (.int (own_pr wA wA v25_2 p2)), .val (.int (own_pr wP wA v25_2 p2)), .unset, .unset] []))
      refine go (fun _ k => XS.iconst X7.here hx rfl (hb hby at_71) k) ?_
      show Go p e below _ (T7.setTop (mkF m 72 #[.val (.long q1), .second, .val (.int p2), .val (.int p3), .val (.long (p2.toInt64)), .second, .val (.long v25_2), .second, .val (.int (own_pr wA wA v25_2 p2)), .val (.int (own_pr wP wA v25_2 p2)), .unset, .unset] [(.int (0 : Int32))]))
      exact J72_8 _ (by simp only [if_neg hc64_3, bz_f hc64_3, bz_t hc64_3])
  by_cases hc7_1 : (p3 &&& (1 : Int32)) = (0 : Int32)
  · skip
    refine go (fun _ k => XS.ifYes X0.here hx rfl (pc0 := 7) (pc' := 24) rfl (hb hby at_7) rfl ((if0 _ _).trans (teq hc7_1).1) (by decide) (by decide) k) ?_
    show Go p e below _ (s₁.setTop (mkF m 24 #[.val (.long q1), .second, .val (.int p2), .val (.int p3), .val (.long (p2.toInt64)), .second, .unset, .unset, .unset, .unset, .unset, .unset] []))
    refine go (fun _ k => XS.lloadN X0.here hx rfl (hb hby at_24) rfl  k) ?_
    show Go p e below _ (s₁.setTop (mkF m 25 #[.val (.long q1), .second, .val (.int p2), .val (.int p3), .val (.long (p2.toInt64)), .second, .unset, .unset, .unset, .unset, .unset, .unset] [(.long q1)]))
    exact J25_1 _ (by simp only [if_pos hc7_1, bz_t hc7_1, bz_f (fun q => q hc7_1 : ¬ ¬ ((p3 &&& (1 : Int32)) = (0 : Int32)))])
  · skip
    refine go (fun _ k => XS.ifNo X0.here hx rfl (hb hby at_7) rfl ((if0 _ _).trans (feq hc7_1).1) k) ?_
    show Go p e below _ (s₁.setTop (mkF m 10 #[.val (.long q1), .second, .val (.int p2), .val (.int p3), .val (.long (p2.toInt64)), .second, .unset, .unset, .unset, .unset, .unset, .unset] []))
    refine go (fun _ k => XS.lload X0.here hx rfl (hb hby at_10) rfl  k) ?_
    show Go p e below _ (s₁.setTop (mkF m 12 #[.val (.long q1), .second, .val (.int p2), .val (.int p3), .val (.long (p2.toInt64)), .second, .unset, .unset, .unset, .unset, .unset, .unset] [(.long (p2.toInt64))]))
    refine go (fun _ k => XS.iloadN X0.here hx rfl (hb hby at_12) rfl  k) ?_
    show Go p e below _ (s₁.setTop (mkF m 13 #[.val (.long q1), .second, .val (.int p2), .val (.int p3), .val (.long (p2.toInt64)), .second, .unset, .unset, .unset, .unset, .unset, .unset] [(.int p3), (.long (p2.toInt64))]))
    refine go (fun _ k => XS.iconst X0.here hx rfl (hb hby at_13) k) ?_
    show Go p e below _ (s₁.setTop (mkF m 14 #[.val (.long q1), .second, .val (.int p2), .val (.int p3), .val (.long (p2.toInt64)), .second, .unset, .unset, .unset, .unset, .unset, .unset] [(.int (1 : Int32)), (.int p3), (.long (p2.toInt64))]))
    refine go (fun _ k => XS.ishr X0.here hx rfl (hb hby at_14) rfl k) ?_
    show Go p e below _ (s₁.setTop (mkF m 15 #[.val (.long q1), .second, .val (.int p2), .val (.int p3), .val (.long (p2.toInt64)), .second, .unset, .unset, .unset, .unset, .unset, .unset] [(.int (p3 >>> ((1 : Int32) &&& 31))), (.long (p2.toInt64))]))
    refine go (fun _ k => XS.iconst X0.here hx rfl (hb hby at_15) k) ?_
    show Go p e below _ (s₁.setTop (mkF m 16 #[.val (.long q1), .second, .val (.int p2), .val (.int p3), .val (.long (p2.toInt64)), .second, .unset, .unset, .unset, .unset, .unset, .unset] [(.int (3 : Int32)), (.int (p3 >>> ((1 : Int32) &&& 31))), (.long (p2.toInt64))]))
    refine go (fun _ k => XS.iand X0.here hx rfl (hb hby at_16) rfl k) ?_
    show Go p e below _ (s₁.setTop (mkF m 17 #[.val (.long q1), .second, .val (.int p2), .val (.int p3), .val (.long (p2.toInt64)), .second, .unset, .unset, .unset, .unset, .unset, .unset] [(.int ((p3 >>> ((1 : Int32) &&& 31)) &&& (3 : Int32))), (.long (p2.toInt64))]))
    refine go (fun _ k => XS.iconst X0.here hx rfl (hb hby at_17) k) ?_
    show Go p e below _ (s₁.setTop (mkF m 18 #[.val (.long q1), .second, .val (.int p2), .val (.int p3), .val (.long (p2.toInt64)), .second, .unset, .unset, .unset, .unset, .unset, .unset] [(.int (1 : Int32)), (.int ((p3 >>> ((1 : Int32) &&& 31)) &&& (3 : Int32))), (.long (p2.toInt64))]))
    refine go (fun _ k => XS.isub X0.here hx rfl (hb hby at_18) rfl k) ?_
    show Go p e below _ (s₁.setTop (mkF m 19 #[.val (.long q1), .second, .val (.int p2), .val (.int p3), .val (.long (p2.toInt64)), .second, .unset, .unset, .unset, .unset, .unset, .unset] [(.int (((p3 >>> ((1 : Int32) &&& 31)) &&& (3 : Int32)) - (1 : Int32))), (.long (p2.toInt64))]))
    refine go (fun _ k => XS.i2l X0.here hx rfl (hb hby at_19) rfl k) ?_
    show Go p e below _ (s₁.setTop (mkF m 20 #[.val (.long q1), .second, .val (.int p2), .val (.int p3), .val (.long (p2.toInt64)), .second, .unset, .unset, .unset, .unset, .unset, .unset] [(.long ((((p3 >>> ((1 : Int32) &&& 31)) &&& (3 : Int32)) - (1 : Int32)).toInt64)), (.long (p2.toInt64))]))
    refine go (fun _ k => XS.ladd X0.here hx rfl (hb hby at_20) rfl k) ?_
    show Go p e below _ (s₁.setTop (mkF m 21 #[.val (.long q1), .second, .val (.int p2), .val (.int p3), .val (.long (p2.toInt64)), .second, .unset, .unset, .unset, .unset, .unset, .unset] [(.long ((p2.toInt64) + ((((p3 >>> ((1 : Int32) &&& 31)) &&& (3 : Int32)) - (1 : Int32)).toInt64)))]))
    refine go (fun _ k => XS.goto X0.here hx rfl (pc0 := 21) (pc' := 25) rfl (hb hby at_21) (by decide) (by decide) k) ?_
    show Go p e below _ (s₁.setTop (mkF m 25 #[.val (.long q1), .second, .val (.int p2), .val (.int p3), .val (.long (p2.toInt64)), .second, .unset, .unset, .unset, .unset, .unset, .unset] [(.long ((p2.toInt64) + ((((p3 >>> ((1 : Int32) &&& 31)) &&& (3 : Int32)) - (1 : Int32)).toInt64)))]))
    exact J25_1 _ (by simp only [if_neg hc7_1, bz_f hc7_1, bz_t hc7_1])
set_option maxRecDepth 65536 in
set_option maxHeartbeats 40000000 in
theorem comes_1 {Post : Tables → Env → Array Value → State → Outcome → State → Prop} (hpost : ∀ tb e args s v u, (limb_1_1.after args s (.returned v) u = true ∧ limb_1_2.after args s (.returned v) u = true ∧ True) → FrameEnd s (.returned v) u (Jvm.fieldLocs frame_1_writes args s ++ Jvm.arrayLocs frame_1_arrays args s ++ Jvm.staticLocs frame_1_statics s) 0 0 → Post tb e args s (.returned v) u) :
    ArmFor flags0 classFile x code maxLocals ret World_1 tables_1 room_1 Calls_1 rest_1 Pre_1 Post := by
  intro l hfl _ _ p e ha hc hk s m args below hf hA hF happ hP
  obtain ⟨hcalls, hrest, hpre⟩ := hP
  obtain ⟨-, -, -, hnamed, -, -, -, hat⟩ := (Spec.applies_iff hf).mp happ
  obtain ⟨hg, hn⟩ := and_e (Cond.before_iff.mp (show (Jvm.Cond.and given_1 narrow_1).before args s = true from hpre))
  obtain ⟨hg1, hg2⟩ := and_e hg
  obtain ⟨hg3, hg4⟩ := and_e hg2
  obtain ⟨hg5, hg6⟩ := and_e hg4
  obtain ⟨w0, w1, w2, rfl⟩ : ∃ w0 w1 w2 : Value, args = #[w0, w1, w2] := by
    have hs : args.size = 3 := by simpa [Cond.value, given_1] using hg1
    obtain ⟨L⟩ := args
    match L, hs with
    | [w0, w1, w2], _ => exact ⟨w0, w1, w2, rfl⟩
  have hw := fun d (hd : d ∈ tables_1) => atoms_spec (ws := Jvm.Cond.code x code maxLocals ret :: tables_1) hat d (List.mem_cons_of_mem _ hd)
  have hfit : Fit s := fun {y c} hc i hi => by
    obtain ⟨ha, rfl⟩ := Array.getElem?_eq_some_iff.mp hc
    have q := List.all_eq_true.mp ((Array.all_eq_true_iff_forall_mem.mp hF) _ (Array.getElem_mem ha)) i (List.mem_range.mpr hi)
    simpa [Array.getElem?_eq_getElem hi] using q
  obtain ⟨i0, ei0⟩ := isL_v hg3
  obtain rfl : w0 = (.long i0) := Option.some.inj ei0
  obtain ⟨i1, ei1⟩ := is_v hg5
  obtain rfl : w1 = (.int i1) := Option.some.inj ei1
  obtain ⟨i2, ei2⟩ := is_v hg6
  obtain rfl : w2 = (.int i2) := Option.some.inj ei2
  obtain ⟨hA, hn1⟩ := and_e hn
  obtain ⟨hP, hn2⟩ := and_e hn1
  obtain ⟨oP, oA⟩ := and_e hn2
  obtain ⟨wA, eA⟩ := exa_v hA
  obtain ⟨wP, eP⟩ := exa_v hP
  have fA := own_ord eA oA
  have fP := own_ord eP oP
  have hne : ¬ (Value.ref wP = Value.ref wA) := by
    intro q
    cases q
    rw [fA] at fP
    exact absurd (Option.some.inj fP) (by decide)
  have SA := Sta.start eA (Or.inr ⟨hw _ (List.mem_of_getElem? (i := 1) rfl), hw _ (List.mem_of_getElem? (i := 2) rfl)⟩)
  have SP := Sta.start eP (Or.inr ⟨hw _ (List.mem_of_getElem? (i := 1) rfl), hw _ (List.mem_of_getElem? (i := 10) rfl)⟩)
  obtain ⟨n, o, h1, h2, h3, _, L, rfl, ⟨rfl, N⟩, hq⟩ := rm0 l s _ hw tables_1 i0 i1 i2 wA wP s.heap s.heap.size (Nat.le_refl _) (Old.start s) SA SP (Exa.start eA hA) (Exa.start eP hP) hne p e ha hc hk s m _ below hf ((Spec.applies_iff_loose hf).mp happ).1 ⟨rfl, State.Warmed39.refl s, rfl⟩ trivial
  refine ⟨n, _, h1, h2, h3, hpost _ _ _ _ _ _ ⟨Cond.after_iff.mpr rfl, Cond.after_iff.mpr (eq_i res_at (Term.int_eval (1)) rfl), trivial⟩ ⟨hq.1, hq.2.1, (hq.2.2.sift fun y hy => Or.inr (N y hy)).mono (by decide) (by decide)⟩⟩
theorem main_1_1 : Claimed_1_1 := comes_1 fun _ _ _ _ _ _ h hF => ⟨h.1, hF⟩
theorem main_1_2 : Claimed_1_2 := comes_1 fun _ _ _ _ _ _ h hF => ⟨h.2.1, hF⟩
end Jvm.Pilot.@@N@@
namespace Jvm.Pilot.@@N@@
open Jvm Jvm.ClassFile Sem Op Lib Jvm.Free Jvm.Stand Jvm.Pilot.@@N@@.Jvm.D
/-! MADE BY PROGRAM (witnessworld.py) out of the Statement's table words and the real class files: 13 classes; the members and pool entries that the words name. The judged class is class 1, her method 1. -/
namespace start1
open Jvm.ClassFile
def u (s : String) : CpInfo := .utf8 (stringToUtf16 s)
/-- a pool by its gaps: so many unusable entries, then the entry; so many at the end -/
def gap : Nat → List CpInfo → List CpInfo
  | 0, r => r
  | n + 1, r => .unusable :: gap n r
def poolList (es : List (Nat × CpInfo)) (last : Nat) : List CpInfo := es.foldr (fun e r => gap e.1 (e.2 :: r)) (gap last [])
def pool (es : List (Nat × CpInfo)) (last : Nat) : Array CpInfo := ⟨poolList es last⟩
def fileOf (pool : Array CpInfo) (this : Nat) (attrs : Array Attribute := #[]) (ms : Array MethodInfo := #[]) (fl : Nat := 33) (sup : Nat := 0) (ifs : Array Nat := #[]) (fds : Array FieldInfo := #[]) : ClassFile where
  minorVersion := 0
  majorVersion := 65
  constantPool := pool
  accessFlags := fl
  thisClass := this
  superClass := sup
  interfaces := ifs
  fields := fds
  methods := ms
  attributes := attrs
def plain (name : String) (sup : Option ClassId) : Class where
  name := name
  kind := .ordinary
  loader := none
  accessFlags := 33
  super := sup
  interfaces := #[]
  cf := none
  fields := #[]
  methods := #[]
  instanceTypes := #[]
  staticTypes := #[]
  resolved := #[]
  callSites := []
  init := .initialized
  statics := none
  mirror := none

def pool0 : Array CpInfo := pool [(5, u "<init>"), (0, u "()V"), (1, .class_ 10), (1, u "java/lang/Object")] 113

def k0m0 : Method := { name := "<init>", desc := "()V", sig := { parameters := [], returnType := none }, accessFlags := 1, code := none }
/-- java/lang/Object -/
def k0 : Class := { plain "java/lang/Object" none with
  accessFlags := 33
  interfaces := #[]
  cf := some (fileOf pool0 8 #[] #[{ accessFlags := 1, nameIndex := 5, descriptorIndex := 6, attributes := #[] }] 33 0 #[] #[])
  fields := #[]
  methods := #[k0m0]
  instanceTypes := #[]
  staticTypes := #[]
  resolved := Array.replicate 124 none
  statics := none }

def pool1 : Array CpInfo := pool [(2, .class_ 4), (1, u "java/lang/Object"), (0, u "<init>"), (0, u "()V"), (0, .fieldref 8 9), (0, .class_ 10), (0, .nameAndType 11 12), (0, u "com/example/quotewright/quotewright/pricing/BundlePromotion$Match"), (0, u "ALL"), (0, u "Lcom/example/quotewright/quotewright/pricing/BundlePromotion$Match;"), (0, .methodref 8 14), (0, .nameAndType 15 16), (0, u "prices"), (0, u "(JI)Z"), (0, .fieldref 8 18), (0, .nameAndType 19 12), (0, u "PARTIAL"), (0, .methodref 21 22), (0, .class_ 23), (0, .nameAndType 24 25), (0, u "java/lang/Math"), (0, u "min"), (0, u "(JJ)J"), (0, .methodref 21 27), (0, .nameAndType 28 25), (0, u "max"), (0, .class_ 30), (0, u "com/example/quotewright/quotewright/pricing/BundlePromotionPricesPinLaw"), (2, u "law"), (0, u "(JII)Z")] 7

def k1m0 : Method := { name := "<init>", desc := "()V", sig := { parameters := [], returnType := none }, accessFlags := 2, code := none }
def k1c1 : Code := { maxStack := 6, maxLocals := 12, code := code, exceptionTable := #[], attributes := #[] }
def k1m1 : Method := { name := "law", desc := "(JII)Z", sig := { parameters := [.long, .int, .int], returnType := some .boolean }, accessFlags := 9, code := some k1c1 }
/-- com/example/quotewright/quotewright/pricing/BundlePromotionPricesPinLaw -/
def k1 : Class := { plain "com/example/quotewright/quotewright/pricing/BundlePromotionPricesPinLaw" (some 0) with
  accessFlags := 49
  interfaces := #[]
  cf := some (fileOf pool1 29 #[] #[{ accessFlags := 2, nameIndex := 5, descriptorIndex := 6, attributes := #[] }, { accessFlags := 9, nameIndex := 33, descriptorIndex := 34, attributes := #[] }] 49 2 #[] #[])
  fields := #[]
  methods := #[k1m0, k1m1]
  instanceTypes := #[]
  staticTypes := #[]
  resolved := Array.replicate 42 none
  statics := none }

def pool2 : Array CpInfo := pool [(1, .class_ 2), (0, u "java/lang/constant/Constable"), (0, .class_ 4), (0, u "java/lang/Object")] 6

/-- java/lang/constant/Constable -/
def k2 : Class := { plain "java/lang/constant/Constable" (some 0) with
  accessFlags := 1537
  interfaces := #[]
  cf := some (fileOf pool2 1 #[] #[] 1537 3 #[] #[])
  fields := #[]
  methods := #[]
  instanceTypes := #[]
  staticTypes := #[]
  resolved := Array.replicate 11 none
  statics := none }

def pool3 : Array CpInfo := pool [(1, .class_ 2), (0, u "java/lang/Comparable"), (0, .class_ 4), (0, u "java/lang/Object")] 7

/-- java/lang/Comparable -/
def k3 : Class := { plain "java/lang/Comparable" (some 0) with
  accessFlags := 1537
  interfaces := #[]
  cf := some (fileOf pool3 1 #[] #[] 1537 3 #[] #[])
  fields := #[]
  methods := #[]
  instanceTypes := #[]
  staticTypes := #[]
  resolved := Array.replicate 12 none
  statics := none }

def pool4 : Array CpInfo := pool [(1, .class_ 2), (0, u "java/io/Serializable"), (0, .class_ 4), (0, u "java/lang/Object")] 2

/-- java/io/Serializable -/
def k4 : Class := { plain "java/io/Serializable" (some 0) with
  accessFlags := 1537
  interfaces := #[]
  cf := some (fileOf pool4 1 #[] #[] 1537 3 #[] #[])
  fields := #[]
  methods := #[]
  instanceTypes := #[]
  staticTypes := #[]
  resolved := Array.replicate 7 none
  statics := none }

def pool5 : Array CpInfo := pool [(2, .class_ 4), (1, u "java/lang/Enum"), (0, u "name"), (0, u "Ljava/lang/String;"), (2, u "ordinal"), (0, u "I"), (1, .class_ 14), (1, u "java/lang/Object"), (4, u "hash"), (86, .class_ 108), (1, u "java/lang/Enum$EnumDesc"), (2, .class_ 112), (0, u "java/lang/constant/Constable"), (0, .class_ 114), (0, u "java/lang/Comparable"), (0, .class_ 116), (0, u "java/io/Serializable")] 87

/-- java/lang/Enum -/
def k5 : Class := { plain "java/lang/Enum" (some 0) with
  accessFlags := 1057
  interfaces := #[2, 3, 4]
  cf := some (fileOf pool5 2 #[.nestMembers #[106]] #[] 1057 12 #[111, 113, 115] #[{ accessFlags := 18, nameIndex := 5, descriptorIndex := 6, attributes := #[] }, { accessFlags := 18, nameIndex := 9, descriptorIndex := 10, attributes := #[] }, { accessFlags := 2, nameIndex := 19, descriptorIndex := 10, attributes := #[] }])
  fields := #[{ name := "name", type := (.object "java/lang/String"), accessFlags := 18, slot := 0, constantValue := 0 }, { name := "ordinal", type := .int, accessFlags := 18, slot := 1, constantValue := 0 }, { name := "hash", type := .int, accessFlags := 2, slot := 2, constantValue := 0 }]
  methods := #[]
  instanceTypes := #[(.object "java/lang/String"), .int, .int]
  staticTypes := #[]
  resolved := Array.replicate 204 none
  statics := none }

def pool6 : Array CpInfo := pool [(1, .class_ 2), (0, u "com/example/quotewright/quotewright/pricing/BundlePromotion$Match"), (0, .fieldref 1 4), (0, .nameAndType 5 6), (0, u "ALL"), (0, u "Lcom/example/quotewright/quotewright/pricing/BundlePromotion$Match;"), (2, u "PARTIAL"), (2, u "$VALUES"), (0, u "[Lcom/example/quotewright/quotewright/pricing/BundlePromotion$Match;"), (6, .class_ 22), (1, u "java/lang/Enum"), (20, u "prices"), (0, u "(JI)Z"), (6, .class_ 52), (0, u "com/example/quotewright/quotewright/pricing/BundlePromotion")] 2

def k6c0 : Code := { maxStack := 4, maxLocals := 4, code := prog_13_method_4_code, exceptionTable := #[], attributes := #[] }
def k6m0 : Method := { name := "prices", desc := "(JI)Z", sig := { parameters := [.long, .int], returnType := some .boolean }, accessFlags := 0, code := some k6c0 }
/-- com/example/quotewright/quotewright/pricing/BundlePromotion$Match -/
def k6 : Class := { plain "com/example/quotewright/quotewright/pricing/BundlePromotion$Match" (some 5) with
  accessFlags := 16433
  interfaces := #[]
  cf := some (fileOf pool6 1 #[.nestHost 51] #[{ accessFlags := 0, nameIndex := 43, descriptorIndex := 44, attributes := #[] }] 16433 20 #[] #[{ accessFlags := 16409, nameIndex := 5, descriptorIndex := 6, attributes := #[] }, { accessFlags := 16409, nameIndex := 9, descriptorIndex := 6, attributes := #[] }, { accessFlags := 4122, nameIndex := 12, descriptorIndex := 13, attributes := #[] }])
  fields := #[{ name := "ALL", type := (.object "com/example/quotewright/quotewright/pricing/BundlePromotion$Match"), accessFlags := 16409, slot := 0, constantValue := 0 }, { name := "PARTIAL", type := (.object "com/example/quotewright/quotewright/pricing/BundlePromotion$Match"), accessFlags := 16409, slot := 1, constantValue := 0 }, { name := "$VALUES", type := (.array (.object "com/example/quotewright/quotewright/pricing/BundlePromotion$Match")), accessFlags := 4122, slot := 2, constantValue := 0 }]
  methods := #[k6m0]
  instanceTypes := #[(.object "java/lang/String"), .int, .int]
  staticTypes := #[(.object "com/example/quotewright/quotewright/pricing/BundlePromotion$Match"), (.object "com/example/quotewright/quotewright/pricing/BundlePromotion$Match"), (.array (.object "com/example/quotewright/quotewright/pricing/BundlePromotion$Match"))]
  resolved := Array.replicate 55 none
  statics := some 0 }

def pool7 : Array CpInfo := pool [(1, .class_ 2), (0, u "java/lang/Math"), (1, .class_ 6), (1, u "java/lang/Object"), (0, u "<init>"), (0, u "()V"), (89, .class_ 100), (1, u "java/lang/Math$RandomNumberGeneratorHolder"), (20, u "(JJ)J"), (50, u "negativeZeroFloatBits"), (0, u "J"), (2, u "negativeZeroDoubleBits"), (21, u "max"), (2, u "min"), (43, u "$assertionsDisabled"), (0, u "Z"), (91, u "twoToTheDoubleScaleDown"), (0, u "D"), (4, u "twoToTheDoubleScaleUp"), (9, u "E"), (3, u "PI"), (2, u "TAU"), (2, u "DEGREES_TO_RADIANS"), (0, u "RADIANS_TO_DEGREES")] 94

def k7m0 : Method := { name := "<init>", desc := "()V", sig := { parameters := [], returnType := none }, accessFlags := 2, code := none }
def k7c1 : Code := { maxStack := 4, maxLocals := 4, code := jdk_29_method_66_code, exceptionTable := #[], attributes := #[] }
def k7m1 : Method := { name := "max", desc := "(JJ)J", sig := { parameters := [.long, .long], returnType := some .long }, accessFlags := 9, code := some k7c1 }
def k7c2 : Code := { maxStack := 4, maxLocals := 4, code := jdk_29_method_70_code, exceptionTable := #[], attributes := #[] }
def k7m2 : Method := { name := "min", desc := "(JJ)J", sig := { parameters := [.long, .long], returnType := some .long }, accessFlags := 9, code := some k7c2 }
/-- java/lang/Math -/
def k7 : Class := { plain "java/lang/Math" (some 0) with
  accessFlags := 49
  interfaces := #[]
  cf := some (fileOf pool7 1 #[.nestMembers #[98]] #[{ accessFlags := 2, nameIndex := 7, descriptorIndex := 8, attributes := #[] }, { accessFlags := 9, nameIndex := 198, descriptorIndex := 121, attributes := #[] }, { accessFlags := 9, nameIndex := 201, descriptorIndex := 121, attributes := #[] }] 49 4 #[] #[{ accessFlags := 25, nameIndex := 354, descriptorIndex := 339, attributes := #[] }, { accessFlags := 25, nameIndex := 358, descriptorIndex := 339, attributes := #[] }, { accessFlags := 25, nameIndex := 361, descriptorIndex := 339, attributes := #[] }, { accessFlags := 26, nameIndex := 364, descriptorIndex := 339, attributes := #[] }, { accessFlags := 26, nameIndex := 365, descriptorIndex := 339, attributes := #[] }, { accessFlags := 26, nameIndex := 172, descriptorIndex := 173, attributes := #[] }, { accessFlags := 26, nameIndex := 176, descriptorIndex := 173, attributes := #[] }, { accessFlags := 8, nameIndex := 344, descriptorIndex := 339, attributes := #[] }, { accessFlags := 8, nameIndex := 338, descriptorIndex := 339, attributes := #[] }, { accessFlags := 4120, nameIndex := 245, descriptorIndex := 246, attributes := #[] }])
  fields := #[{ name := "E", type := .double, accessFlags := 25, slot := 0, constantValue := 0 }, { name := "PI", type := .double, accessFlags := 25, slot := 1, constantValue := 0 }, { name := "TAU", type := .double, accessFlags := 25, slot := 2, constantValue := 0 }, { name := "DEGREES_TO_RADIANS", type := .double, accessFlags := 26, slot := 3, constantValue := 0 }, { name := "RADIANS_TO_DEGREES", type := .double, accessFlags := 26, slot := 4, constantValue := 0 }, { name := "negativeZeroFloatBits", type := .long, accessFlags := 26, slot := 5, constantValue := 0 }, { name := "negativeZeroDoubleBits", type := .long, accessFlags := 26, slot := 6, constantValue := 0 }, { name := "twoToTheDoubleScaleUp", type := .double, accessFlags := 8, slot := 7, constantValue := 0 }, { name := "twoToTheDoubleScaleDown", type := .double, accessFlags := 8, slot := 8, constantValue := 0 }, { name := "$assertionsDisabled", type := .boolean, accessFlags := 4120, slot := 9, constantValue := 0 }]
  methods := #[k7m0, k7m1, k7m2]
  instanceTypes := #[]
  staticTypes := #[.double, .double, .double, .double, .double, .long, .long, .double, .double, .boolean]
  resolved := Array.replicate 460 none
  statics := none }

def pool8 : Array CpInfo := pool [(1, u "java/lang/Cloneable"), (0, .class_ 1), (0, u "java/lang/Object"), (0, .class_ 3)] 3

/-- java/lang/Cloneable -/
def k8 : Class := { plain "java/lang/Cloneable" (some 0) with
  accessFlags := 1537
  interfaces := #[]
  cf := some (fileOf pool8 2 #[] #[] 1537 4 #[] #[])
  fields := #[]
  methods := #[]
  instanceTypes := #[]
  staticTypes := #[]
  resolved := Array.replicate 8 none
  statics := none }

/-- the primitive byte -/
def k9 : Class := { plain "byte" none with kind := .primitive 'B', accessFlags := 0x411 }
/-- [B -/
def k10 : Class := { plain "[B" (some 0) with kind := .array 9 .byte, interfaces := #[8, 4], accessFlags := 1041 }

/-- the primitive int -/
def k11 : Class := { plain "int" none with kind := .primitive 'I', accessFlags := 0x411 }
/-- [I -/
def k12 : Class := { plain "[I" (some 0) with kind := .array 11 .int, interfaces := #[8, 4], accessFlags := 1041 }

def heap : Heap := #[{ cls := 6, slots := #[.ref 1, .ref 2, .null], vm := .statics 6 },
  { cls := 6, slots := #[.null, .int 0, .int 0], vm := .none },
  { cls := 6, slots := #[.null, .int 1, .int 0], vm := .none }]
def classes : Array Class := #[k0, k1, k2, k3, k4, k5, k6, k7, k8, k9, k10, k11, k12]
def interned : List (Array UInt16 × Addr) := []
def slotsUsed : Nat := 9
def theMethod : MethodId := ⟨1, 1⟩
def args0 : Array Value := #[.long 5, .int 3, .int 2]
def aboutOver (below : List Frame) : State where
  vm := { classes := classes, interned := interned.toArray }
  heap := heap
  slotsUsed := slotsUsed
  threads := #[{ frames := .invoking theMethod args0 :: below }]
def below0 : List Frame := [.native { method := ⟨0, 0⟩, args := #[] }]
def about1 : State := aboutOver below0
def p0 : Program := .bare "" "" ""
def e0 : Env := launch0.env 0 0 0
theorem w_frames : about1.frames = Frame.invoking theMethod args0 :: below0 := rfl
set_option maxRecDepth 65536 in
theorem w_args : argsFit about1.vm theMethod args0 = true := by decide +kernel
set_option maxRecDepth 65536 in
theorem w_heap : heapFits about1 = true := by decide +kernel
set_option maxRecDepth 65536 in
theorem w_runnable : about1.curStatus? = some .runnable := by decide +kernel
set_option maxRecDepth 65536 in
theorem w_alone : about1.alone = true := by decide +kernel
set_option maxRecDepth 65536 in
theorem w_named : about1.methodNamed? x = some theMethod := by decide +kernel
set_option maxRecDepth 65536 in
theorem w_hears : about1.hears theMethod below0 = true := by decide +kernel
set_option maxRecDepth 65536 in
theorem w_ripe : about1.ripe theMethod args0 below0 = true := by decide +kernel
theorem w_running : about1.status = .running := rfl
set_option maxRecDepth 65536 in
theorem w_room : about1.hasRoom e0.platform room_1 = true :=
  launch0.hasRoom_least _ room_1 (by decide +kernel) (by decide +kernel) (by decide +kernel) (by decide +kernel) (by decide +kernel) (by decide +kernel)
theorem allAtoms_all (ts : List Jvm.Cond) (a : Array Jvm.Value) (st : Jvm.State) : (allAtoms ts).before a st = ts.all (fun c => c.before a st) := by
  induction ts with
  | nil => rfl
  | cons c t ih =>
    show (Jvm.Cond.and c (allAtoms t)).before a st = _
    rw [Jvm.Cond.before_and, ih, List.all_cons]
def words1 : List Jvm.Cond := Jvm.Cond.code x code maxLocals ret :: tables_1
/-- a 'code' word, met by the world's own term for the bytes: nothing is compared byte by byte -/
theorem code_word {y : MethodName} {bytes : ByteArray} {mx : Nat} {rt : Option FieldType} {a : Array Value} {s : State} {m : MethodId} {meth : Method} {c : Code} (h1 : s.methodNamed? y = some m) (h2 : s.vm.method? m = some meth) (h3 : meth.code = some c) (h4 : c.code = bytes)
    (h5 : (c.maxLocals == mx && c.exceptionTable.isEmpty && decide (c.maxStack ≤ mostOperands) && decide (meth.sig.returnType = rt) && !meth.locks && decide (parseMethodDescriptor y.desc = some meth.sig)) = true) : (Jvm.Cond.code y bytes mx rt).before a s = true := by
  simp only [Bool.and_eq_true, beq_iff_eq, Bool.not_eq_true', decide_eq_true_eq] at h5
  obtain ⟨⟨⟨⟨⟨g1, g2⟩, g3⟩, g4⟩, g5⟩, g6⟩ := h5
  simp [Cond.before, Cond.holds, Cond.value, h1, h2, h3, h4, g1, g2, g3, g4, g5, g6]
def isCode : Jvm.Cond → Bool
  | .code _ _ _ _ => true
  | _ => false
theorem all_split {L : List Jvm.Cond} {P : Jvm.Cond → Bool} (h1 : L.all (fun c => isCode c || P c) = true) (h2 : ∀ c ∈ L.filter isCode, P c = true) : L.all P = true := by
  refine List.all_eq_true.mpr fun c hc => ?_
  have h := List.all_eq_true.mp h1 c hc
  rcases Bool.eq_false_or_eq_true (isCode c) with hi | hi
  · exact h2 c (List.mem_filter.mpr ⟨hc, hi⟩)
  · simpa [hi] using h
set_option maxRecDepth 65536 in
theorem w_c0 : (Jvm.Cond.code x code maxLocals ret).before args0 about1 = true := code_word (m := ⟨1, 1⟩) (meth := k1m1) (c := k1c1) (by decide +kernel) rfl rfl rfl (by decide +kernel)
set_option maxRecDepth 65536 in
theorem w_c1 : (Jvm.Cond.code ({ cls := "com/example/quotewright/quotewright/pricing/BundlePromotion$Match", name := "prices", desc := "(JI)Z" } : Jvm.MethodName) prog_13_method_4_code (4 : Nat) (Option.some Jvm.ClassFile.FieldType.boolean)).before args0 about1 = true := code_word (m := ⟨6, 0⟩) (meth := k6m0) (c := k6c0) (by decide +kernel) rfl rfl rfl (by decide +kernel)
set_option maxRecDepth 65536 in
theorem w_c2 : (Jvm.Cond.code ({ cls := "java/lang/Math", name := "min", desc := "(JJ)J" } : Jvm.MethodName) jdk_29_method_70_code (4 : Nat) (Option.some Jvm.ClassFile.FieldType.long)).before args0 about1 = true := code_word (m := ⟨7, 2⟩) (meth := k7m2) (c := k7c2) (by decide +kernel) rfl rfl rfl (by decide +kernel)
set_option maxRecDepth 65536 in
theorem w_c3 : (Jvm.Cond.code ({ cls := "java/lang/Math", name := "max", desc := "(JJ)J" } : Jvm.MethodName) jdk_29_method_66_code (4 : Nat) (Option.some Jvm.ClassFile.FieldType.long)).before args0 about1 = true := code_word (m := ⟨7, 1⟩) (meth := k7m1) (c := k7c1) (by decide +kernel) rfl rfl rfl (by decide +kernel)
def codes1 : List Jvm.Cond := [Jvm.Cond.code x code maxLocals ret, Jvm.Cond.code ({ cls := "com/example/quotewright/quotewright/pricing/BundlePromotion$Match", name := "prices", desc := "(JI)Z" } : Jvm.MethodName) prog_13_method_4_code (4 : Nat) (Option.some Jvm.ClassFile.FieldType.boolean), Jvm.Cond.code ({ cls := "java/lang/Math", name := "min", desc := "(JJ)J" } : Jvm.MethodName) jdk_29_method_70_code (4 : Nat) (Option.some Jvm.ClassFile.FieldType.long), Jvm.Cond.code ({ cls := "java/lang/Math", name := "max", desc := "(JJ)J" } : Jvm.MethodName) jdk_29_method_66_code (4 : Nat) (Option.some Jvm.ClassFile.FieldType.long)]
set_option maxRecDepth 65536 in
theorem codes_eq : words1.filter isCode = codes1 := rfl
theorem w_codes : ∀ c ∈ words1.filter isCode, c.before args0 about1 = true := by
  rw [codes_eq]
  intro c hc
  simp only [codes1, List.mem_cons, List.not_mem_nil, or_false] at hc
  rcases hc with rfl | rfl | rfl | rfl
  · exact w_c0
  · exact w_c1
  · exact w_c2
  · exact w_c3
set_option maxRecDepth 65536 in
theorem w_t1 : words1.all (fun c => isCode c || c.before args0 about1) = true := by decide +kernel
theorem w_tables : (allAtoms (Jvm.Cond.code x code maxLocals ret :: tables_1)).before args0 about1 = true := by
  rw [allAtoms_all]
  show words1.all (fun c => c.before args0 about1) = true
  refine all_split ?_ w_codes
  rw [w_t1]
set_option maxRecDepth 65536 in
theorem w_case : (Jvm.Cond.and given_1 narrow_1).before args0 about1 = true := by decide +kernel
theorem w_applies : (headSpec (Jvm.Cond.code x code maxLocals ret :: tables_1) room_1).applies x e0.platform about1 = true :=
  (Spec.applies_iff w_frames).mpr ⟨w_running, w_runnable, w_alone, w_named, w_hears, w_ripe, w_room, w_tables⟩
theorem atStart : AtStart classFile x code maxLocals ret World_1 tables_1 room_1 Calls_1 rest_1 Pre_1 launch0 p0 e0 about1 theMethod args0 below0 :=
  ⟨lists_1, trivial, launch0.admits_env _ _ _, launch0.least_env, fairChoices_fair.cas, fairChoices_fair.clock, w_frames, w_args, w_heap, w_applies, trivial, trivial, w_case⟩
end start1
theorem witness_1 : WitnessClaimed_1 := ⟨start1.p0, start1.e0, start1.about1, start1.theMethod, start1.args0, start1.below0, start1.atStart⟩
end Jvm.Pilot.@@N@@
