import JvmDerived
import JvmDerived.Pilot.@@N@@Statement
import JvmDerived.Pilot.@@N@@Code
set_option linter.unusedVariables false
set_option linter.unusedSimpArgs false

namespace Jvm.Pilot.@@N@@
open Jvm Jvm.ClassFile Sem Op Lib Jvm.Free Jvm.Stand Jvm.LawKit Jvm.RoadKit Bundle Jvm.Pilot.@@N@@.Jvm.D
/-! the walk's own frame: a goal that goes forward step by step -/
def Go (p : Program) (e : Env) (below : List Frame) (P : State → Outcome → Prop) (A : State) : Prop := ∃ s₂ o, Steps p.tables e below A s₂ ∧ P s₂ o
theorem go {p : Program} {e : Env} {below : List Frame} {P : State → Outcome → Prop} {A B : State} (h : ∀ t, Steps p.tables e below B t → Steps p.tables e below A t) (k : Go p e below P B) : Go p e below P A := by
  obtain ⟨t, o, a, b⟩ := k
  exact ⟨t, o, h t a, b⟩
def PP (s : State) (below : List Frame) (Q : Option Value → Heap → List Loc → Prop) (ce sl : Nat) (s₂ : State) (o : Outcome) : Prop := s₂.status = .running ∧ Ended s₂ below o ∧ ∃ v L, o = .returned v ∧ Q v s₂.heap L ∧ FrameEnd s o s₂ L ce sl
theorem leaf {p : Program} {e : Env} {s A : State} {below : List Frame} {Q : Option Value → Heap → List Loc → Prop} {ce sl : Nat} {T : State} {v : Option Value} {locs : List Loc} {cells slots : Nat}
    (h : ∃ fs, Steps p.tables e below A (T.setFrames fs) ∧ (T.setFrames fs).status = .running ∧ Ended (T.setFrames fs) below (.returned v) ∧ s.WarmedH (T.setFrames fs).vm ∧ s.sameButNew ({ T.setFrames fs with vm := s.vm } : State) locs cells slots)
    (hQ : Q v T.heap locs) (hc : cells ≤ ce) (hs : slots ≤ sl) : Go p e below (PP s below Q ce sl) A := by
  obtain ⟨fs, h1, h2, h3, h4, h5⟩ := h
  exact ⟨_, _, h1, h2, h3, v, locs, rfl, hQ, ⟨_, rfl⟩, h4, h5.mono hc hs⟩
theorem retI {p : Program} {l : Launch} {e : Env} {R : Room} {s : State} {m : MethodId} {args : Array Value} {below : List Frame} {meth : Method} {c : Code} {T : State} {locs : List Loc} {cells slots : Nat} (X : Stand p l e R s m args below meth c T locs cells slots) (hx : p.tables.exec = Jvm.exec) {pc : Nat} {Ls : Array Slot} {z : Int32} {rest : List Value} (hret : meth.sig.returnType = some .int) (hd : decode c.code pc = .ok (.ireturn, 1)) {fs : List Frame}
    (hl : ∀ (f : JFrame) (acts : List Action), f.method = m → f.locked = none → f.entered = [] → (doReturn e (T.setTop f) acts (some (.int z))).1 = T.setFrames fs) : Steps p.tables e below (T.setTop (mkF m pc Ls (.int z :: rest))) (T.setFrames fs) :=
  retOut X hx hret rfl (Or.inl ⟨rfl, Or.inl rfl, z, rfl⟩) hd hl
theorem retJ {p : Program} {l : Launch} {e : Env} {R : Room} {s : State} {m : MethodId} {args : Array Value} {below : List Frame} {meth : Method} {c : Code} {T : State} {locs : List Loc} {cells slots : Nat} (X : Stand p l e R s m args below meth c T locs cells slots) (hx : p.tables.exec = Jvm.exec) {pc : Nat} {Ls : Array Slot} {z : Int64} {rest : List Value} (hret : meth.sig.returnType = some .long) (hd : decode c.code pc = .ok (.lreturn, 1)) {fs : List Frame}
    (hl : ∀ (f : JFrame) (acts : List Action), f.method = m → f.locked = none → f.entered = [] → (doReturn e (T.setTop f) acts (some (.long z))).1 = T.setFrames fs) : Steps p.tables e below (T.setTop (mkF m pc Ls (.long z :: rest))) (T.setFrames fs) :=
  retOut X hx hret rfl (Or.inr (Or.inl ⟨rfl, rfl, z, rfl⟩)) hd hl
theorem retA {p : Program} {l : Launch} {e : Env} {R : Room} {s : State} {m : MethodId} {args : Array Value} {below : List Frame} {meth : Method} {c : Code} {T : State} {locs : List Loc} {cells slots : Nat} (X : Stand p l e R s m args below meth c T locs cells slots) (hx : p.tables.exec = Jvm.exec) {pc : Nat} {Ls : Array Slot} {w : Value} {t : FieldType} {rest : List Value} (hret : meth.sig.returnType = some t) (ht : t.isReference = true) (hw : w.isRef = true) (hn : narrow t w = w) (hd : decode c.code pc = .ok (.areturn, 1)) {fs : List Frame}
    (hl : ∀ (f : JFrame) (acts : List Action), f.method = m → f.locked = none → f.entered = [] → (doReturn e (T.setTop f) acts (some w)).1 = T.setFrames fs) : Steps p.tables e below (T.setTop (mkF m pc Ls (w :: rest))) (T.setFrames fs) :=
  retOut X hx hret hn (Or.inr (Or.inr (Or.inr (Or.inr ⟨rfl, ht, hw⟩)))) hd hl
theorem own_psel {Z s : State} {a0 args : Array Value} {y : MethodName} {n : Nat} (hZ : Z.Warmed39 s.vm) (hi : (Jvm.Cond.instantiable y.cls n).before a0 Z = true) (hp : (Jvm.Cond.privateMethod y).before a0 Z = true) (hinst : (Jvm.Cond.instanceMethod y).before a0 Z = true) (hy : y.cls ≠ "java/lang/invoke/MethodHandle" ∧ y.cls ≠ "java/lang/invoke/VarHandle") : (Jvm.Cond.selects y.cls y y).before args s = true := by
  have hi' : (Jvm.Cond.instantiable y.cls n).before args s = true := mvT hZ hi
  obtain ⟨c, k, h1, h2, h3, h4, h5, h6⟩ := Cond.instantiable_spec hi'
  have h7 : k.isInterface = false := by
    cases hq : k.isInterface
    · rfl
    · rw [hq] at h4; simp at h4
  exact selects_self_of_private h1 h2 h7 (Cond.privateMethod_at (mvP hZ hp (args := args))) (mvT hZ hinst) hy
def PPW (s : State) (below : List Frame) (Q : Option Value → Heap → List Loc → Prop) (ce sl : Nat) (s₂ : State) (o : Outcome) : Prop := s₂.status = .running ∧ Ended s₂ below o ∧ ∃ v L, o = .returned v ∧ Q v s₂.heap L ∧ ReturnedEndW s o s₂ L ce sl
theorem endW_mono {s t : State} {o : Outcome} {L : List Loc} {k n k' n' : Nat} (h : ReturnedEndW s o t L k n) (hk : k ≤ k') (hn : n ≤ n') : ReturnedEndW s o t L k' n' := ⟨h.1, h.2.1, h.2.2.1, h.2.2.2.mono hk hn⟩
theorem leafW {p : Program} {e : Env} {s A : State} {below : List Frame} {Q : Option Value → Heap → List Loc → Prop} {ce sl : Nat} {T : State} {v : Option Value} {locs : List Loc} {cells slots : Nat}
    (h : ∃ fs, Steps p.tables e below A (T.setFrames fs) ∧ (T.setFrames fs).status = .running ∧ Ended (T.setFrames fs) below (.returned v) ∧ ReturnedEndW s (.returned v) (T.setFrames fs) locs cells slots)
    (hQ : Q v T.heap locs) (hc : cells ≤ ce) (hs : slots ≤ sl) : Go p e below (PPW s below Q ce sl) A := by
  obtain ⟨fs, h1, h2, h3, h4⟩ := h
  exact ⟨_, _, h1, h2, h3, v, locs, rfl, hQ, endW_mono h4 hc hs⟩
def PPH (Z : State) (EL : List (String × Nat)) (s : State) (below : List Frame) (Q : Option Value → Heap → List Loc → Prop) (ce sl : Nat) (s₂ : State) (o : Outcome) : Prop := s₂.status = .running ∧ Ended s₂ below o ∧ ∃ v L, o = .returned v ∧ Q v s₂.heap L ∧ CHr Z EL s.vm s.heap s₂.vm s₂.heap ∧ ReturnedEndW s o s₂ L ce sl
theorem leafH {Z : State} {EL : List (String × Nat)} {p : Program} {e : Env} {s A : State} {below : List Frame} {Q : Option Value → Heap → List Loc → Prop} {ce sl : Nat} {T : State} {v : Option Value} {locs : List Loc} {cells slots : Nat}
    (h : ∃ fs, Steps p.tables e below A (T.setFrames fs) ∧ (T.setFrames fs).status = .running ∧ Ended (T.setFrames fs) below (.returned v) ∧ ReturnedEndW s (.returned v) (T.setFrames fs) locs cells slots)
    (hQ : Q v T.heap locs) (hR : CHr Z EL s.vm s.heap T.vm T.heap) (hc : cells ≤ ce) (hs : slots ≤ sl) : Go p e below (PPH Z EL s below Q ce sl) A := by
  obtain ⟨fs, h1, h2, h3, h4⟩ := h
  exact ⟨_, _, h1, h2, h3, v, locs, rfl, hQ, hR, endW_mono h4 hc hs⟩
theorem coldZ {Z s : State} {vm0 vm1 : Vm} {n : Nat} (hZ : Z.Warmed39 (s.setVm vm0).vm) (h2 : (s.setVm vm0).Since vm1 n) : Z.Warmed39 (s.setVm vm1).vm := State.Warmed39.trans (t := s.setVm vm0) hZ h2.1
theorem coldO {s : State} {vm0 vm1 : Vm} {n : Nat} {own : String} {c : ClassId} (hown : (s.setVm vm0).vm.findClass own = some c) (h2 : (s.setVm vm0).Since vm1 n) : (s.setVm vm1).vm.findClass own = some c := by
  rw [show (s.setVm vm1).vm = vm1 from rfl, h2.1.alike.findClass]; exact hown
/-! a truth as Java's int -/
def bz (c : Prop) [Decidable c] : Int32 := if c then 1 else 0
theorem bz_t {c : Prop} [Decidable c] (h : c) : bz c = 1 := if_pos h
theorem bz_f {c : Prop} [Decidable c] (h : ¬ c) : bz c = 0 := if_neg h
theorem bz_ne {c : Prop} [Decidable c] (h : c) : ¬ (bz c = 0) := by rw [bz_t h]; decide
theorem bz_nf {c : Prop} [Decidable c] (h : ¬ c) : ¬ (bz c = 1) := by rw [bz_f h]; decide
theorem bz_congr {c d : Prop} [Decidable c] [Decidable d] (h : c ↔ d) : bz c = bz d := by by_cases q : c; rw [bz_t q, bz_t (h.mp q)]; rw [bz_f q, bz_f (fun z => q (h.mpr z))]
theorem bz_nar (c : Prop) [Decidable c] : nar .boolean (bz c) = bz c := by by_cases q : c; rw [bz_t q]; rfl; rw [bz_f q]; rfl

def imin (x y : Int32) : Int32 := if y < x then y else x
def imax (x y : Int32) : Int32 := if x < y then y else x
theorem own_relist {Z : State} {h : Heap} {a : Addr} {k : ClassId} {ty : FieldType} {z : Int32} {vs vs' : List Value} {d : Value} (F : Arv Z h a k ty z vs d) (q : ∀ i, i < z.toNatClampNeg → vs'.getD i d = vs.getD i d) : Arv Z h a k ty z vs' d := by
  obtain ⟨c, A, r1, r2, r3, H, G⟩ := F
  exact ⟨c, A, r1, r2, r3, fun i hi => by rw [q i (by omega)]; exact H i hi, fun i hi => by rw [q i (by omega)]; exact G i hi⟩
theorem own_lt {z n : Int32} : (z < n) ↔ z.toInt < n.toInt := Int32.lt_iff_toInt_lt
theorem own_z : (0 : Int32).toInt = 0 := by decide
theorem own_nneg {p : Int32} (h : 0 ≤ p.toInt) : ¬ p < 0 := by rw [own_lt, own_z]; omega
theorem own_nat {p : Int32} (h : 0 ≤ p.toInt) : (p.toNatClampNeg : Int) = p.toInt := by
  have := nat_of (own_nneg h); omega
theorem own_cap4 {p : Int32} (h : 0 ≤ p.toInt ∧ p.toInt ≤ 4) : p.toNatClampNeg ≤ 4 := by
  have := own_nat h.1; omega
theorem own_capn {p n : Int32} (h : ¬ p < 0 ∧ ¬ n < p) (hn : n.toInt ≤ 4) : 0 ≤ p.toInt ∧ p.toInt ≤ 4 := by
  rw [own_lt, own_lt, own_z] at h; omega
theorem own_cap {K : Int} {k sp : Int32} (hk : k.toInt = K) (h0 : 0 ≤ K) (h3 : K ≤ 3) (hsp : sp = 0 ∨ sp = 1) : K ≤ (k + sp).toInt ∧ (k + sp).toInt ≤ 4 := by
  have h1 := c_iadd k sp
  have h2 := rng32 (k + sp)
  have q : (1 : Int32).toInt = 1 := by decide
  rcases hsp with rfl | rfl
  · rw [own_z] at h1; omega
  · rw [q] at h1; omega
theorem own_idx {K : Int} {z n : Int32} (hn : K ≤ n.toInt ∧ n.toInt ≤ 4) (h0 : 0 ≤ z.toInt) (h1 : z.toInt < K) : ¬ z < 0 ∧ z < n := by
  rw [own_lt, own_lt, own_z]; omega
theorem own_idz {K : Int} {z n : Int32} (hn : K ≤ n.toInt ∧ n.toInt ≤ 4) (h0 : 0 ≤ z.toInt) (h1 : z.toInt ≤ K) : ¬ z < 0 ∧ ¬ n < z := by
  rw [own_lt, own_lt, own_z]; omega
theorem own_k (p : Int32) : (p &&& (3 : Int32)) = (0 : Int32) ∨ (p &&& (3 : Int32)) = (1 : Int32) ∨ (p &&& (3 : Int32)) = (2 : Int32) ∨ (p &&& (3 : Int32)) = (3 : Int32) := by
  have := c_mask p 3 2 (by decide) (by decide)
  have q1 : (1 : Int32).toInt = 1 := by decide
  have q2 : (2 : Int32).toInt = 2 := by decide
  have q3 : (3 : Int32).toInt = 3 := by decide
  simp only [← Int32.toInt_inj, own_z, q1, q2, q3]
  omega
theorem own_imin {n p : Int32} (h : ¬ n < p) : imin n p = p := by
  unfold imin
  split
  · rfl
  · rename_i q
    rw [own_lt] at q h
    rw [← Int32.toInt_inj]; omega
theorem own_nan (x : Int32) : Jvm.Free.Fl.NoNaN64 (FP.i2d x) := nn_w (i2d_w x)
theorem own_ninf : Jvm.Free.Fl.NoNaN64 (18442240474082181120 : UInt64) := by decide
theorem own_copy {xs : List Value} {d : Value} {p : Int32} (h4 : p.toNatClampNeg ≤ 4) (i : Nat) (hi : i < p.toNatClampNeg) : xs.getD i d = (List.take (0 : Int32).toNatClampNeg [d, d, d, d] ++ (List.range p.toNatClampNeg).map (fun i => xs.getD ((0 : Int32).toNatClampNeg + i) d) ++ List.drop ((0 : Int32).toNatClampNeg + p.toNatClampNeg) [d, d, d, d]).getD i d := by
  have z : (0 : Int32).toNatClampNeg = 0 := by decide
  rw [z]
  simp only [List.take_zero, List.nil_append, List.getD_eq_getElem?_getD, Nat.zero_add]
  rw [List.getElem?_append_left (by simp; exact hi)]
  simp [hi]
theorem d1_0 : decode jdk_29_method_69_code 0 = .ok (.iload_n 0, 1) := by decide +kernel
theorem d1_1 : decode jdk_29_method_69_code 1 = .ok (.iload_n 1, 1) := by decide +kernel
theorem d1_2 : decode jdk_29_method_69_code 2 = .ok (.if_icmp .gt 7, 3) := by decide +kernel
theorem d1_5 : decode jdk_29_method_69_code 5 = .ok (.iload_n 0, 1) := by decide +kernel
theorem d1_6 : decode jdk_29_method_69_code 6 = .ok (.goto 4, 3) := by decide +kernel
theorem d1_9 : decode jdk_29_method_69_code 9 = .ok (.iload_n 1, 1) := by decide +kernel
theorem d1_10 : decode jdk_29_method_69_code 10 = .ok (.ireturn, 1) := by decide +kernel
theorem ef_rm1 (m : MethodId) (p1 : Int32) (p2 : Int32) : entryFrame m #[(.int p1), (.int p2)] 2 = mkF m 0 #[.val (.int p1), .val (.int p2)] [] := by first | (simp [entryFrame, mkF, argsToLocals, Value.category]; done) | rfl
def Q1 (Z : State) (p1 : Int32) (p2 : Int32) (h0 : Heap) (n0 : Nat) (v : Option Value) (h : Heap) (L : List Loc) : Prop := v = some (.int (imin p1 p2)) ∧ Fr n0 L ∧ h = h0
set_option maxRecDepth 65536 in
set_option maxHeartbeats 40000000 in
theorem rm1 (l : Launch) (Z : State) (a0 : Array Value) (hw : ∀ d ∈ tables_1, d.before a0 Z = true) (ws : List Jvm.Cond) (p1 : Int32) (p2 : Int32) (h0 : Heap) (n0 : Nat) (Z0 : n0 ≤ h0.size) :
    MetFree l (⟨"java/lang/Math", "min", "(II)I"⟩ : MethodName) (head1 (Jvm.Cond.code (⟨"java/lang/Math", "min", "(II)I"⟩ : MethodName) jdk_29_method_69_code 2 (some .int) :: ws) ({ frames := 0, cells := 0, slots := 0, locals := 0 } : Room)) (fun a U => a = #[(.int p1), (.int p2)] ∧ Z.Warmed39 U.vm ∧ U.heap = h0) (fun _ _ _ _ _ => True) (fun _ U o U' => ∃ v L, o = .returned v ∧ Q1 Z p1 p2 h0 n0 v U'.heap L ∧ FrameEnd U o U' L ({ frames := 0, cells := 0, slots := 0, locals := 0 } : Room).cells ({ frames := 0, cells := 0, slots := 0, locals := 0 } : Room).slots) := by
  refine MetFree.of_bodySF (Jvm.Free.JP.mathPlain rfl (by decide +kernel)) hisR ?_
  intro p e s m args below meth c s₁ Bd hml0 hP hK
  obtain ⟨rfl, hZ, hh⟩ := hP
  have hx := Bd.exec
  have hby := Bd.bytes
  have hml : c.maxLocals = 2 := hml0
  have hown : s.vm.findClass "java/lang/Math" = some m.cls := findClass_of_methodNamed Bd.named
  have hnm := (name_of_methodNamed Bd.named Bd.method).1
  have X0 : Stand p l e ({ frames := 0, cells := 0, slots := 0, locals := 0 } : Room) s m #[(.int p1), (.int p2)] below meth c s₁ [] 0 0 := Stand.of_body Bd
  have e0 : s₁.heap = h0 := by rw [← hh, Bd.state]; rfl
  have N0 := Fr.nil n0
  show Go p e below (PP s below (Q1 Z p1 p2 h0 n0) ({ frames := 0, cells := 0, slots := 0, locals := 0 } : Room).cells ({ frames := 0, cells := 0, slots := 0, locals := 0 } : Room).slots) (s₁.setTop (entryFrame m #[(.int p1), (.int p2)] 2))
  refine go (fun _ k => castTop (ef_rm1 m p1 p2) k) ?_
  show Go p e below _ (s₁.setTop (mkF m 0 #[.val (.int p1), .val (.int p2)] []))
  refine go (fun _ k => XS.iloadN X0.here hx rfl (hb hby d1_0) rfl  k) ?_
  show Go p e below _ (s₁.setTop (mkF m 1 #[.val (.int p1), .val (.int p2)] [(.int p1)]))
  refine go (fun _ k => XS.iloadN X0.here hx rfl (hb hby d1_1) rfl  k) ?_
  show Go p e below _ (s₁.setTop (mkF m 2 #[.val (.int p1), .val (.int p2)] [(.int p2), (.int p1)]))
  by_cases hc2_1 : p2 < p1
  · skip
    refine go (fun _ k => XS.icmpYes X0.here hx rfl (pc0 := 2) (pc' := 9) rfl (hb hby d1_2) rfl (tlt hc2_1).2.2.1 (by decide) (by decide) k) ?_
    show Go p e below _ (s₁.setTop (mkF m 9 #[.val (.int p1), .val (.int p2)] []))
    refine go (fun _ k => XS.iloadN X0.here hx rfl (hb hby d1_9) rfl  k) ?_
    show Go p e below _ (s₁.setTop (mkF m 10 #[.val (.int p1), .val (.int p2)] [(.int p2)]))
    obtain ⟨fs, hr, hrun, hended, hW, hsame⟩ := X0.leave (v := some (.int p2)) (fun h => by rw [Bd.returns] at h; cases h)
    refine leaf (T := s₁) ⟨fs, retI X0 hx Bd.returns (hb hby d1_10) hr, hrun, hended, hW, hsame⟩ ?_ (by decide) (by decide)
    show Q1 Z p1 p2 h0 n0 _ s₁.heap _
    rw [e0]
    exact ⟨(by rw [imin, if_pos hc2_1]), N0, rfl⟩
  · skip
    refine go (fun _ k => XS.icmpNo X0.here hx rfl (hb hby d1_2) rfl (flt hc2_1).2.2.1 k) ?_
    show Go p e below _ (s₁.setTop (mkF m 5 #[.val (.int p1), .val (.int p2)] []))
    refine go (fun _ k => XS.iloadN X0.here hx rfl (hb hby d1_5) rfl  k) ?_
    show Go p e below _ (s₁.setTop (mkF m 6 #[.val (.int p1), .val (.int p2)] [(.int p1)]))
    refine go (fun _ k => XS.goto X0.here hx rfl (pc0 := 6) (pc' := 10) rfl (hb hby d1_6) (by decide) (by decide) k) ?_
    show Go p e below _ (s₁.setTop (mkF m 10 #[.val (.int p1), .val (.int p2)] [(.int p1)]))
    obtain ⟨fs, hr, hrun, hended, hW, hsame⟩ := X0.leave (v := some (.int p1)) (fun h => by rw [Bd.returns] at h; cases h)
    refine leaf (T := s₁) ⟨fs, retI X0 hx Bd.returns (hb hby d1_10) hr, hrun, hended, hW, hsame⟩ ?_ (by decide) (by decide)
    show Q1 Z p1 p2 h0 n0 _ s₁.heap _
    rw [e0]
    exact ⟨(by rw [imin, if_neg hc2_1]), N0, rfl⟩
theorem d2_0 : decode jdk_29_method_65_code 0 = .ok (.iload_n 0, 1) := by decide +kernel
theorem d2_1 : decode jdk_29_method_65_code 1 = .ok (.iload_n 1, 1) := by decide +kernel
theorem d2_2 : decode jdk_29_method_65_code 2 = .ok (.if_icmp .lt 7, 3) := by decide +kernel
theorem d2_5 : decode jdk_29_method_65_code 5 = .ok (.iload_n 0, 1) := by decide +kernel
theorem d2_6 : decode jdk_29_method_65_code 6 = .ok (.goto 4, 3) := by decide +kernel
theorem d2_9 : decode jdk_29_method_65_code 9 = .ok (.iload_n 1, 1) := by decide +kernel
theorem d2_10 : decode jdk_29_method_65_code 10 = .ok (.ireturn, 1) := by decide +kernel
theorem ef_rm2 (m : MethodId) (p1 : Int32) (p2 : Int32) : entryFrame m #[(.int p1), (.int p2)] 2 = mkF m 0 #[.val (.int p1), .val (.int p2)] [] := by first | (simp [entryFrame, mkF, argsToLocals, Value.category]; done) | rfl
def Q2 (Z : State) (p1 : Int32) (p2 : Int32) (h0 : Heap) (n0 : Nat) (v : Option Value) (h : Heap) (L : List Loc) : Prop := v = some (.int (imax p1 p2)) ∧ Fr n0 L ∧ h = h0
set_option maxRecDepth 65536 in
set_option maxHeartbeats 40000000 in
theorem rm2 (l : Launch) (Z : State) (a0 : Array Value) (hw : ∀ d ∈ tables_1, d.before a0 Z = true) (ws : List Jvm.Cond) (p1 : Int32) (p2 : Int32) (h0 : Heap) (n0 : Nat) (Z0 : n0 ≤ h0.size) :
    MetFree l (⟨"java/lang/Math", "max", "(II)I"⟩ : MethodName) (head1 (Jvm.Cond.code (⟨"java/lang/Math", "max", "(II)I"⟩ : MethodName) jdk_29_method_65_code 2 (some .int) :: ws) ({ frames := 0, cells := 0, slots := 0, locals := 0 } : Room)) (fun a U => a = #[(.int p1), (.int p2)] ∧ Z.Warmed39 U.vm ∧ U.heap = h0) (fun _ _ _ _ _ => True) (fun _ U o U' => ∃ v L, o = .returned v ∧ Q2 Z p1 p2 h0 n0 v U'.heap L ∧ FrameEnd U o U' L ({ frames := 0, cells := 0, slots := 0, locals := 0 } : Room).cells ({ frames := 0, cells := 0, slots := 0, locals := 0 } : Room).slots) := by
  refine MetFree.of_bodySF (Jvm.Free.JP.mathPlain rfl (by decide +kernel)) hisR ?_
  intro p e s m args below meth c s₁ Bd hml0 hP hK
  obtain ⟨rfl, hZ, hh⟩ := hP
  have hx := Bd.exec
  have hby := Bd.bytes
  have hml : c.maxLocals = 2 := hml0
  have hown : s.vm.findClass "java/lang/Math" = some m.cls := findClass_of_methodNamed Bd.named
  have hnm := (name_of_methodNamed Bd.named Bd.method).1
  have X0 : Stand p l e ({ frames := 0, cells := 0, slots := 0, locals := 0 } : Room) s m #[(.int p1), (.int p2)] below meth c s₁ [] 0 0 := Stand.of_body Bd
  have e0 : s₁.heap = h0 := by rw [← hh, Bd.state]; rfl
  have N0 := Fr.nil n0
  show Go p e below (PP s below (Q2 Z p1 p2 h0 n0) ({ frames := 0, cells := 0, slots := 0, locals := 0 } : Room).cells ({ frames := 0, cells := 0, slots := 0, locals := 0 } : Room).slots) (s₁.setTop (entryFrame m #[(.int p1), (.int p2)] 2))
  refine go (fun _ k => castTop (ef_rm2 m p1 p2) k) ?_
  show Go p e below _ (s₁.setTop (mkF m 0 #[.val (.int p1), .val (.int p2)] []))
  refine go (fun _ k => XS.iloadN X0.here hx rfl (hb hby d2_0) rfl  k) ?_
  show Go p e below _ (s₁.setTop (mkF m 1 #[.val (.int p1), .val (.int p2)] [(.int p1)]))
  refine go (fun _ k => XS.iloadN X0.here hx rfl (hb hby d2_1) rfl  k) ?_
  show Go p e below _ (s₁.setTop (mkF m 2 #[.val (.int p1), .val (.int p2)] [(.int p2), (.int p1)]))
  by_cases hc2_1 : p1 < p2
  · skip
    refine go (fun _ k => XS.icmpYes X0.here hx rfl (pc0 := 2) (pc' := 9) rfl (hb hby d2_2) rfl (tlt hc2_1).1 (by decide) (by decide) k) ?_
    show Go p e below _ (s₁.setTop (mkF m 9 #[.val (.int p1), .val (.int p2)] []))
    refine go (fun _ k => XS.iloadN X0.here hx rfl (hb hby d2_9) rfl  k) ?_
    show Go p e below _ (s₁.setTop (mkF m 10 #[.val (.int p1), .val (.int p2)] [(.int p2)]))
    obtain ⟨fs, hr, hrun, hended, hW, hsame⟩ := X0.leave (v := some (.int p2)) (fun h => by rw [Bd.returns] at h; cases h)
    refine leaf (T := s₁) ⟨fs, retI X0 hx Bd.returns (hb hby d2_10) hr, hrun, hended, hW, hsame⟩ ?_ (by decide) (by decide)
    show Q2 Z p1 p2 h0 n0 _ s₁.heap _
    rw [e0]
    exact ⟨(by rw [imax, if_pos hc2_1]), N0, rfl⟩
  · skip
    refine go (fun _ k => XS.icmpNo X0.here hx rfl (hb hby d2_2) rfl (flt hc2_1).1 k) ?_
    show Go p e below _ (s₁.setTop (mkF m 5 #[.val (.int p1), .val (.int p2)] []))
    refine go (fun _ k => XS.iloadN X0.here hx rfl (hb hby d2_5) rfl  k) ?_
    show Go p e below _ (s₁.setTop (mkF m 6 #[.val (.int p1), .val (.int p2)] [(.int p1)]))
    refine go (fun _ k => XS.goto X0.here hx rfl (pc0 := 6) (pc' := 10) rfl (hb hby d2_6) (by decide) (by decide) k) ?_
    show Go p e below _ (s₁.setTop (mkF m 10 #[.val (.int p1), .val (.int p2)] [(.int p1)]))
    obtain ⟨fs, hr, hrun, hended, hW, hsame⟩ := X0.leave (v := some (.int p1)) (fun h => by rw [Bd.returns] at h; cases h)
    refine leaf (T := s₁) ⟨fs, retI X0 hx Bd.returns (hb hby d2_10) hr, hrun, hended, hW, hsame⟩ ?_ (by decide) (by decide)
    show Q2 Z p1 p2 h0 n0 _ s₁.heap _
    rw [e0]
    exact ⟨(by rw [imax, if_neg hc2_1]), N0, rfl⟩
theorem pn_0 : plainName "com/example/drienerlo/drienerlo/retrieval/Scored$Builder" = true := by first | (simp [plainName, overriddenIn]; done) | decide +kernel
theorem d3_0 : decode prog_60_method_1_code 0 = .ok (.aload_n 0, 1) := by decide +kernel
theorem d3_1 : decode prog_60_method_1_code 1 = .ok (.invokespecial 1, 3) := by decide +kernel
theorem d3_4 : decode prog_60_method_1_code 4 = .ok (.aload_n 0, 1) := by decide +kernel
theorem d3_5 : decode prog_60_method_1_code 5 = .ok (.iload_n 1, 1) := by decide +kernel
theorem d3_6 : decode prog_60_method_1_code 6 = .ok (.newarray .int, 2) := by decide +kernel
theorem d3_8 : decode prog_60_method_1_code 8 = .ok (.putfield 7, 3) := by decide +kernel
theorem d3_11 : decode prog_60_method_1_code 11 = .ok (.aload_n 0, 1) := by decide +kernel
theorem d3_12 : decode prog_60_method_1_code 12 = .ok (.iload_n 1, 1) := by decide +kernel
theorem d3_13 : decode prog_60_method_1_code 13 = .ok (.newarray .double, 2) := by decide +kernel
theorem d3_15 : decode prog_60_method_1_code 15 = .ok (.putfield 13, 3) := by decide +kernel
theorem d3_18 : decode prog_60_method_1_code 18 = .ok (.return_, 1) := by decide +kernel
theorem ef_rm3 (m : MethodId) (a1 : Addr) (p2 : Int32) : entryFrame m #[(.ref a1), (.int p2)] 2 = mkF m 0 #[.val (.ref a1), .val (.int p2)] [] := by first | (simp [entryFrame, mkF, argsToLocals, Value.category]; done) | rfl
def Q3 (Z : State) (a1 : Addr) (p2 : Int32) (u1 : Value) (u2 : Value) (z : Int32) (h0 : Heap) (n0 : Nat) (v : Option Value) (h : Heap) (L : List Loc) : Prop := ∃ be : Addr, ∃ ke : ClassId, ∃ bd : Addr, ∃ kd : ClassId, v = none ∧ Fr n0 L ∧ Keep h0 h [a1] ∧ h0.size ≤ be ∧ h0.size ≤ bd ∧ be ≠ bd ∧ Exa Z h a1 "com/example/drienerlo/drienerlo/retrieval/Scored$Builder" ∧ Fld Z h a1 "com/example/drienerlo/drienerlo/retrieval/Scored$Builder" "elements" "[I" (.ref be) ∧ Fld Z h a1 "com/example/drienerlo/drienerlo/retrieval/Scored$Builder" "scores" "[D" (.ref bd) ∧ Fld Z h a1 "com/example/drienerlo/drienerlo/retrieval/Scored$Builder" "size" "I" (.int z) ∧ Arv Z h be ke .int p2 ([(.int (0 : Int32)), (.int (0 : Int32)), (.int (0 : Int32)), (.int (0 : Int32))]) (.int (0 : Int32)) ∧ Arv Z h bd kd .double p2 ([(.double (0 : UInt64)), (.double (0 : UInt64)), (.double (0 : UInt64)), (.double (0 : UInt64))]) (.double (0 : UInt64)) ∧ Exa Z h be "[I" ∧ Exa Z h bd "[D"
set_option maxRecDepth 65536 in
set_option maxHeartbeats 40000000 in
theorem rm3 (l : Launch) (Z : State) (a0 : Array Value) (hw : ∀ d ∈ tables_1, d.before a0 Z = true) (ws : List Jvm.Cond) (a1 : Addr) (p2 : Int32) (u1 : Value) (u2 : Value) (z : Int32) (h0 : Heap) (n0 : Nat) (Z0 : n0 ≤ h0.size) (E_a1 : Exa Z h0 a1 "com/example/drienerlo/drienerlo/retrieval/Scored$Builder") (g_a1 : n0 ≤ a1) (F_elements_a1 : Fld Z h0 a1 "com/example/drienerlo/drienerlo/retrieval/Scored$Builder" "elements" "[I" u1) (F_scores_a1 : Fld Z h0 a1 "com/example/drienerlo/drienerlo/retrieval/Scored$Builder" "scores" "[D" u2) (F_size_a1 : Fld Z h0 a1 "com/example/drienerlo/drienerlo/retrieval/Scored$Builder" "size" "I" (.int z)) (hp : 0 ≤ p2.toInt ∧ p2.toInt ≤ 4) :
    MetFree l (⟨"com/example/drienerlo/drienerlo/retrieval/Scored$Builder", "<init>", "(I)V"⟩ : MethodName) (head1 (Jvm.Cond.code (⟨"com/example/drienerlo/drienerlo/retrieval/Scored$Builder", "<init>", "(I)V"⟩ : MethodName) prog_60_method_1_code 2 none :: ws) ({ frames := 1, cells := 2, slots := 8, locals := 12 } : Room)) (fun a U => a = #[(.ref a1), (.int p2)] ∧ Z.Warmed39 U.vm ∧ U.heap = h0) (fun _ _ _ _ _ => True) (fun _ U o U' => ∃ v L, o = .returned v ∧ Q3 Z a1 p2 u1 u2 z h0 n0 v U'.heap L ∧ FrameEnd U o U' L ({ frames := 1, cells := 2, slots := 8, locals := 12 } : Room).cells ({ frames := 1, cells := 2, slots := 8, locals := 12 } : Room).slots) := by
  refine MetFree.of_bodySF (plainFor_of_name pn_0) hisR ?_
  intro p e s m args below meth c s₁ Bd hml0 hP hK
  obtain ⟨rfl, hZ, hh⟩ := hP
  have hx := Bd.exec
  have hby := Bd.bytes
  have hml : c.maxLocals = 2 := hml0
  have hown : s.vm.findClass "com/example/drienerlo/drienerlo/retrieval/Scored$Builder" = some m.cls := findClass_of_methodNamed Bd.named
  have hnm := (name_of_methodNamed Bd.named Bd.method).1
  have X0 : Stand p l e ({ frames := 1, cells := 2, slots := 8, locals := 12 } : Room) s m #[(.ref a1), (.int p2)] below meth c s₁ [] 0 0 := Stand.of_body Bd
  have e0 : s₁.heap = h0 := by rw [← hh, Bd.state]; rfl
  have N0 := Fr.nil n0
  show Go p e below (PP s below (Q3 Z a1 p2 u1 u2 z h0 n0) ({ frames := 1, cells := 2, slots := 8, locals := 12 } : Room).cells ({ frames := 1, cells := 2, slots := 8, locals := 12 } : Room).slots) (s₁.setTop (entryFrame m #[(.ref a1), (.int p2)] 2))
  refine go (fun _ k => castTop (ef_rm3 m a1 p2) k) ?_
  show Go p e below _ (s₁.setTop (mkF m 0 #[.val (.ref a1), .val (.int p2)] []))
  refine go (fun _ k => XS.aloadN X0.here hx rfl (hb hby d3_0) rfl rfl  k) ?_
  show Go p e below _ (s₁.setTop (mkF m 1 #[.val (.ref a1), .val (.int p2)] [(.ref a1)]))
  obtain ⟨T1, X1, e1, st1⟩ := initO X0 hx hZ hown (hw _ (List.mem_of_getElem? (i := 13) rfl)) (hw _ (List.mem_of_getElem? (i := 14) rfl)) (hw _ (List.mem_of_getElem? (i := 15) rfl)) e0 (g := (mkF m 1 #[.val (.ref a1), .val (.int p2)] [(.ref a1)])) rfl (by rw [hml]; rfl) rfl (hb hby d3_1) (by decide) (W := 0) (by show 2 * 0 + _ ≤ _; exact Nat.le_of_eq rfl) (by decide)
  refine go st1 ?_
  show Go p e below _ (T1.setTop (mkF m 4 #[.val (.ref a1), .val (.int p2)] []))
  refine go (fun _ k => XS.aloadN X1.here hx rfl (hb hby d3_4) rfl rfl  k) ?_
  show Go p e below _ (T1.setTop (mkF m 5 #[.val (.ref a1), .val (.int p2)] [(.ref a1)]))
  refine go (fun _ k => XS.iloadN X1.here hx rfl (hb hby d3_5) rfl  k) ?_
  show Go p e below _ (T1.setTop (mkF m 6 #[.val (.ref a1), .val (.int p2)] [(.int p2), (.ref a1)]))
  obtain ⟨T2, h2, k2, X2, e2, E2, A2, EX2, st2⟩ := newPE X1 hx hZ (hw _ (List.mem_of_getElem? (i := 16) rfl)) e1 (g := (mkF m 6 #[.val (.ref a1), .val (.int p2)] [(.int p2), (.ref a1)])) rfl (hb hby d3_6) rfl (own_nneg hp.1) (cap := 4) (own_cap4 hp) (by decide) (by decide) (by decide) (ad := "[I") (by decide)
  obtain ⟨b2, g2⟩ : ∃ z, z = h0.size := ⟨_, rfl⟩
  rw [← g2] at A2 EX2 st2
  have sz_b2 : h0.size ≤ b2 := Nat.le_trans (Keep.refl h0 [a1]).1 (Nat.le_of_eq g2.symm)
  have g_b2 : n0 ≤ b2 := Nat.le_trans Z0 sz_b2
  have V_b2 : Arv Z h2 b2 k2 .int p2 [(.int (0 : Int32)), (.int (0 : Int32)), (.int (0 : Int32)), (.int (0 : Int32))] (.int (0 : Int32)) := (Arv.new A2 (own_nneg hp.1)).pad (pad_rep [] (.int (0 : Int32)) 4)
  refine go st2 ?_
  show Go p e below _ (T2.setTop (mkF m 8 #[.val (.ref a1), .val (.int p2)] [(.ref b2), (.ref a1)]))
  obtain ⟨T3, h3, X3, e3, W3, st3⟩ := putF X2 hx hZ hown (host := "") (Or.inl (hw _ (List.mem_of_getElem? (i := 17) rfl))) Via.refl e2 (F_elements_a1.ext E2) (E_a1.ext E2) (Or.inr ⟨(hw _ (List.mem_of_getElem? (i := 18) rfl)), rfl, hnm⟩) (hw _ (List.mem_of_getElem? (i := 8) rfl)) (ty := (.array .int)) (by decide) rfl rfl (g := (mkF m 8 #[.val (.ref a1), .val (.int p2)] [(.ref b2), (.ref a1)])) rfl rfl (hb hby d3_8)
  have Fw3 := (F_elements_a1.ext E2).same W3
  have N3 := Fr.snoc X3 N0 g_a1
  refine go st3 ?_
  show Go p e below _ (T3.setTop (mkF m 11 #[.val (.ref a1), .val (.int p2)] []))
  refine go (fun _ k => XS.aloadN X3.here hx rfl (hb hby d3_11) rfl rfl  k) ?_
  show Go p e below _ (T3.setTop (mkF m 12 #[.val (.ref a1), .val (.int p2)] [(.ref a1)]))
  refine go (fun _ k => XS.iloadN X3.here hx rfl (hb hby d3_12) rfl  k) ?_
  show Go p e below _ (T3.setTop (mkF m 13 #[.val (.ref a1), .val (.int p2)] [(.int p2), (.ref a1)]))
  obtain ⟨T4, h4, k4, X4, e4, E4, A4, EX4, st4⟩ := newPE X3 hx hZ (hw _ (List.mem_of_getElem? (i := 19) rfl)) e3 (g := (mkF m 13 #[.val (.ref a1), .val (.int p2)] [(.int p2), (.ref a1)])) rfl (hb hby d3_13) rfl (own_nneg hp.1) (cap := 4) (own_cap4 hp) (by decide) (by decide) (by decide) (ad := "[D") (by decide)
  obtain ⟨b4, g4⟩ : ∃ z, z = h3.size := ⟨_, rfl⟩
  rw [← g4] at A4 EX4 st4
  have K5 : Keep h0 h3 [a1] := (((Keep.refl h0 [a1]).ext E2).wr W3 (Or.inl (List.mem_of_getElem? (i := 0) rfl)))
  have sz_b4 : h0.size ≤ b4 := Nat.le_trans K5.1 (Nat.le_of_eq g4.symm)
  have g_b4 : n0 ≤ b4 := Nat.le_trans Z0 sz_b4
  have V_b4 : Arv Z h4 b4 k4 .double p2 [(.double (0 : UInt64)), (.double (0 : UInt64)), (.double (0 : UInt64)), (.double (0 : UInt64))] (.double (0 : UInt64)) := (Arv.new A4 (own_nneg hp.1)).pad (pad_rep [] (.double (0 : UInt64)) 4)
  refine go st4 ?_
  show Go p e below _ (T4.setTop (mkF m 15 #[.val (.ref a1), .val (.int p2)] [(.ref b4), (.ref a1)]))
  have f6 := (((F_scores_a1.ext E2).other W3 (Or.inr (slot_ne (Or.inr (hw _ (List.mem_of_getElem? (i := 21) rfl))) (Or.inr (hw _ (List.mem_of_getElem? (i := 18) rfl))) (by decide) (t := (.array .double)) (t' := (.array .int)) (by decide) (by decide)))).ext E4)
  obtain ⟨T7, h7, X7, e7, W7, st7⟩ := putF X4 hx hZ hown (host := "") (Or.inl (hw _ (List.mem_of_getElem? (i := 20) rfl))) Via.refl e4 f6 (((E_a1.ext E2).wr W3).ext E4) (Or.inr ⟨(hw _ (List.mem_of_getElem? (i := 21) rfl)), rfl, hnm⟩) (hw _ (List.mem_of_getElem? (i := 8) rfl)) (ty := (.array .double)) (by decide) rfl rfl (g := (mkF m 15 #[.val (.ref a1), .val (.int p2)] [(.ref b4), (.ref a1)])) rfl rfl (hb hby d3_15)
  have Fw7 := f6.same W7
  have N7 := Fr.snoc X7 N3 g_a1
  refine go st7 ?_
  show Go p e below _ (T7.setTop (mkF m 18 #[.val (.ref a1), .val (.int p2)] []))
  obtain ⟨fs, hr, hrun, hended, hW, hsame⟩ := X7.leave (v := none) (fun _ => rfl)
  have K8 : Keep h0 h7 [a1] := ((K5.ext E4).wr W7 (Or.inl (List.mem_of_getElem? (i := 0) rfl)))
  have f9 := ((Fw3.ext E4).other W7 (Or.inr (slot_ne (Or.inr (hw _ (List.mem_of_getElem? (i := 18) rfl))) (Or.inr (hw _ (List.mem_of_getElem? (i := 21) rfl))) (by decide) (t := (.array .int)) (t' := (.array .double)) (by decide) (by decide))))
  have f10 := ((((F_size_a1.ext E2).other W3 (Or.inr (slot_ne (Or.inl (hw _ (List.mem_of_getElem? (i := 31) rfl))) (Or.inr (hw _ (List.mem_of_getElem? (i := 18) rfl))) (by decide) (t := .int) (t' := (.array .int)) (by decide) (by decide)))).ext E4).other W7 (Or.inr (slot_ne (Or.inl (hw _ (List.mem_of_getElem? (i := 31) rfl))) (Or.inr (hw _ (List.mem_of_getElem? (i := 21) rfl))) (by decide) (t := .int) (t' := (.array .double)) (by decide) (by decide))))
  have f11 := (((V_b2.other W3 (Ne.symm (Nat.ne_of_lt (Nat.lt_of_lt_of_le E_a1.lt (Nat.le_of_eq g2.symm))))).ext E4).other W7 (Ne.symm (Nat.ne_of_lt (Nat.lt_of_lt_of_le E_a1.lt (Nat.le_of_eq g2.symm)))))
  have f12 := (V_b4.other W7 (Ne.symm (Nat.ne_of_lt (Nat.lt_of_lt_of_le (Nat.lt_of_lt_of_le (Nat.lt_of_lt_of_le E_a1.lt E2.1) (Keep.of_wr W3).1) (Nat.le_of_eq g4.symm)))))
  refine leaf (T := T7) ⟨fs, X7.returnOut hx Bd.returns (hb hby d3_18) hr, hrun, hended, hW, hsame⟩ ?_ (by decide) (by decide)
  show Q3 Z a1 p2 u1 u2 z h0 n0 _ T7.heap _
  rw [e7]
  exact ⟨b2, k2, b4, k4, rfl, N7, K8, sz_b2, sz_b4, (Nat.ne_of_lt (Nat.lt_of_lt_of_le (Nat.lt_of_lt_of_le V_b2.lt (Keep.of_wr W3).1) (Nat.le_of_eq g4.symm))), ((((E_a1.ext E2).wr W3).ext E4).wr W7), f9, Fw7, f10, f11, f12, (((EX2.wr W3).ext E4).wr W7), (EX4.wr W7)⟩
theorem d11_0 : decode prog_60_method_2_code 0 = .ok (.aload_n 0, 1) := by decide +kernel
theorem d11_1 : decode prog_60_method_2_code 1 = .ok (.getfield 7, 3) := by decide +kernel
theorem d11_4 : decode prog_60_method_2_code 4 = .ok (.aload_n 0, 1) := by decide +kernel
theorem d11_5 : decode prog_60_method_2_code 5 = .ok (.getfield 17, 3) := by decide +kernel
theorem d11_8 : decode prog_60_method_2_code 8 = .ok (.iload_n 1, 1) := by decide +kernel
theorem d11_9 : decode prog_60_method_2_code 9 = .ok (.iastore, 1) := by decide +kernel
theorem d11_10 : decode prog_60_method_2_code 10 = .ok (.aload_n 0, 1) := by decide +kernel
theorem d11_11 : decode prog_60_method_2_code 11 = .ok (.getfield 13, 3) := by decide +kernel
theorem d11_14 : decode prog_60_method_2_code 14 = .ok (.aload_n 0, 1) := by decide +kernel
theorem d11_15 : decode prog_60_method_2_code 15 = .ok (.getfield 17, 3) := by decide +kernel
theorem d11_18 : decode prog_60_method_2_code 18 = .ok (.dload_n 2, 1) := by decide +kernel
theorem d11_19 : decode prog_60_method_2_code 19 = .ok (.dastore, 1) := by decide +kernel
theorem d11_20 : decode prog_60_method_2_code 20 = .ok (.aload_n 0, 1) := by decide +kernel
theorem d11_21 : decode prog_60_method_2_code 21 = .ok (.dup, 1) := by decide +kernel
theorem d11_22 : decode prog_60_method_2_code 22 = .ok (.getfield 17, 3) := by decide +kernel
theorem d11_25 : decode prog_60_method_2_code 25 = .ok (.iconst 1, 1) := by decide +kernel
theorem d11_26 : decode prog_60_method_2_code 26 = .ok (.iadd, 1) := by decide +kernel
theorem d11_27 : decode prog_60_method_2_code 27 = .ok (.putfield 17, 3) := by decide +kernel
theorem d11_30 : decode prog_60_method_2_code 30 = .ok (.return_, 1) := by decide +kernel
theorem ef_rm11 (m : MethodId) (a1 : Addr) (p2 : Int32) (d3 : UInt64) : entryFrame m #[(.ref a1), (.int p2), (.double d3)] 4 = mkF m 0 #[.val (.ref a1), .val (.int p2), .val (.double d3), .second] [] := by first | (simp [entryFrame, mkF, argsToLocals, Value.category]; done) | rfl
def Q11 (Z : State) (a1 : Addr) (p2 : Int32) (d3 : UInt64) (be : Addr) (ke : ClassId) (bd : Addr) (kd : ClassId) (n : Int32) (xs : List Value) (ys : List Value) (z : Int32) (j : Nat) (z2 : Int32) (h0 : Heap) (n0 : Nat) (v : Option Value) (h : Heap) (L : List Loc) : Prop := v = none ∧ Fr n0 L ∧ Keep h0 h [a1, be, bd] ∧ Exa Z h a1 "com/example/drienerlo/drienerlo/retrieval/Scored$Builder" ∧ Fld Z h a1 "com/example/drienerlo/drienerlo/retrieval/Scored$Builder" "elements" "[I" (.ref be) ∧ Fld Z h a1 "com/example/drienerlo/drienerlo/retrieval/Scored$Builder" "scores" "[D" (.ref bd) ∧ Fld Z h a1 "com/example/drienerlo/drienerlo/retrieval/Scored$Builder" "size" "I" (.int z2) ∧ Arv Z h be ke .int n (xs.set j (.int p2)) (.int (0 : Int32)) ∧ Arv Z h bd kd .double n (ys.set j (.double d3)) (.double (0 : UInt64))
set_option maxRecDepth 65536 in
set_option maxHeartbeats 40000000 in
theorem rm11 (l : Launch) (Z : State) (a0 : Array Value) (hw : ∀ d ∈ tables_1, d.before a0 Z = true) (ws : List Jvm.Cond) (a1 : Addr) (p2 : Int32) (d3 : UInt64) (be : Addr) (ke : ClassId) (bd : Addr) (kd : ClassId) (n : Int32) (xs : List Value) (ys : List Value) (z : Int32) (j : Nat) (z2 : Int32) (h0 : Heap) (n0 : Nat) (Z0 : n0 ≤ h0.size) (E_a1 : Exa Z h0 a1 "com/example/drienerlo/drienerlo/retrieval/Scored$Builder") (F_elements_a1 : Fld Z h0 a1 "com/example/drienerlo/drienerlo/retrieval/Scored$Builder" "elements" "[I" (.ref be)) (F_scores_a1 : Fld Z h0 a1 "com/example/drienerlo/drienerlo/retrieval/Scored$Builder" "scores" "[D" (.ref bd)) (F_size_a1 : Fld Z h0 a1 "com/example/drienerlo/drienerlo/retrieval/Scored$Builder" "size" "I" (.int z)) (V_be : Arv Z h0 be ke .int n xs (.int (0 : Int32))) (V_bd : Arv Z h0 bd kd .double n ys (.double (0 : UInt64))) (g_a1 : n0 ≤ a1) (g_be : n0 ≤ be) (g_bd : n0 ≤ bd) (ne1 : a1 ≠ be) (ne2 : a1 ≠ bd) (ne3 : be ≠ bd) (hz : ¬ z < 0 ∧ z < n) (hj : z.toNatClampNeg = j) (hlx : j < xs.length) (hly : j < ys.length) (hz2 : z + (1 : Int32) = z2) :
    MetFree l (⟨"com/example/drienerlo/drienerlo/retrieval/Scored$Builder", "add", "(ID)V"⟩ : MethodName) (head1 (Jvm.Cond.code (⟨"com/example/drienerlo/drienerlo/retrieval/Scored$Builder", "add", "(ID)V"⟩ : MethodName) prog_60_method_2_code 4 none :: ws) ({ frames := 0, cells := 0, slots := 0, locals := 0 } : Room)) (fun a U => a = #[(.ref a1), (.int p2), (.double d3)] ∧ Z.Warmed39 U.vm ∧ U.heap = h0) (fun _ _ _ _ _ => True) (fun _ U o U' => ∃ v L, o = .returned v ∧ Q11 Z a1 p2 d3 be ke bd kd n xs ys z j z2 h0 n0 v U'.heap L ∧ FrameEnd U o U' L ({ frames := 0, cells := 0, slots := 0, locals := 0 } : Room).cells ({ frames := 0, cells := 0, slots := 0, locals := 0 } : Room).slots) := by
  refine MetFree.of_bodySF (plainFor_of_name pn_0) hisR ?_
  intro p e s m args below meth c s₁ Bd hml0 hP hK
  obtain ⟨rfl, hZ, hh⟩ := hP
  have hx := Bd.exec
  have hby := Bd.bytes
  have hml : c.maxLocals = 4 := hml0
  have hown : s.vm.findClass "com/example/drienerlo/drienerlo/retrieval/Scored$Builder" = some m.cls := findClass_of_methodNamed Bd.named
  have hnm := (name_of_methodNamed Bd.named Bd.method).1
  have X0 : Stand p l e ({ frames := 0, cells := 0, slots := 0, locals := 0 } : Room) s m #[(.ref a1), (.int p2), (.double d3)] below meth c s₁ [] 0 0 := Stand.of_body Bd
  have e0 : s₁.heap = h0 := by rw [← hh, Bd.state]; rfl
  have N0 := Fr.nil n0
  show Go p e below (PP s below (Q11 Z a1 p2 d3 be ke bd kd n xs ys z j z2 h0 n0) ({ frames := 0, cells := 0, slots := 0, locals := 0 } : Room).cells ({ frames := 0, cells := 0, slots := 0, locals := 0 } : Room).slots) (s₁.setTop (entryFrame m #[(.ref a1), (.int p2), (.double d3)] 4))
  refine go (fun _ k => castTop (ef_rm11 m a1 p2 d3) k) ?_
  show Go p e below _ (s₁.setTop (mkF m 0 #[.val (.ref a1), .val (.int p2), .val (.double d3), .second] []))
  refine go (fun _ k => XS.aloadN X0.here hx rfl (hb hby d11_0) rfl rfl  k) ?_
  show Go p e below _ (s₁.setTop (mkF m 1 #[.val (.ref a1), .val (.int p2), .val (.double d3), .second] [(.ref a1)]))
  obtain ⟨T1, X1, e1, st1⟩ := getF X0 hx hZ hown (host := "") (Or.inl (hw _ (List.mem_of_getElem? (i := 17) rfl))) Via.refl e0 F_elements_a1 (g := (mkF m 1 #[.val (.ref a1), .val (.int p2), .val (.double d3), .second] [(.ref a1)])) rfl rfl (hb hby d11_1)
  refine go st1 ?_
  show Go p e below _ (T1.setTop (mkF m 4 #[.val (.ref a1), .val (.int p2), .val (.double d3), .second] [(.ref be)]))
  refine go (fun _ k => XS.aloadN X1.here hx rfl (hb hby d11_4) rfl rfl  k) ?_
  show Go p e below _ (T1.setTop (mkF m 5 #[.val (.ref a1), .val (.int p2), .val (.double d3), .second] [(.ref a1), (.ref be)]))
  obtain ⟨T2, X2, e2, st2⟩ := getF X1 hx hZ hown (host := "") (Or.inl (hw _ (List.mem_of_getElem? (i := 30) rfl))) Via.refl e1 F_size_a1 (g := (mkF m 5 #[.val (.ref a1), .val (.int p2), .val (.double d3), .second] [(.ref a1), (.ref be)])) rfl rfl (hb hby d11_5)
  refine go st2 ?_
  show Go p e below _ (T2.setTop (mkF m 8 #[.val (.ref a1), .val (.int p2), .val (.double d3), .second] [(.int z), (.ref be)]))
  refine go (fun _ k => XS.iloadN X2.here hx rfl (hb hby d11_8) rfl  k) ?_
  show Go p e below _ (T2.setTop (mkF m 9 #[.val (.ref a1), .val (.int p2), .val (.double d3), .second] [(.int p2), (.int z), (.ref be)]))
  obtain ⟨cl3, Ar3, q3, S3, M3, H3, G3⟩ := id V_be
  have hin3 : ¬ (z < 0 ∨ cl3.slots.size ≤ (z).toNatClampNeg) := inb_of S3 hz
  obtain ⟨T3, h3, X3, e3, W3, st3⟩ := stI X2 hx hZ e2 Ar3 (j := z) hin3 (g := (mkF m 9 #[.val (.ref a1), .val (.int p2), .val (.double d3), .second] [(.int p2), (.int z), (.ref be)])) rfl rfl (hb hby d11_9)
  have V3 := Arv.set Ar3 q3 S3 M3 H3 G3 rfl W3 j hj hlx
  have V_be_3 : Arv Z h3 be ke .int n (xs.set j (.int p2)) (.int (0 : Int32)) := V3
  have N3 := Fr.snoc X3 N0 g_be
  refine go st3 ?_
  show Go p e below _ (T3.setTop (mkF m 10 #[.val (.ref a1), .val (.int p2), .val (.double d3), .second] []))
  refine go (fun _ k => XS.aloadN X3.here hx rfl (hb hby d11_10) rfl rfl  k) ?_
  show Go p e below _ (T3.setTop (mkF m 11 #[.val (.ref a1), .val (.int p2), .val (.double d3), .second] [(.ref a1)]))
  obtain ⟨T4, X4, e4, st4⟩ := getF X3 hx hZ hown (host := "") (Or.inl (hw _ (List.mem_of_getElem? (i := 20) rfl))) Via.refl e3 (F_scores_a1.other W3 (Or.inl ne1)) (g := (mkF m 11 #[.val (.ref a1), .val (.int p2), .val (.double d3), .second] [(.ref a1)])) rfl rfl (hb hby d11_11)
  refine go st4 ?_
  show Go p e below _ (T4.setTop (mkF m 14 #[.val (.ref a1), .val (.int p2), .val (.double d3), .second] [(.ref bd)]))
  refine go (fun _ k => XS.aloadN X4.here hx rfl (hb hby d11_14) rfl rfl  k) ?_
  show Go p e below _ (T4.setTop (mkF m 15 #[.val (.ref a1), .val (.int p2), .val (.double d3), .second] [(.ref a1), (.ref bd)]))
  obtain ⟨T5, X5, e5, st5⟩ := getF X4 hx hZ hown (host := "") (Or.inl (hw _ (List.mem_of_getElem? (i := 30) rfl))) Via.refl e4 (F_size_a1.other W3 (Or.inl ne1)) (g := (mkF m 15 #[.val (.ref a1), .val (.int p2), .val (.double d3), .second] [(.ref a1), (.ref bd)])) rfl rfl (hb hby d11_15)
  refine go st5 ?_
  show Go p e below _ (T5.setTop (mkF m 18 #[.val (.ref a1), .val (.int p2), .val (.double d3), .second] [(.int z), (.ref bd)]))
  refine go (fun _ k => XS.dloadN X5.here hx rfl (hb hby d11_18) rfl  k) ?_
  show Go p e below _ (T5.setTop (mkF m 19 #[.val (.ref a1), .val (.int p2), .val (.double d3), .second] [(.double d3), (.int z), (.ref bd)]))
  obtain ⟨cl6, Ar6, q6, S6, M6, H6, G6⟩ := id (V_bd.other W3 (Ne.symm ne3))
  have hin6 : ¬ (z < 0 ∨ cl6.slots.size ≤ (z).toNatClampNeg) := inb_of S6 hz
  obtain ⟨T6, h6, X6, e6, W6, st6⟩ := stD X5 hx hZ e5 Ar6 (j := z) hin6 (g := (mkF m 19 #[.val (.ref a1), .val (.int p2), .val (.double d3), .second] [(.double d3), (.int z), (.ref bd)])) rfl rfl (hb hby d11_19)
  have V6 := Arv.set Ar6 q6 S6 M6 H6 G6 rfl W6 j hj hly
  have V_bd_6 : Arv Z h6 bd kd .double n (ys.set j (.double d3)) (.double (0 : UInt64)) := V6
  have N6 := Fr.snoc X6 N3 g_bd
  refine go st6 ?_
  show Go p e below _ (T6.setTop (mkF m 20 #[.val (.ref a1), .val (.int p2), .val (.double d3), .second] []))
  refine go (fun _ k => XS.aloadN X6.here hx rfl (hb hby d11_20) rfl rfl  k) ?_
  show Go p e below _ (T6.setTop (mkF m 21 #[.val (.ref a1), .val (.int p2), .val (.double d3), .second] [(.ref a1)]))
  refine go (fun _ k => XS.dup X6.here hx rfl (hb hby d11_21) rfl rfl k) ?_
  show Go p e below _ (T6.setTop (mkF m 22 #[.val (.ref a1), .val (.int p2), .val (.double d3), .second] [(.ref a1), (.ref a1)]))
  obtain ⟨T7, X7, e7, st7⟩ := getF X6 hx hZ hown (host := "") (Or.inl (hw _ (List.mem_of_getElem? (i := 30) rfl))) Via.refl e6 ((F_size_a1.other W3 (Or.inl ne1)).other W6 (Or.inl ne2)) (g := (mkF m 22 #[.val (.ref a1), .val (.int p2), .val (.double d3), .second] [(.ref a1), (.ref a1)])) rfl rfl (hb hby d11_22)
  refine go st7 ?_
  show Go p e below _ (T7.setTop (mkF m 25 #[.val (.ref a1), .val (.int p2), .val (.double d3), .second] [(.int z), (.ref a1)]))
  refine go (fun _ k => XS.iconst X7.here hx rfl (hb hby d11_25) k) ?_
  show Go p e below _ (T7.setTop (mkF m 26 #[.val (.ref a1), .val (.int p2), .val (.double d3), .second] [(.int (1 : Int32)), (.int z), (.ref a1)]))
  refine go (fun _ k => XS.iadd X7.here hx rfl (hb hby d11_26) rfl k) ?_
  show Go p e below _ (T7.setTop (mkF m 27 #[.val (.ref a1), .val (.int p2), .val (.double d3), .second] [(.int (z + (1 : Int32))), (.ref a1)]))
  obtain ⟨T8, h8, X8, e8, W8, st8⟩ := putF X7 hx hZ hown (host := "") (Or.inl (hw _ (List.mem_of_getElem? (i := 30) rfl))) Via.refl e7 ((F_size_a1.other W3 (Or.inl ne1)).other W6 (Or.inl ne2)) ((E_a1.wr W3).wr W6) (Or.inl (hw _ (List.mem_of_getElem? (i := 31) rfl))) (hw _ (List.mem_of_getElem? (i := 8) rfl)) (ty := .int) (by decide) rfl rfl (g := (mkF m 27 #[.val (.ref a1), .val (.int p2), .val (.double d3), .second] [(.int (z + (1 : Int32))), (.ref a1)])) rfl rfl (hb hby d11_27)
  have Fw8 := ((F_size_a1.other W3 (Or.inl ne1)).other W6 (Or.inl ne2)).same W8
  have N8 := Fr.snoc X8 N6 g_a1
  refine go st8 ?_
  show Go p e below _ (T8.setTop (mkF m 30 #[.val (.ref a1), .val (.int p2), .val (.double d3), .second] []))
  obtain ⟨fs, hr, hrun, hended, hW, hsame⟩ := X8.leave (v := none) (fun _ => rfl)
  have K9 : Keep h0 h8 [a1, be, bd] := ((((Keep.refl h0 [a1, be, bd]).wr W3 (Or.inl (List.mem_of_getElem? (i := 1) rfl))).wr W6 (Or.inl (List.mem_of_getElem? (i := 2) rfl))).wr W8 (Or.inl (List.mem_of_getElem? (i := 0) rfl)))
  have f10 := (((F_elements_a1.other W3 (Or.inl ne1)).other W6 (Or.inl ne2)).other W8 (Or.inr (slot_ne (Or.inr (hw _ (List.mem_of_getElem? (i := 18) rfl))) (Or.inl (hw _ (List.mem_of_getElem? (i := 31) rfl))) (by decide) (t := (.array .int)) (t' := .int) (by decide) (by decide))))
  have f11 := (((F_scores_a1.other W3 (Or.inl ne1)).other W6 (Or.inl ne2)).other W8 (Or.inr (slot_ne (Or.inr (hw _ (List.mem_of_getElem? (i := 21) rfl))) (Or.inl (hw _ (List.mem_of_getElem? (i := 31) rfl))) (by decide) (t := (.array .double)) (t' := .int) (by decide) (by decide))))
  refine leaf (T := T8) ⟨fs, X8.returnOut hx Bd.returns (hb hby d11_30) hr, hrun, hended, hW, hsame⟩ ?_ (by decide) (by decide)
  show Q11 Z a1 p2 d3 be ke bd kd n xs ys z j z2 h0 n0 _ T8.heap _
  rw [e8]
  exact ⟨rfl, N8, K9, (((E_a1.wr W3).wr W6).wr W8), f10, f11, (hz2 ▸ Fw8), ((V_be_3.other W6 ne3).other W8 (Ne.symm ne1)), (V_bd_6.other W8 (Ne.symm ne2))⟩
theorem pd_0 : parseMethodDescriptor "(II)I" = some ⟨[.int, .int], some .int⟩ := by decide +kernel
theorem pn_1 : plainName "java/util/Arrays" = true := by first | (simp [plainName, overriddenIn]; done) | decide +kernel
theorem d6_0 : decode jdk_65_method_123_code 0 = .ok (.iload_n 1, 1) := by decide +kernel
theorem d6_1 : decode jdk_65_method_123_code 1 = .ok (.aload_n 0, 1) := by decide +kernel
theorem d6_2 : decode jdk_65_method_123_code 2 = .ok (.arraylength, 1) := by decide +kernel
theorem d6_3 : decode jdk_65_method_123_code 3 = .ok (.if_icmp .ne 11, 3) := by decide +kernel
theorem d6_6 : decode jdk_65_method_123_code 6 = .ok (.aload_n 0, 1) := by decide +kernel
theorem d6_7 : decode jdk_65_method_123_code 7 = .ok (.invokevirtual 316, 3) := by decide +kernel
theorem d6_10 : decode jdk_65_method_123_code 10 = .ok (.checkcast 317, 3) := by decide +kernel
theorem d6_13 : decode jdk_65_method_123_code 13 = .ok (.areturn, 1) := by decide +kernel
theorem d6_14 : decode jdk_65_method_123_code 14 = .ok (.iload_n 1, 1) := by decide +kernel
theorem d6_15 : decode jdk_65_method_123_code 15 = .ok (.newarray .int, 2) := by decide +kernel
theorem d6_17 : decode jdk_65_method_123_code 17 = .ok (.astore_n 2, 1) := by decide +kernel
theorem d6_18 : decode jdk_65_method_123_code 18 = .ok (.aload_n 0, 1) := by decide +kernel
theorem d6_19 : decode jdk_65_method_123_code 19 = .ok (.iconst 0, 1) := by decide +kernel
theorem d6_20 : decode jdk_65_method_123_code 20 = .ok (.aload_n 2, 1) := by decide +kernel
theorem d6_21 : decode jdk_65_method_123_code 21 = .ok (.iconst 0, 1) := by decide +kernel
theorem d6_22 : decode jdk_65_method_123_code 22 = .ok (.aload_n 0, 1) := by decide +kernel
theorem d6_23 : decode jdk_65_method_123_code 23 = .ok (.arraylength, 1) := by decide +kernel
theorem d6_24 : decode jdk_65_method_123_code 24 = .ok (.iload_n 1, 1) := by decide +kernel
theorem d6_25 : decode jdk_65_method_123_code 25 = .ok (.invokestatic 304, 3) := by decide +kernel
theorem d6_28 : decode jdk_65_method_123_code 28 = .ok (.invokestatic 150, 3) := by decide +kernel
theorem d6_31 : decode jdk_65_method_123_code 31 = .ok (.aload_n 2, 1) := by decide +kernel
theorem d6_32 : decode jdk_65_method_123_code 32 = .ok (.areturn, 1) := by decide +kernel
theorem ef_rm6 (m : MethodId) (a1 : Addr) (p2 : Int32) : entryFrame m #[(.ref a1), (.int p2)] 3 = mkF m 0 #[.val (.ref a1), .val (.int p2), .unset] [] := by first | (simp [entryFrame, mkF, argsToLocals, Value.category]; done) | rfl
def Q6 (Z : State) (a1 : Addr) (p2 : Int32) (k : ClassId) (n : Int32) (xs : List Value) (h0 : Heap) (n0 : Nat) (v : Option Value) (h : Heap) (L : List Loc) : Prop := ∃ b : Addr, ∃ kb : ClassId, v = some (.ref b) ∧ Fr n0 L ∧ Keep h0 h [] ∧ h0.size ≤ b ∧ Arv Z h b kb .int p2 xs (.int (0 : Int32))
set_option maxRecDepth 65536 in
set_option maxHeartbeats 40000000 in
theorem rm6 (l : Launch) (Z : State) (a0 : Array Value) (hw : ∀ d ∈ tables_1, d.before a0 Z = true) (ws : List Jvm.Cond) (a1 : Addr) (p2 : Int32) (k : ClassId) (n : Int32) (xs : List Value) (h0 : Heap) (n0 : Nat) (Z0 : n0 ≤ h0.size) (V_a1 : Arv Z h0 a1 k .int n xs (.int (0 : Int32))) (E_a1 : Exa Z h0 a1 "[I") (hp : ¬ p2 < 0 ∧ ¬ n < p2) (hn : n.toInt ≤ 4) :
    MetFree l (⟨"java/util/Arrays", "copyOf", "([II)[I"⟩ : MethodName) (head1 (Jvm.Cond.code (⟨"java/util/Arrays", "copyOf", "([II)[I"⟩ : MethodName) jdk_65_method_123_code 3 (some (.array .int)) :: ws) ({ frames := 1, cells := 1, slots := 4, locals := 40 } : Room)) (fun a U => a = #[(.ref a1), (.int p2)] ∧ Z.Warmed39 U.vm ∧ U.heap = h0) (fun _ _ _ _ _ => True) (fun _ U o U' => ∃ v L, o = .returned v ∧ Q6 Z a1 p2 k n xs h0 n0 v U'.heap L ∧ FrameEnd U o U' L ({ frames := 1, cells := 1, slots := 4, locals := 40 } : Room).cells ({ frames := 1, cells := 1, slots := 4, locals := 40 } : Room).slots) := by
  refine MetFree.of_bodySF (plainFor_of_name pn_1) hisR ?_
  intro p e s m args below meth c s₁ Bd hml0 hP hK
  obtain ⟨rfl, hZ, hh⟩ := hP
  have hx := Bd.exec
  have hby := Bd.bytes
  have hml : c.maxLocals = 3 := hml0
  have hown : s.vm.findClass "java/util/Arrays" = some m.cls := findClass_of_methodNamed Bd.named
  have hnm := (name_of_methodNamed Bd.named Bd.method).1
  have X0 : Stand p l e ({ frames := 1, cells := 1, slots := 4, locals := 40 } : Room) s m #[(.ref a1), (.int p2)] below meth c s₁ [] 0 0 := Stand.of_body Bd
  have e0 : s₁.heap = h0 := by rw [← hh, Bd.state]; rfl
  have N0 := Fr.nil n0
  show Go p e below (PP s below (Q6 Z a1 p2 k n xs h0 n0) ({ frames := 1, cells := 1, slots := 4, locals := 40 } : Room).cells ({ frames := 1, cells := 1, slots := 4, locals := 40 } : Room).slots) (s₁.setTop (entryFrame m #[(.ref a1), (.int p2)] 3))
  refine go (fun _ k => castTop (ef_rm6 m a1 p2) k) ?_
  show Go p e below _ (s₁.setTop (mkF m 0 #[.val (.ref a1), .val (.int p2), .unset] []))
  refine go (fun _ k => XS.iloadN X0.here hx rfl (hb hby d6_0) rfl  k) ?_
  show Go p e below _ (s₁.setTop (mkF m 1 #[.val (.ref a1), .val (.int p2), .unset] [(.int p2)]))
  refine go (fun _ k => XS.aloadN X0.here hx rfl (hb hby d6_1) rfl rfl  k) ?_
  show Go p e below _ (s₁.setTop (mkF m 2 #[.val (.ref a1), .val (.int p2), .unset] [(.ref a1), (.int p2)]))
  obtain ⟨cl1, Ar1, -, S1, M1, -, -⟩ := id V_a1
  refine go (X0.arraylength hx (by rw [e0]; exact Ar1.1) (State.isArrayOf_alike hZ.alike Ar1.2.1) (g := (mkF m 2 #[.val (.ref a1), .val (.int p2), .unset] [(.ref a1), (.int p2)])) rfl rfl (hb hby d6_2)) ?_
  rw [len_of S1 M1]
  show Go p e below _ (s₁.setTop (mkF m 3 #[.val (.ref a1), .val (.int p2), .unset] [(.int n), (.int p2)]))
  by_cases hc3_1 : p2 = n
  · skip
    refine go (fun _ k => XS.icmpNo X0.here hx rfl (hb hby d6_3) rfl (teq hc3_1).2 k) ?_
    show Go p e below _ (s₁.setTop (mkF m 6 #[.val (.ref a1), .val (.int p2), .unset] []))
    refine go (fun _ k => XS.aloadN X0.here hx rfl (hb hby d6_6) rfl rfl  k) ?_
    show Go p e below _ (s₁.setTop (mkF m 7 #[.val (.ref a1), .val (.int p2), .unset] [(.ref a1)]))
    obtain ⟨T2, h2, X2, e2, E2, F2, EX2, st2⟩ := cloneH X0 hx hZ hown (hw _ (List.mem_of_getElem? (i := 36) rfl)) (hw _ (List.mem_of_getElem? (i := 37) rfl)) (hw _ (List.mem_of_getElem? (i := 41) rfl)) (hw _ (List.mem_of_getElem? (i := 39) rfl)) (hw _ (List.mem_of_getElem? (i := 40) rfl)) (hw _ (List.mem_of_getElem? (i := 42) rfl)) e0 (Arv.arh V_a1) E_a1 (g := (mkF m 7 #[.val (.ref a1), .val (.int p2), .unset] [(.ref a1)])) rfl (by rw [hml]; rfl) rfl (hb hby d6_7) (by decide) (W := 0) (by show 2 * 0 + _ ≤ _; exact Nat.le_of_eq rfl) (by decide) (cap := 4) (by rw [← hc3_1]; exact own_cap4 (own_capn hp hn)) (by decide) (by decide)
    obtain ⟨b2, g2⟩ : ∃ z, z = h0.size := ⟨_, rfl⟩
    rw [← g2] at F2 EX2 st2
    have sz_b2 : h0.size ≤ b2 := Nat.le_trans (Keep.refl h0 []).1 (Nat.le_of_eq g2.symm)
    have g_b2 : n0 ≤ b2 := Nat.le_trans Z0 sz_b2
    have V_b2 : Arv Z h2 b2 k .int n xs (.int (0 : Int32)) := F2
    refine go st2 ?_
    show Go p e below _ (T2.setTop (mkF m 10 #[.val (.ref a1), .val (.int p2), .unset] [(.ref b2)]))
    obtain ⟨T3, X3, e3, st3⟩ := castY X2 hx hZ hown (hw _ (List.mem_of_getElem? (i := 43) rfl)) e2 (Ins.self EX2) (g := (mkF m 10 #[.val (.ref a1), .val (.int p2), .unset] [(.ref b2)])) rfl rfl (hb hby d6_10)
    refine go st3 ?_
    show Go p e below _ (T3.setTop (mkF m 13 #[.val (.ref a1), .val (.int p2), .unset] [(.ref b2)]))
    obtain ⟨fs, hr, hrun, hended, hW, hsame⟩ := X3.leave (v := some (.ref b2)) (fun h => by rw [Bd.returns] at h; cases h)
    have K4 : Keep h0 h2 [] := ((Keep.refl h0 []).ext E2)
    refine leaf (T := T3) ⟨fs, retA X3 hx Bd.returns rfl rfl rfl (hb hby d6_13) hr, hrun, hended, hW, hsame⟩ ?_ (by decide) (by decide)
    show Q6 Z a1 p2 k n xs h0 n0 _ T3.heap _
    rw [e3]
    exact ⟨b2, k, rfl, N0, K4, sz_b2, (by rw [hc3_1]; exact V_b2)⟩
  · skip
    refine go (fun _ k => XS.icmpYes X0.here hx rfl (pc0 := 3) (pc' := 14) rfl (hb hby d6_3) rfl (feq hc3_1).2 (by decide) (by decide) k) ?_
    show Go p e below _ (s₁.setTop (mkF m 14 #[.val (.ref a1), .val (.int p2), .unset] []))
    refine go (fun _ k => XS.iloadN X0.here hx rfl (hb hby d6_14) rfl  k) ?_
    show Go p e below _ (s₁.setTop (mkF m 15 #[.val (.ref a1), .val (.int p2), .unset] [(.int p2)]))
    obtain ⟨T5, h5, k5, X5, e5, E5, A5, st5⟩ := newP X0 hx hZ (hw _ (List.mem_of_getElem? (i := 16) rfl)) e0 (g := (mkF m 15 #[.val (.ref a1), .val (.int p2), .unset] [(.int p2)])) rfl (hb hby d6_15) rfl hp.1 (cap := 4) (own_cap4 (own_capn hp hn)) (by decide) (by decide) (by decide)
    obtain ⟨b5, g5⟩ : ∃ z, z = h0.size := ⟨_, rfl⟩
    rw [← g5] at A5 st5
    have sz_b5 : h0.size ≤ b5 := Nat.le_trans (Keep.refl h0 []).1 (Nat.le_of_eq g5.symm)
    have g_b5 : n0 ≤ b5 := Nat.le_trans Z0 sz_b5
    have V_b5 : Arv Z h5 b5 k5 .int p2 [(.int (0 : Int32)), (.int (0 : Int32)), (.int (0 : Int32)), (.int (0 : Int32))] (.int (0 : Int32)) := (Arv.new A5 hp.1).pad (pad_rep [] (.int (0 : Int32)) 4)
    refine go st5 ?_
    show Go p e below _ (T5.setTop (mkF m 17 #[.val (.ref a1), .val (.int p2), .unset] [(.ref b5)]))
    refine go (fun _ k => XS.astoreN X5.here hx rfl (hb hby d6_17) rfl rfl (l' := #[.val (.ref a1), .val (.int p2), .val (.ref b5)]) rfl k) ?_
    show Go p e below _ (T5.setTop (mkF m 18 #[.val (.ref a1), .val (.int p2), .val (.ref b5)] []))
    refine go (fun _ k => XS.aloadN X5.here hx rfl (hb hby d6_18) rfl rfl  k) ?_
    show Go p e below _ (T5.setTop (mkF m 19 #[.val (.ref a1), .val (.int p2), .val (.ref b5)] [(.ref a1)]))
    refine go (fun _ k => XS.iconst X5.here hx rfl (hb hby d6_19) k) ?_
    show Go p e below _ (T5.setTop (mkF m 20 #[.val (.ref a1), .val (.int p2), .val (.ref b5)] [(.int (0 : Int32)), (.ref a1)]))
    refine go (fun _ k => XS.aloadN X5.here hx rfl (hb hby d6_20) rfl rfl  k) ?_
    show Go p e below _ (T5.setTop (mkF m 21 #[.val (.ref a1), .val (.int p2), .val (.ref b5)] [(.ref b5), (.int (0 : Int32)), (.ref a1)]))
    refine go (fun _ k => XS.iconst X5.here hx rfl (hb hby d6_21) k) ?_
    show Go p e below _ (T5.setTop (mkF m 22 #[.val (.ref a1), .val (.int p2), .val (.ref b5)] [(.int (0 : Int32)), (.ref b5), (.int (0 : Int32)), (.ref a1)]))
    refine go (fun _ k => XS.aloadN X5.here hx rfl (hb hby d6_22) rfl rfl  k) ?_
    show Go p e below _ (T5.setTop (mkF m 23 #[.val (.ref a1), .val (.int p2), .val (.ref b5)] [(.ref a1), (.int (0 : Int32)), (.ref b5), (.int (0 : Int32)), (.ref a1)]))
    obtain ⟨cl6, Ar6, -, S6, M6, -, -⟩ := id (V_a1.ext E5)
    refine go (X5.arraylength hx (by rw [e5]; exact Ar6.1) (State.isArrayOf_alike hZ.alike Ar6.2.1) (g := (mkF m 23 #[.val (.ref a1), .val (.int p2), .val (.ref b5)] [(.ref a1), (.int (0 : Int32)), (.ref b5), (.int (0 : Int32)), (.ref a1)])) rfl rfl (hb hby d6_23)) ?_
    rw [len_of S6 M6]
    show Go p e below _ (T5.setTop (mkF m 24 #[.val (.ref a1), .val (.int p2), .val (.ref b5)] [(.int n), (.int (0 : Int32)), (.ref b5), (.int (0 : Int32)), (.ref a1)]))
    refine go (fun _ k => XS.iloadN X5.here hx rfl (hb hby d6_24) rfl  k) ?_
    show Go p e below _ (T5.setTop (mkF m 25 #[.val (.ref a1), .val (.int p2), .val (.ref b5)] [(.int p2), (.int n), (.int (0 : Int32)), (.ref b5), (.int (0 : Int32)), (.ref a1)]))
    have K8 : Keep h0 h5 [] := ((Keep.refl h0 []).ext E5)
    obtain ⟨_, _, ⟨T7, L7, k7, n7⟩, -, X7, ⟨Lc7, hQ7, l7, y7, z7⟩, st7⟩ := Jvm.LawKit.callS X5 hx (y := (⟨"java/lang/Math", "min", "(II)I"⟩ : MethodName)) hown (mvT hZ (hw _ (List.mem_of_getElem? (i := 78) rfl))) (mvT hZ (hw _ (List.mem_of_getElem? (i := 1) rfl))) (mvT hZ (hw _ (List.mem_of_getElem? (i := 2) rfl))) (mvT hZ (hw _ (List.mem_of_getElem? (i := 3) rfl))) (by decide) (backOf (W := 4) (rm1 l Z a0 hw [] n p2 h5 n0 (Nat.le_trans Z0 K8.1) ) hZ (hw _ (List.mem_of_getElem? (i := 3) rfl)) (hw _ (List.mem_of_getElem? (i := 2) rfl)) (by decide) (by decide)) (g := (mkF m 25 #[.val (.ref a1), .val (.int p2), .val (.ref b5)] [(.int p2), (.int n), (.int (0 : Int32)), (.ref b5), (.int (0 : Int32)), (.ref a1)])) rfl (by rw [hml]; rfl) (argsL := [(.int n), (.int p2)]) (rest := [(.int (0 : Int32)), (.ref b5), (.int (0 : Int32)), (.ref a1)]) (lenOf pd_0 rfl) rfl (by show 2 * 0 + _ ≤ _; exact Nat.le_of_eq rfl) (hb hby d6_25) (fun _ _ => ⟨rfl, e5, (by decide : 1 + 0 ≤ _), (by decide : 4 + 0 ≤ _)⟩)
    dsimp only [Pt.U, Pt.locs, Pt.cells, Pt.slots] at X7 l7 y7 z7 st7 hQ7
    subst l7 y7 z7
    obtain ⟨rfl, N7q, e7⟩ := hQ7
    have N7 := Fr.app N0 N7q
    skip
    refine go st7 ?_
    show Go p e below _ (T7.setTop (mkF m 28 #[.val (.ref a1), .val (.int p2), .val (.ref b5)] [(.int (imin n p2)), (.int (0 : Int32)), (.ref b5), (.int (0 : Int32)), (.ref a1)]))
    rw [own_imin hp.2]
    show Go p e below _ (T7.setTop (mkF m 28 #[.val (.ref a1), .val (.int p2), .val (.ref b5)] [(.int p2), (.int (0 : Int32)), (.ref b5), (.int (0 : Int32)), (.ref a1)]))
    have h49 := own_cap4 (own_capn hp hn)
    have hnn9 : p2.toNatClampNeg ≤ n.toNatClampNeg := le_nat hp.2 rfl hp.1
    obtain ⟨T9, h9, L9, X9, e9, N9, K9, V9, st9⟩ := cpA X7 hx hZ hown (hw _ (List.mem_of_getElem? (i := 79) rfl)) (hw _ (List.mem_of_getElem? (i := 82) rfl)) (hw _ (List.mem_of_getElem? (i := 80) rfl)) (hw _ (List.mem_of_getElem? (i := 81) rfl)) e7 (V_a1.ext E5) V_b5 (Or.inl ⟨rfl, rfl⟩) (by decide) (by decide) hp.1 (by rw [(by decide : (0 : Int32).toNatClampNeg = 0)]; omega) (by rw [(by decide : (0 : Int32).toNatClampNeg = 0)]; omega) rfl (by rw [(by decide : (0 : Int32).toNatClampNeg = 0)]; simpa using h49) N7 g_b5 (g := (mkF m 28 #[.val (.ref a1), .val (.int p2), .val (.ref b5)] [(.int p2), (.int (0 : Int32)), (.ref b5), (.int (0 : Int32)), (.ref a1)])) rfl (by rw [hml]; rfl) rfl (hb hby d6_28) (by decide) (W := 0) (by show 2 * 0 + _ ≤ _; exact Nat.le_of_eq rfl) (by decide)
    have V_b5_9 : Arv Z h9 b5 k5 .int p2 xs (.int (0 : Int32)) := own_relist V9 (own_copy h49)
    refine go st9 ?_
    show Go p e below _ (T9.setTop (mkF m 31 #[.val (.ref a1), .val (.int p2), .val (.ref b5)] []))
    refine go (fun _ k => XS.aloadN X9.here hx rfl (hb hby d6_31) rfl rfl  k) ?_
    show Go p e below _ (T9.setTop (mkF m 32 #[.val (.ref a1), .val (.int p2), .val (.ref b5)] [(.ref b5)]))
    obtain ⟨fs, hr, hrun, hended, hW, hsame⟩ := X9.leave (v := some (.ref b5)) (fun h => by rw [Bd.returns] at h; cases h)
    have K10 : Keep h0 h9 [] := (K8.trans K9 (allS (Or.inr sz_b5) all0))
    refine leaf (T := T9) ⟨fs, retA X9 hx Bd.returns rfl rfl rfl (hb hby d6_32) hr, hrun, hended, hW, hsame⟩ ?_ (by decide) (by decide)
    show Q6 Z a1 p2 k n xs h0 n0 _ T9.heap _
    rw [e9]
    exact ⟨b5, k5, rfl, N9, K10, sz_b5, V_b5_9⟩
theorem d7_0 : decode jdk_65_method_127_code 0 = .ok (.iload_n 1, 1) := by decide +kernel
theorem d7_1 : decode jdk_65_method_127_code 1 = .ok (.aload_n 0, 1) := by decide +kernel
theorem d7_2 : decode jdk_65_method_127_code 2 = .ok (.arraylength, 1) := by decide +kernel
theorem d7_3 : decode jdk_65_method_127_code 3 = .ok (.if_icmp .ne 11, 3) := by decide +kernel
theorem d7_6 : decode jdk_65_method_127_code 6 = .ok (.aload_n 0, 1) := by decide +kernel
theorem d7_7 : decode jdk_65_method_127_code 7 = .ok (.invokevirtual 328, 3) := by decide +kernel
theorem d7_10 : decode jdk_65_method_127_code 10 = .ok (.checkcast 329, 3) := by decide +kernel
theorem d7_13 : decode jdk_65_method_127_code 13 = .ok (.areturn, 1) := by decide +kernel
theorem d7_14 : decode jdk_65_method_127_code 14 = .ok (.iload_n 1, 1) := by decide +kernel
theorem d7_15 : decode jdk_65_method_127_code 15 = .ok (.newarray .double, 2) := by decide +kernel
theorem d7_17 : decode jdk_65_method_127_code 17 = .ok (.astore_n 2, 1) := by decide +kernel
theorem d7_18 : decode jdk_65_method_127_code 18 = .ok (.aload_n 0, 1) := by decide +kernel
theorem d7_19 : decode jdk_65_method_127_code 19 = .ok (.iconst 0, 1) := by decide +kernel
theorem d7_20 : decode jdk_65_method_127_code 20 = .ok (.aload_n 2, 1) := by decide +kernel
theorem d7_21 : decode jdk_65_method_127_code 21 = .ok (.iconst 0, 1) := by decide +kernel
theorem d7_22 : decode jdk_65_method_127_code 22 = .ok (.aload_n 0, 1) := by decide +kernel
theorem d7_23 : decode jdk_65_method_127_code 23 = .ok (.arraylength, 1) := by decide +kernel
theorem d7_24 : decode jdk_65_method_127_code 24 = .ok (.iload_n 1, 1) := by decide +kernel
theorem d7_25 : decode jdk_65_method_127_code 25 = .ok (.invokestatic 304, 3) := by decide +kernel
theorem d7_28 : decode jdk_65_method_127_code 28 = .ok (.invokestatic 150, 3) := by decide +kernel
theorem d7_31 : decode jdk_65_method_127_code 31 = .ok (.aload_n 2, 1) := by decide +kernel
theorem d7_32 : decode jdk_65_method_127_code 32 = .ok (.areturn, 1) := by decide +kernel
theorem ef_rm7 (m : MethodId) (a1 : Addr) (p2 : Int32) : entryFrame m #[(.ref a1), (.int p2)] 3 = mkF m 0 #[.val (.ref a1), .val (.int p2), .unset] [] := by first | (simp [entryFrame, mkF, argsToLocals, Value.category]; done) | rfl
def Q7 (Z : State) (a1 : Addr) (p2 : Int32) (k : ClassId) (n : Int32) (xs : List Value) (h0 : Heap) (n0 : Nat) (v : Option Value) (h : Heap) (L : List Loc) : Prop := ∃ b : Addr, ∃ kb : ClassId, v = some (.ref b) ∧ Fr n0 L ∧ Keep h0 h [] ∧ h0.size ≤ b ∧ Arv Z h b kb .double p2 xs (.double (0 : UInt64))
set_option maxRecDepth 65536 in
set_option maxHeartbeats 40000000 in
theorem rm7 (l : Launch) (Z : State) (a0 : Array Value) (hw : ∀ d ∈ tables_1, d.before a0 Z = true) (ws : List Jvm.Cond) (a1 : Addr) (p2 : Int32) (k : ClassId) (n : Int32) (xs : List Value) (h0 : Heap) (n0 : Nat) (Z0 : n0 ≤ h0.size) (V_a1 : Arv Z h0 a1 k .double n xs (.double (0 : UInt64))) (E_a1 : Exa Z h0 a1 "[D") (hp : ¬ p2 < 0 ∧ ¬ n < p2) (hn : n.toInt ≤ 4) :
    MetFree l (⟨"java/util/Arrays", "copyOf", "([DI)[D"⟩ : MethodName) (head1 (Jvm.Cond.code (⟨"java/util/Arrays", "copyOf", "([DI)[D"⟩ : MethodName) jdk_65_method_127_code 3 (some (.array .double)) :: ws) ({ frames := 1, cells := 1, slots := 4, locals := 40 } : Room)) (fun a U => a = #[(.ref a1), (.int p2)] ∧ Z.Warmed39 U.vm ∧ U.heap = h0) (fun _ _ _ _ _ => True) (fun _ U o U' => ∃ v L, o = .returned v ∧ Q7 Z a1 p2 k n xs h0 n0 v U'.heap L ∧ FrameEnd U o U' L ({ frames := 1, cells := 1, slots := 4, locals := 40 } : Room).cells ({ frames := 1, cells := 1, slots := 4, locals := 40 } : Room).slots) := by
  refine MetFree.of_bodySF (plainFor_of_name pn_1) hisR ?_
  intro p e s m args below meth c s₁ Bd hml0 hP hK
  obtain ⟨rfl, hZ, hh⟩ := hP
  have hx := Bd.exec
  have hby := Bd.bytes
  have hml : c.maxLocals = 3 := hml0
  have hown : s.vm.findClass "java/util/Arrays" = some m.cls := findClass_of_methodNamed Bd.named
  have hnm := (name_of_methodNamed Bd.named Bd.method).1
  have X0 : Stand p l e ({ frames := 1, cells := 1, slots := 4, locals := 40 } : Room) s m #[(.ref a1), (.int p2)] below meth c s₁ [] 0 0 := Stand.of_body Bd
  have e0 : s₁.heap = h0 := by rw [← hh, Bd.state]; rfl
  have N0 := Fr.nil n0
  show Go p e below (PP s below (Q7 Z a1 p2 k n xs h0 n0) ({ frames := 1, cells := 1, slots := 4, locals := 40 } : Room).cells ({ frames := 1, cells := 1, slots := 4, locals := 40 } : Room).slots) (s₁.setTop (entryFrame m #[(.ref a1), (.int p2)] 3))
  refine go (fun _ k => castTop (ef_rm7 m a1 p2) k) ?_
  show Go p e below _ (s₁.setTop (mkF m 0 #[.val (.ref a1), .val (.int p2), .unset] []))
  refine go (fun _ k => XS.iloadN X0.here hx rfl (hb hby d7_0) rfl  k) ?_
  show Go p e below _ (s₁.setTop (mkF m 1 #[.val (.ref a1), .val (.int p2), .unset] [(.int p2)]))
  refine go (fun _ k => XS.aloadN X0.here hx rfl (hb hby d7_1) rfl rfl  k) ?_
  show Go p e below _ (s₁.setTop (mkF m 2 #[.val (.ref a1), .val (.int p2), .unset] [(.ref a1), (.int p2)]))
  obtain ⟨cl1, Ar1, -, S1, M1, -, -⟩ := id V_a1
  refine go (X0.arraylength hx (by rw [e0]; exact Ar1.1) (State.isArrayOf_alike hZ.alike Ar1.2.1) (g := (mkF m 2 #[.val (.ref a1), .val (.int p2), .unset] [(.ref a1), (.int p2)])) rfl rfl (hb hby d7_2)) ?_
  rw [len_of S1 M1]
  show Go p e below _ (s₁.setTop (mkF m 3 #[.val (.ref a1), .val (.int p2), .unset] [(.int n), (.int p2)]))
  by_cases hc3_1 : p2 = n
  · skip
    refine go (fun _ k => XS.icmpNo X0.here hx rfl (hb hby d7_3) rfl (teq hc3_1).2 k) ?_
    show Go p e below _ (s₁.setTop (mkF m 6 #[.val (.ref a1), .val (.int p2), .unset] []))
    refine go (fun _ k => XS.aloadN X0.here hx rfl (hb hby d7_6) rfl rfl  k) ?_
    show Go p e below _ (s₁.setTop (mkF m 7 #[.val (.ref a1), .val (.int p2), .unset] [(.ref a1)]))
    obtain ⟨T2, h2, X2, e2, E2, F2, EX2, st2⟩ := cloneH X0 hx hZ hown (hw _ (List.mem_of_getElem? (i := 48) rfl)) (hw _ (List.mem_of_getElem? (i := 49) rfl)) (hw _ (List.mem_of_getElem? (i := 41) rfl)) (hw _ (List.mem_of_getElem? (i := 39) rfl)) (hw _ (List.mem_of_getElem? (i := 50) rfl)) (hw _ (List.mem_of_getElem? (i := 51) rfl)) e0 (Arv.arh V_a1) E_a1 (g := (mkF m 7 #[.val (.ref a1), .val (.int p2), .unset] [(.ref a1)])) rfl (by rw [hml]; rfl) rfl (hb hby d7_7) (by decide) (W := 0) (by show 2 * 0 + _ ≤ _; exact Nat.le_of_eq rfl) (by decide) (cap := 4) (by rw [← hc3_1]; exact own_cap4 (own_capn hp hn)) (by decide) (by decide)
    obtain ⟨b2, g2⟩ : ∃ z, z = h0.size := ⟨_, rfl⟩
    rw [← g2] at F2 EX2 st2
    have sz_b2 : h0.size ≤ b2 := Nat.le_trans (Keep.refl h0 []).1 (Nat.le_of_eq g2.symm)
    have g_b2 : n0 ≤ b2 := Nat.le_trans Z0 sz_b2
    have V_b2 : Arv Z h2 b2 k .double n xs (.double (0 : UInt64)) := F2
    refine go st2 ?_
    show Go p e below _ (T2.setTop (mkF m 10 #[.val (.ref a1), .val (.int p2), .unset] [(.ref b2)]))
    obtain ⟨T3, X3, e3, st3⟩ := castY X2 hx hZ hown (hw _ (List.mem_of_getElem? (i := 52) rfl)) e2 (Ins.self EX2) (g := (mkF m 10 #[.val (.ref a1), .val (.int p2), .unset] [(.ref b2)])) rfl rfl (hb hby d7_10)
    refine go st3 ?_
    show Go p e below _ (T3.setTop (mkF m 13 #[.val (.ref a1), .val (.int p2), .unset] [(.ref b2)]))
    obtain ⟨fs, hr, hrun, hended, hW, hsame⟩ := X3.leave (v := some (.ref b2)) (fun h => by rw [Bd.returns] at h; cases h)
    have K4 : Keep h0 h2 [] := ((Keep.refl h0 []).ext E2)
    refine leaf (T := T3) ⟨fs, retA X3 hx Bd.returns rfl rfl rfl (hb hby d7_13) hr, hrun, hended, hW, hsame⟩ ?_ (by decide) (by decide)
    show Q7 Z a1 p2 k n xs h0 n0 _ T3.heap _
    rw [e3]
    exact ⟨b2, k, rfl, N0, K4, sz_b2, (by rw [hc3_1]; exact V_b2)⟩
  · skip
    refine go (fun _ k => XS.icmpYes X0.here hx rfl (pc0 := 3) (pc' := 14) rfl (hb hby d7_3) rfl (feq hc3_1).2 (by decide) (by decide) k) ?_
    show Go p e below _ (s₁.setTop (mkF m 14 #[.val (.ref a1), .val (.int p2), .unset] []))
    refine go (fun _ k => XS.iloadN X0.here hx rfl (hb hby d7_14) rfl  k) ?_
    show Go p e below _ (s₁.setTop (mkF m 15 #[.val (.ref a1), .val (.int p2), .unset] [(.int p2)]))
    obtain ⟨T5, h5, k5, X5, e5, E5, A5, st5⟩ := newP X0 hx hZ (hw _ (List.mem_of_getElem? (i := 19) rfl)) e0 (g := (mkF m 15 #[.val (.ref a1), .val (.int p2), .unset] [(.int p2)])) rfl (hb hby d7_15) rfl hp.1 (cap := 4) (own_cap4 (own_capn hp hn)) (by decide) (by decide) (by decide)
    obtain ⟨b5, g5⟩ : ∃ z, z = h0.size := ⟨_, rfl⟩
    rw [← g5] at A5 st5
    have sz_b5 : h0.size ≤ b5 := Nat.le_trans (Keep.refl h0 []).1 (Nat.le_of_eq g5.symm)
    have g_b5 : n0 ≤ b5 := Nat.le_trans Z0 sz_b5
    have V_b5 : Arv Z h5 b5 k5 .double p2 [(.double (0 : UInt64)), (.double (0 : UInt64)), (.double (0 : UInt64)), (.double (0 : UInt64))] (.double (0 : UInt64)) := (Arv.new A5 hp.1).pad (pad_rep [] (.double (0 : UInt64)) 4)
    refine go st5 ?_
    show Go p e below _ (T5.setTop (mkF m 17 #[.val (.ref a1), .val (.int p2), .unset] [(.ref b5)]))
    refine go (fun _ k => XS.astoreN X5.here hx rfl (hb hby d7_17) rfl rfl (l' := #[.val (.ref a1), .val (.int p2), .val (.ref b5)]) rfl k) ?_
    show Go p e below _ (T5.setTop (mkF m 18 #[.val (.ref a1), .val (.int p2), .val (.ref b5)] []))
    refine go (fun _ k => XS.aloadN X5.here hx rfl (hb hby d7_18) rfl rfl  k) ?_
    show Go p e below _ (T5.setTop (mkF m 19 #[.val (.ref a1), .val (.int p2), .val (.ref b5)] [(.ref a1)]))
    refine go (fun _ k => XS.iconst X5.here hx rfl (hb hby d7_19) k) ?_
    show Go p e below _ (T5.setTop (mkF m 20 #[.val (.ref a1), .val (.int p2), .val (.ref b5)] [(.int (0 : Int32)), (.ref a1)]))
    refine go (fun _ k => XS.aloadN X5.here hx rfl (hb hby d7_20) rfl rfl  k) ?_
    show Go p e below _ (T5.setTop (mkF m 21 #[.val (.ref a1), .val (.int p2), .val (.ref b5)] [(.ref b5), (.int (0 : Int32)), (.ref a1)]))
    refine go (fun _ k => XS.iconst X5.here hx rfl (hb hby d7_21) k) ?_
    show Go p e below _ (T5.setTop (mkF m 22 #[.val (.ref a1), .val (.int p2), .val (.ref b5)] [(.int (0 : Int32)), (.ref b5), (.int (0 : Int32)), (.ref a1)]))
    refine go (fun _ k => XS.aloadN X5.here hx rfl (hb hby d7_22) rfl rfl  k) ?_
    show Go p e below _ (T5.setTop (mkF m 23 #[.val (.ref a1), .val (.int p2), .val (.ref b5)] [(.ref a1), (.int (0 : Int32)), (.ref b5), (.int (0 : Int32)), (.ref a1)]))
    obtain ⟨cl6, Ar6, -, S6, M6, -, -⟩ := id (V_a1.ext E5)
    refine go (X5.arraylength hx (by rw [e5]; exact Ar6.1) (State.isArrayOf_alike hZ.alike Ar6.2.1) (g := (mkF m 23 #[.val (.ref a1), .val (.int p2), .val (.ref b5)] [(.ref a1), (.int (0 : Int32)), (.ref b5), (.int (0 : Int32)), (.ref a1)])) rfl rfl (hb hby d7_23)) ?_
    rw [len_of S6 M6]
    show Go p e below _ (T5.setTop (mkF m 24 #[.val (.ref a1), .val (.int p2), .val (.ref b5)] [(.int n), (.int (0 : Int32)), (.ref b5), (.int (0 : Int32)), (.ref a1)]))
    refine go (fun _ k => XS.iloadN X5.here hx rfl (hb hby d7_24) rfl  k) ?_
    show Go p e below _ (T5.setTop (mkF m 25 #[.val (.ref a1), .val (.int p2), .val (.ref b5)] [(.int p2), (.int n), (.int (0 : Int32)), (.ref b5), (.int (0 : Int32)), (.ref a1)]))
    have K8 : Keep h0 h5 [] := ((Keep.refl h0 []).ext E5)
    obtain ⟨_, _, ⟨T7, L7, k7, n7⟩, -, X7, ⟨Lc7, hQ7, l7, y7, z7⟩, st7⟩ := Jvm.LawKit.callS X5 hx (y := (⟨"java/lang/Math", "min", "(II)I"⟩ : MethodName)) hown (mvT hZ (hw _ (List.mem_of_getElem? (i := 78) rfl))) (mvT hZ (hw _ (List.mem_of_getElem? (i := 1) rfl))) (mvT hZ (hw _ (List.mem_of_getElem? (i := 2) rfl))) (mvT hZ (hw _ (List.mem_of_getElem? (i := 3) rfl))) (by decide) (backOf (W := 4) (rm1 l Z a0 hw [] n p2 h5 n0 (Nat.le_trans Z0 K8.1) ) hZ (hw _ (List.mem_of_getElem? (i := 3) rfl)) (hw _ (List.mem_of_getElem? (i := 2) rfl)) (by decide) (by decide)) (g := (mkF m 25 #[.val (.ref a1), .val (.int p2), .val (.ref b5)] [(.int p2), (.int n), (.int (0 : Int32)), (.ref b5), (.int (0 : Int32)), (.ref a1)])) rfl (by rw [hml]; rfl) (argsL := [(.int n), (.int p2)]) (rest := [(.int (0 : Int32)), (.ref b5), (.int (0 : Int32)), (.ref a1)]) (lenOf pd_0 rfl) rfl (by show 2 * 0 + _ ≤ _; exact Nat.le_of_eq rfl) (hb hby d7_25) (fun _ _ => ⟨rfl, e5, (by decide : 1 + 0 ≤ _), (by decide : 4 + 0 ≤ _)⟩)
    dsimp only [Pt.U, Pt.locs, Pt.cells, Pt.slots] at X7 l7 y7 z7 st7 hQ7
    subst l7 y7 z7
    obtain ⟨rfl, N7q, e7⟩ := hQ7
    have N7 := Fr.app N0 N7q
    skip
    refine go st7 ?_
    show Go p e below _ (T7.setTop (mkF m 28 #[.val (.ref a1), .val (.int p2), .val (.ref b5)] [(.int (imin n p2)), (.int (0 : Int32)), (.ref b5), (.int (0 : Int32)), (.ref a1)]))
    rw [own_imin hp.2]
    show Go p e below _ (T7.setTop (mkF m 28 #[.val (.ref a1), .val (.int p2), .val (.ref b5)] [(.int p2), (.int (0 : Int32)), (.ref b5), (.int (0 : Int32)), (.ref a1)]))
    have h49 := own_cap4 (own_capn hp hn)
    have hnn9 : p2.toNatClampNeg ≤ n.toNatClampNeg := le_nat hp.2 rfl hp.1
    obtain ⟨T9, h9, L9, X9, e9, N9, K9, V9, st9⟩ := cpA X7 hx hZ hown (hw _ (List.mem_of_getElem? (i := 79) rfl)) (hw _ (List.mem_of_getElem? (i := 82) rfl)) (hw _ (List.mem_of_getElem? (i := 80) rfl)) (hw _ (List.mem_of_getElem? (i := 81) rfl)) e7 (V_a1.ext E5) V_b5 (Or.inl ⟨rfl, rfl⟩) (by decide) (by decide) hp.1 (by rw [(by decide : (0 : Int32).toNatClampNeg = 0)]; omega) (by rw [(by decide : (0 : Int32).toNatClampNeg = 0)]; omega) rfl (by rw [(by decide : (0 : Int32).toNatClampNeg = 0)]; simpa using h49) N7 g_b5 (g := (mkF m 28 #[.val (.ref a1), .val (.int p2), .val (.ref b5)] [(.int p2), (.int (0 : Int32)), (.ref b5), (.int (0 : Int32)), (.ref a1)])) rfl (by rw [hml]; rfl) rfl (hb hby d7_28) (by decide) (W := 0) (by show 2 * 0 + _ ≤ _; exact Nat.le_of_eq rfl) (by decide)
    have V_b5_9 : Arv Z h9 b5 k5 .double p2 xs (.double (0 : UInt64)) := own_relist V9 (own_copy h49)
    refine go st9 ?_
    show Go p e below _ (T9.setTop (mkF m 31 #[.val (.ref a1), .val (.int p2), .val (.ref b5)] []))
    refine go (fun _ k => XS.aloadN X9.here hx rfl (hb hby d7_31) rfl rfl  k) ?_
    show Go p e below _ (T9.setTop (mkF m 32 #[.val (.ref a1), .val (.int p2), .val (.ref b5)] [(.ref b5)]))
    obtain ⟨fs, hr, hrun, hended, hW, hsame⟩ := X9.leave (v := some (.ref b5)) (fun h => by rw [Bd.returns] at h; cases h)
    have K10 : Keep h0 h9 [] := (K8.trans K9 (allS (Or.inr sz_b5) all0))
    refine leaf (T := T9) ⟨fs, retA X9 hx Bd.returns rfl rfl rfl (hb hby d7_32) hr, hrun, hended, hW, hsame⟩ ?_ (by decide) (by decide)
    show Q7 Z a1 p2 k n xs h0 n0 _ T9.heap _
    rw [e9]
    exact ⟨b5, k5, rfl, N9, K10, sz_b5, V_b5_9⟩
theorem pn_2 : plainName "com/example/drienerlo/drienerlo/retrieval/Scored" = true := by first | (simp [plainName, overriddenIn]; done) | decide +kernel
theorem d8_0 : decode prog_59_method_1_code 0 = .ok (.aload_n 0, 1) := by decide +kernel
theorem d8_1 : decode prog_59_method_1_code 1 = .ok (.invokespecial 1, 3) := by decide +kernel
theorem d8_4 : decode prog_59_method_1_code 4 = .ok (.aload_n 1, 1) := by decide +kernel
theorem d8_5 : decode prog_59_method_1_code 5 = .ok (.arraylength, 1) := by decide +kernel
theorem d8_6 : decode prog_59_method_1_code 6 = .ok (.aload_n 2, 1) := by decide +kernel
theorem d8_7 : decode prog_59_method_1_code 7 = .ok (.arraylength, 1) := by decide +kernel
theorem d8_8 : decode prog_59_method_1_code 8 = .ok (.if_icmp .eq 20, 3) := by decide +kernel
theorem d8_28 : decode prog_59_method_1_code 28 = .ok (.aload_n 0, 1) := by decide +kernel
theorem d8_29 : decode prog_59_method_1_code 29 = .ok (.aload_n 1, 1) := by decide +kernel
theorem d8_30 : decode prog_59_method_1_code 30 = .ok (.putfield 16, 3) := by decide +kernel
theorem d8_33 : decode prog_59_method_1_code 33 = .ok (.aload_n 0, 1) := by decide +kernel
theorem d8_34 : decode prog_59_method_1_code 34 = .ok (.aload_n 2, 1) := by decide +kernel
theorem d8_35 : decode prog_59_method_1_code 35 = .ok (.putfield 22, 3) := by decide +kernel
theorem d8_38 : decode prog_59_method_1_code 38 = .ok (.return_, 1) := by decide +kernel
theorem ef_rm8 (m : MethodId) (a1 : Addr) (a2 : Addr) (a3 : Addr) : entryFrame m #[(.ref a1), (.ref a2), (.ref a3)] 3 = mkF m 0 #[.val (.ref a1), .val (.ref a2), .val (.ref a3)] [] := by first | (simp [entryFrame, mkF, argsToLocals, Value.category]; done) | rfl
def Q8 (Z : State) (a1 : Addr) (a2 : Addr) (a3 : Addr) (u1 : Value) (u2 : Value) (k2 : ClassId) (k3 : ClassId) (n : Int32) (xs : List Value) (ys : List Value) (h0 : Heap) (n0 : Nat) (v : Option Value) (h : Heap) (L : List Loc) : Prop := v = none ∧ Fr n0 L ∧ Keep h0 h [a1] ∧ Exa Z h a1 "com/example/drienerlo/drienerlo/retrieval/Scored" ∧ Fld Z h a1 "com/example/drienerlo/drienerlo/retrieval/Scored" "elements" "[I" (.ref a2) ∧ Fld Z h a1 "com/example/drienerlo/drienerlo/retrieval/Scored" "scores" "[D" (.ref a3)
set_option maxRecDepth 65536 in
set_option maxHeartbeats 40000000 in
theorem rm8 (l : Launch) (Z : State) (a0 : Array Value) (hw : ∀ d ∈ tables_1, d.before a0 Z = true) (ws : List Jvm.Cond) (a1 : Addr) (a2 : Addr) (a3 : Addr) (u1 : Value) (u2 : Value) (k2 : ClassId) (k3 : ClassId) (n : Int32) (xs : List Value) (ys : List Value) (h0 : Heap) (n0 : Nat) (Z0 : n0 ≤ h0.size) (E_a1 : Exa Z h0 a1 "com/example/drienerlo/drienerlo/retrieval/Scored") (g_a1 : n0 ≤ a1) (F_elements_a1 : Fld Z h0 a1 "com/example/drienerlo/drienerlo/retrieval/Scored" "elements" "[I" u1) (F_scores_a1 : Fld Z h0 a1 "com/example/drienerlo/drienerlo/retrieval/Scored" "scores" "[D" u2) (V_a2 : Arv Z h0 a2 k2 .int n xs (.int (0 : Int32))) (V_a3 : Arv Z h0 a3 k3 .double n ys (.double (0 : UInt64))) :
    MetFree l (⟨"com/example/drienerlo/drienerlo/retrieval/Scored", "<init>", "([I[D)V"⟩ : MethodName) (head1 (Jvm.Cond.code (⟨"com/example/drienerlo/drienerlo/retrieval/Scored", "<init>", "([I[D)V"⟩ : MethodName) prog_59_method_1_code 3 none :: ws) ({ frames := 1, cells := 0, slots := 0, locals := 12 } : Room)) (fun a U => a = #[(.ref a1), (.ref a2), (.ref a3)] ∧ Z.Warmed39 U.vm ∧ U.heap = h0) (fun _ _ _ _ _ => True) (fun _ U o U' => ∃ v L, o = .returned v ∧ Q8 Z a1 a2 a3 u1 u2 k2 k3 n xs ys h0 n0 v U'.heap L ∧ FrameEnd U o U' L ({ frames := 1, cells := 0, slots := 0, locals := 12 } : Room).cells ({ frames := 1, cells := 0, slots := 0, locals := 12 } : Room).slots) := by
  refine MetFree.of_bodySF (plainFor_of_name pn_2) hisR ?_
  intro p e s m args below meth c s₁ Bd hml0 hP hK
  obtain ⟨rfl, hZ, hh⟩ := hP
  have hx := Bd.exec
  have hby := Bd.bytes
  have hml : c.maxLocals = 3 := hml0
  have hown : s.vm.findClass "com/example/drienerlo/drienerlo/retrieval/Scored" = some m.cls := findClass_of_methodNamed Bd.named
  have hnm := (name_of_methodNamed Bd.named Bd.method).1
  have X0 : Stand p l e ({ frames := 1, cells := 0, slots := 0, locals := 12 } : Room) s m #[(.ref a1), (.ref a2), (.ref a3)] below meth c s₁ [] 0 0 := Stand.of_body Bd
  have e0 : s₁.heap = h0 := by rw [← hh, Bd.state]; rfl
  have N0 := Fr.nil n0
  show Go p e below (PP s below (Q8 Z a1 a2 a3 u1 u2 k2 k3 n xs ys h0 n0) ({ frames := 1, cells := 0, slots := 0, locals := 12 } : Room).cells ({ frames := 1, cells := 0, slots := 0, locals := 12 } : Room).slots) (s₁.setTop (entryFrame m #[(.ref a1), (.ref a2), (.ref a3)] 3))
  refine go (fun _ k => castTop (ef_rm8 m a1 a2 a3) k) ?_
  show Go p e below _ (s₁.setTop (mkF m 0 #[.val (.ref a1), .val (.ref a2), .val (.ref a3)] []))
  refine go (fun _ k => XS.aloadN X0.here hx rfl (hb hby d8_0) rfl rfl  k) ?_
  show Go p e below _ (s₁.setTop (mkF m 1 #[.val (.ref a1), .val (.ref a2), .val (.ref a3)] [(.ref a1)]))
  obtain ⟨T1, X1, e1, st1⟩ := initO X0 hx hZ hown (hw _ (List.mem_of_getElem? (i := 57) rfl)) (hw _ (List.mem_of_getElem? (i := 14) rfl)) (hw _ (List.mem_of_getElem? (i := 15) rfl)) e0 (g := (mkF m 1 #[.val (.ref a1), .val (.ref a2), .val (.ref a3)] [(.ref a1)])) rfl (by rw [hml]; rfl) rfl (hb hby d8_1) (by decide) (W := 0) (by show 2 * 0 + _ ≤ _; exact Nat.le_of_eq rfl) (by decide)
  refine go st1 ?_
  show Go p e below _ (T1.setTop (mkF m 4 #[.val (.ref a1), .val (.ref a2), .val (.ref a3)] []))
  refine go (fun _ k => XS.aloadN X1.here hx rfl (hb hby d8_4) rfl rfl  k) ?_
  show Go p e below _ (T1.setTop (mkF m 5 #[.val (.ref a1), .val (.ref a2), .val (.ref a3)] [(.ref a2)]))
  obtain ⟨cl2, Ar2, -, S2, M2, -, -⟩ := id V_a2
  refine go (X1.arraylength hx (by rw [e1]; exact Ar2.1) (State.isArrayOf_alike hZ.alike Ar2.2.1) (g := (mkF m 5 #[.val (.ref a1), .val (.ref a2), .val (.ref a3)] [(.ref a2)])) rfl rfl (hb hby d8_5)) ?_
  rw [len_of S2 M2]
  show Go p e below _ (T1.setTop (mkF m 6 #[.val (.ref a1), .val (.ref a2), .val (.ref a3)] [(.int n)]))
  refine go (fun _ k => XS.aloadN X1.here hx rfl (hb hby d8_6) rfl rfl  k) ?_
  show Go p e below _ (T1.setTop (mkF m 7 #[.val (.ref a1), .val (.ref a2), .val (.ref a3)] [(.ref a3), (.int n)]))
  obtain ⟨cl3, Ar3, -, S3, M3, -, -⟩ := id V_a3
  refine go (X1.arraylength hx (by rw [e1]; exact Ar3.1) (State.isArrayOf_alike hZ.alike Ar3.2.1) (g := (mkF m 7 #[.val (.ref a1), .val (.ref a2), .val (.ref a3)] [(.ref a3), (.int n)])) rfl rfl (hb hby d8_7)) ?_
  rw [len_of S3 M3]
  show Go p e below _ (T1.setTop (mkF m 8 #[.val (.ref a1), .val (.ref a2), .val (.ref a3)] [(.int n), (.int n)]))
  refine go (fun _ k => XS.icmpYes X1.here hx rfl (pc0 := 8) (pc' := 28) rfl (hb hby d8_8) rfl (teq rfl).1 (by decide) (by decide) k) ?_
  show Go p e below _ (T1.setTop (mkF m 28 #[.val (.ref a1), .val (.ref a2), .val (.ref a3)] []))
  refine go (fun _ k => XS.aloadN X1.here hx rfl (hb hby d8_28) rfl rfl  k) ?_
  show Go p e below _ (T1.setTop (mkF m 29 #[.val (.ref a1), .val (.ref a2), .val (.ref a3)] [(.ref a1)]))
  refine go (fun _ k => XS.aloadN X1.here hx rfl (hb hby d8_29) rfl rfl  k) ?_
  show Go p e below _ (T1.setTop (mkF m 30 #[.val (.ref a1), .val (.ref a2), .val (.ref a3)] [(.ref a2), (.ref a1)]))
  obtain ⟨T4, h4, X4, e4, W4, st4⟩ := putF X1 hx hZ hown (host := "") (Or.inl (hw _ (List.mem_of_getElem? (i := 58) rfl))) Via.refl e1 F_elements_a1 E_a1 (Or.inr ⟨(hw _ (List.mem_of_getElem? (i := 59) rfl)), rfl, hnm⟩) (hw _ (List.mem_of_getElem? (i := 28) rfl)) (ty := (.array .int)) (by decide) rfl rfl (g := (mkF m 30 #[.val (.ref a1), .val (.ref a2), .val (.ref a3)] [(.ref a2), (.ref a1)])) rfl rfl (hb hby d8_30)
  have Fw4 := F_elements_a1.same W4
  have N4 := Fr.snoc X4 N0 g_a1
  refine go st4 ?_
  show Go p e below _ (T4.setTop (mkF m 33 #[.val (.ref a1), .val (.ref a2), .val (.ref a3)] []))
  refine go (fun _ k => XS.aloadN X4.here hx rfl (hb hby d8_33) rfl rfl  k) ?_
  show Go p e below _ (T4.setTop (mkF m 34 #[.val (.ref a1), .val (.ref a2), .val (.ref a3)] [(.ref a1)]))
  refine go (fun _ k => XS.aloadN X4.here hx rfl (hb hby d8_34) rfl rfl  k) ?_
  show Go p e below _ (T4.setTop (mkF m 35 #[.val (.ref a1), .val (.ref a2), .val (.ref a3)] [(.ref a3), (.ref a1)]))
  have f5 := (F_scores_a1.other W4 (Or.inr (slot_ne (Or.inr (hw _ (List.mem_of_getElem? (i := 61) rfl))) (Or.inr (hw _ (List.mem_of_getElem? (i := 59) rfl))) (by decide) (t := (.array .double)) (t' := (.array .int)) (by decide) (by decide))))
  obtain ⟨T6, h6, X6, e6, W6, st6⟩ := putF X4 hx hZ hown (host := "") (Or.inl (hw _ (List.mem_of_getElem? (i := 60) rfl))) Via.refl e4 f5 (E_a1.wr W4) (Or.inr ⟨(hw _ (List.mem_of_getElem? (i := 61) rfl)), rfl, hnm⟩) (hw _ (List.mem_of_getElem? (i := 28) rfl)) (ty := (.array .double)) (by decide) rfl rfl (g := (mkF m 35 #[.val (.ref a1), .val (.ref a2), .val (.ref a3)] [(.ref a3), (.ref a1)])) rfl rfl (hb hby d8_35)
  have Fw6 := f5.same W6
  have N6 := Fr.snoc X6 N4 g_a1
  refine go st6 ?_
  show Go p e below _ (T6.setTop (mkF m 38 #[.val (.ref a1), .val (.ref a2), .val (.ref a3)] []))
  obtain ⟨fs, hr, hrun, hended, hW, hsame⟩ := X6.leave (v := none) (fun _ => rfl)
  have K7 : Keep h0 h6 [a1] := (((Keep.refl h0 [a1]).wr W4 (Or.inl (List.mem_of_getElem? (i := 0) rfl))).wr W6 (Or.inl (List.mem_of_getElem? (i := 0) rfl)))
  have f8 := (Fw4.other W6 (Or.inr (slot_ne (Or.inr (hw _ (List.mem_of_getElem? (i := 59) rfl))) (Or.inr (hw _ (List.mem_of_getElem? (i := 61) rfl))) (by decide) (t := (.array .int)) (t' := (.array .double)) (by decide) (by decide))))
  refine leaf (T := T6) ⟨fs, X6.returnOut hx Bd.returns (hb hby d8_38) hr, hrun, hended, hW, hsame⟩ ?_ (by decide) (by decide)
  show Q8 Z a1 a2 a3 u1 u2 k2 k3 n xs ys h0 n0 _ T6.heap _
  rw [e6]
  exact ⟨rfl, N6, K7, ((E_a1.wr W4).wr W6), f8, Fw6⟩
theorem d9_0 : decode prog_59_method_3_code 0 = .ok (.aload_n 0, 1) := by decide +kernel
theorem d9_1 : decode prog_59_method_3_code 1 = .ok (.getfield 16, 3) := by decide +kernel
theorem d9_4 : decode prog_59_method_3_code 4 = .ok (.areturn, 1) := by decide +kernel
theorem ef_rm9 (m : MethodId) (a1 : Addr) : entryFrame m #[(.ref a1)] 1 = mkF m 0 #[.val (.ref a1)] [] := by first | (simp [entryFrame, mkF, argsToLocals, Value.category]; done) | rfl
def Q9 (Z : State) (a1 : Addr) (t : Addr) (h0 : Heap) (n0 : Nat) (v : Option Value) (h : Heap) (L : List Loc) : Prop := v = some (.ref t) ∧ Fr n0 L ∧ h = h0
set_option maxRecDepth 65536 in
set_option maxHeartbeats 40000000 in
theorem rm9 (l : Launch) (Z : State) (a0 : Array Value) (hw : ∀ d ∈ tables_1, d.before a0 Z = true) (ws : List Jvm.Cond) (a1 : Addr) (t : Addr) (h0 : Heap) (n0 : Nat) (Z0 : n0 ≤ h0.size) (E_a1 : Exa Z h0 a1 "com/example/drienerlo/drienerlo/retrieval/Scored") (F_elements_a1 : Fld Z h0 a1 "com/example/drienerlo/drienerlo/retrieval/Scored" "elements" "[I" (.ref t)) :
    MetFree l (⟨"com/example/drienerlo/drienerlo/retrieval/Scored", "elements", "()[I"⟩ : MethodName) (head1 (Jvm.Cond.code (⟨"com/example/drienerlo/drienerlo/retrieval/Scored", "elements", "()[I"⟩ : MethodName) prog_59_method_3_code 1 (some (.array .int)) :: ws) ({ frames := 0, cells := 0, slots := 0, locals := 0 } : Room)) (fun a U => a = #[(.ref a1)] ∧ Z.Warmed39 U.vm ∧ U.heap = h0) (fun _ _ _ _ _ => True) (fun _ U o U' => ∃ v L, o = .returned v ∧ Q9 Z a1 t h0 n0 v U'.heap L ∧ FrameEnd U o U' L ({ frames := 0, cells := 0, slots := 0, locals := 0 } : Room).cells ({ frames := 0, cells := 0, slots := 0, locals := 0 } : Room).slots) := by
  refine MetFree.of_bodySF (plainFor_of_name pn_2) hisR ?_
  intro p e s m args below meth c s₁ Bd hml0 hP hK
  obtain ⟨rfl, hZ, hh⟩ := hP
  have hx := Bd.exec
  have hby := Bd.bytes
  have hml : c.maxLocals = 1 := hml0
  have hown : s.vm.findClass "com/example/drienerlo/drienerlo/retrieval/Scored" = some m.cls := findClass_of_methodNamed Bd.named
  have hnm := (name_of_methodNamed Bd.named Bd.method).1
  have X0 : Stand p l e ({ frames := 0, cells := 0, slots := 0, locals := 0 } : Room) s m #[(.ref a1)] below meth c s₁ [] 0 0 := Stand.of_body Bd
  have e0 : s₁.heap = h0 := by rw [← hh, Bd.state]; rfl
  have N0 := Fr.nil n0
  show Go p e below (PP s below (Q9 Z a1 t h0 n0) ({ frames := 0, cells := 0, slots := 0, locals := 0 } : Room).cells ({ frames := 0, cells := 0, slots := 0, locals := 0 } : Room).slots) (s₁.setTop (entryFrame m #[(.ref a1)] 1))
  refine go (fun _ k => castTop (ef_rm9 m a1) k) ?_
  show Go p e below _ (s₁.setTop (mkF m 0 #[.val (.ref a1)] []))
  refine go (fun _ k => XS.aloadN X0.here hx rfl (hb hby d9_0) rfl rfl  k) ?_
  show Go p e below _ (s₁.setTop (mkF m 1 #[.val (.ref a1)] [(.ref a1)]))
  obtain ⟨T1, X1, e1, st1⟩ := getF X0 hx hZ hown (host := "") (Or.inl (hw _ (List.mem_of_getElem? (i := 58) rfl))) Via.refl e0 F_elements_a1 (g := (mkF m 1 #[.val (.ref a1)] [(.ref a1)])) rfl rfl (hb hby d9_1)
  refine go st1 ?_
  show Go p e below _ (T1.setTop (mkF m 4 #[.val (.ref a1)] [(.ref t)]))
  obtain ⟨fs, hr, hrun, hended, hW, hsame⟩ := X1.leave (v := some (.ref t)) (fun h => by rw [Bd.returns] at h; cases h)
  refine leaf (T := T1) ⟨fs, retA X1 hx Bd.returns rfl rfl rfl (hb hby d9_4) hr, hrun, hended, hW, hsame⟩ ?_ (by decide) (by decide)
  show Q9 Z a1 t h0 n0 _ T1.heap _
  rw [e1]
  exact ⟨rfl, N0, rfl⟩
theorem d10_0 : decode prog_59_method_4_code 0 = .ok (.aload_n 0, 1) := by decide +kernel
theorem d10_1 : decode prog_59_method_4_code 1 = .ok (.getfield 22, 3) := by decide +kernel
theorem d10_4 : decode prog_59_method_4_code 4 = .ok (.areturn, 1) := by decide +kernel
theorem ef_rm10 (m : MethodId) (a1 : Addr) : entryFrame m #[(.ref a1)] 1 = mkF m 0 #[.val (.ref a1)] [] := by first | (simp [entryFrame, mkF, argsToLocals, Value.category]; done) | rfl
def Q10 (Z : State) (a1 : Addr) (t : Addr) (h0 : Heap) (n0 : Nat) (v : Option Value) (h : Heap) (L : List Loc) : Prop := v = some (.ref t) ∧ Fr n0 L ∧ h = h0
set_option maxRecDepth 65536 in
set_option maxHeartbeats 40000000 in
theorem rm10 (l : Launch) (Z : State) (a0 : Array Value) (hw : ∀ d ∈ tables_1, d.before a0 Z = true) (ws : List Jvm.Cond) (a1 : Addr) (t : Addr) (h0 : Heap) (n0 : Nat) (Z0 : n0 ≤ h0.size) (E_a1 : Exa Z h0 a1 "com/example/drienerlo/drienerlo/retrieval/Scored") (F_scores_a1 : Fld Z h0 a1 "com/example/drienerlo/drienerlo/retrieval/Scored" "scores" "[D" (.ref t)) :
    MetFree l (⟨"com/example/drienerlo/drienerlo/retrieval/Scored", "scores", "()[D"⟩ : MethodName) (head1 (Jvm.Cond.code (⟨"com/example/drienerlo/drienerlo/retrieval/Scored", "scores", "()[D"⟩ : MethodName) prog_59_method_4_code 1 (some (.array .double)) :: ws) ({ frames := 0, cells := 0, slots := 0, locals := 0 } : Room)) (fun a U => a = #[(.ref a1)] ∧ Z.Warmed39 U.vm ∧ U.heap = h0) (fun _ _ _ _ _ => True) (fun _ U o U' => ∃ v L, o = .returned v ∧ Q10 Z a1 t h0 n0 v U'.heap L ∧ FrameEnd U o U' L ({ frames := 0, cells := 0, slots := 0, locals := 0 } : Room).cells ({ frames := 0, cells := 0, slots := 0, locals := 0 } : Room).slots) := by
  refine MetFree.of_bodySF (plainFor_of_name pn_2) hisR ?_
  intro p e s m args below meth c s₁ Bd hml0 hP hK
  obtain ⟨rfl, hZ, hh⟩ := hP
  have hx := Bd.exec
  have hby := Bd.bytes
  have hml : c.maxLocals = 1 := hml0
  have hown : s.vm.findClass "com/example/drienerlo/drienerlo/retrieval/Scored" = some m.cls := findClass_of_methodNamed Bd.named
  have hnm := (name_of_methodNamed Bd.named Bd.method).1
  have X0 : Stand p l e ({ frames := 0, cells := 0, slots := 0, locals := 0 } : Room) s m #[(.ref a1)] below meth c s₁ [] 0 0 := Stand.of_body Bd
  have e0 : s₁.heap = h0 := by rw [← hh, Bd.state]; rfl
  have N0 := Fr.nil n0
  show Go p e below (PP s below (Q10 Z a1 t h0 n0) ({ frames := 0, cells := 0, slots := 0, locals := 0 } : Room).cells ({ frames := 0, cells := 0, slots := 0, locals := 0 } : Room).slots) (s₁.setTop (entryFrame m #[(.ref a1)] 1))
  refine go (fun _ k => castTop (ef_rm10 m a1) k) ?_
  show Go p e below _ (s₁.setTop (mkF m 0 #[.val (.ref a1)] []))
  refine go (fun _ k => XS.aloadN X0.here hx rfl (hb hby d10_0) rfl rfl  k) ?_
  show Go p e below _ (s₁.setTop (mkF m 1 #[.val (.ref a1)] [(.ref a1)]))
  obtain ⟨T1, X1, e1, st1⟩ := getF X0 hx hZ hown (host := "") (Or.inl (hw _ (List.mem_of_getElem? (i := 60) rfl))) Via.refl e0 F_scores_a1 (g := (mkF m 1 #[.val (.ref a1)] [(.ref a1)])) rfl rfl (hb hby d10_1)
  refine go st1 ?_
  show Go p e below _ (T1.setTop (mkF m 4 #[.val (.ref a1)] [(.ref t)]))
  obtain ⟨fs, hr, hrun, hended, hW, hsame⟩ := X1.leave (v := some (.ref t)) (fun h => by rw [Bd.returns] at h; cases h)
  refine leaf (T := T1) ⟨fs, retA X1 hx Bd.returns rfl rfl rfl (hb hby d10_4) hr, hrun, hended, hW, hsame⟩ ?_ (by decide) (by decide)
  show Q10 Z a1 t h0 n0 _ T1.heap _
  rw [e1]
  exact ⟨rfl, N0, rfl⟩
theorem pd_1 : parseMethodDescriptor "([II)[I" = some ⟨[(.array .int), .int], some (.array .int)⟩ := by decide +kernel
theorem pd_2 : parseMethodDescriptor "([DI)[D" = some ⟨[(.array .double), .int], some (.array .double)⟩ := by decide +kernel
theorem pd_3 : parseMethodDescriptor "([I[D)V" = some ⟨[(.array .int), (.array .double)], none⟩ := by decide +kernel
theorem d5_0 : decode prog_60_method_3_code 0 = .ok (.new 21, 3) := by decide +kernel
theorem d5_3 : decode prog_60_method_3_code 3 = .ok (.dup, 1) := by decide +kernel
theorem d5_4 : decode prog_60_method_3_code 4 = .ok (.aload_n 0, 1) := by decide +kernel
theorem d5_5 : decode prog_60_method_3_code 5 = .ok (.getfield 7, 3) := by decide +kernel
theorem d5_8 : decode prog_60_method_3_code 8 = .ok (.aload_n 0, 1) := by decide +kernel
theorem d5_9 : decode prog_60_method_3_code 9 = .ok (.getfield 17, 3) := by decide +kernel
theorem d5_12 : decode prog_60_method_3_code 12 = .ok (.invokestatic 23, 3) := by decide +kernel
theorem d5_15 : decode prog_60_method_3_code 15 = .ok (.aload_n 0, 1) := by decide +kernel
theorem d5_16 : decode prog_60_method_3_code 16 = .ok (.getfield 13, 3) := by decide +kernel
theorem d5_19 : decode prog_60_method_3_code 19 = .ok (.aload_n 0, 1) := by decide +kernel
theorem d5_20 : decode prog_60_method_3_code 20 = .ok (.getfield 17, 3) := by decide +kernel
theorem d5_23 : decode prog_60_method_3_code 23 = .ok (.invokestatic 29, 3) := by decide +kernel
theorem d5_26 : decode prog_60_method_3_code 26 = .ok (.invokespecial 32, 3) := by decide +kernel
theorem d5_29 : decode prog_60_method_3_code 29 = .ok (.areturn, 1) := by decide +kernel
theorem ef_rm5 (m : MethodId) (a1 : Addr) : entryFrame m #[(.ref a1)] 1 = mkF m 0 #[.val (.ref a1)] [] := by first | (simp [entryFrame, mkF, argsToLocals, Value.category]; done) | rfl
def Q5 (Z : State) (a1 : Addr) (be : Addr) (ke : ClassId) (bd : Addr) (kd : ClassId) (n : Int32) (xs : List Value) (ys : List Value) (z : Int32) (h0 : Heap) (n0 : Nat) (v : Option Value) (h : Heap) (L : List Loc) : Prop := ∃ r : Addr, ∃ e1 : Addr, ∃ k1 : ClassId, ∃ d1 : Addr, ∃ k2 : ClassId, v = some (.ref r) ∧ Fr n0 L ∧ Keep h0 h [] ∧ h0.size ≤ r ∧ Exa Z h r "com/example/drienerlo/drienerlo/retrieval/Scored" ∧ Fld Z h r "com/example/drienerlo/drienerlo/retrieval/Scored" "elements" "[I" (.ref e1) ∧ Fld Z h r "com/example/drienerlo/drienerlo/retrieval/Scored" "scores" "[D" (.ref d1) ∧ Arv Z h e1 k1 .int z xs (.int (0 : Int32)) ∧ Arv Z h d1 k2 .double z ys (.double (0 : UInt64))
set_option maxRecDepth 65536 in
set_option maxHeartbeats 40000000 in
theorem rm5 (l : Launch) (Z : State) (a0 : Array Value) (hw : ∀ d ∈ tables_1, d.before a0 Z = true) (ws : List Jvm.Cond) (a1 : Addr) (be : Addr) (ke : ClassId) (bd : Addr) (kd : ClassId) (n : Int32) (xs : List Value) (ys : List Value) (z : Int32) (h0 : Heap) (n0 : Nat) (Z0 : n0 ≤ h0.size) (E_a1 : Exa Z h0 a1 "com/example/drienerlo/drienerlo/retrieval/Scored$Builder") (F_elements_a1 : Fld Z h0 a1 "com/example/drienerlo/drienerlo/retrieval/Scored$Builder" "elements" "[I" (.ref be)) (F_scores_a1 : Fld Z h0 a1 "com/example/drienerlo/drienerlo/retrieval/Scored$Builder" "scores" "[D" (.ref bd)) (F_size_a1 : Fld Z h0 a1 "com/example/drienerlo/drienerlo/retrieval/Scored$Builder" "size" "I" (.int z)) (V_be : Arv Z h0 be ke .int n xs (.int (0 : Int32))) (V_bd : Arv Z h0 bd kd .double n ys (.double (0 : UInt64))) (E_be : Exa Z h0 be "[I") (E_bd : Exa Z h0 bd "[D") (hz : ¬ z < 0 ∧ ¬ n < z) (hn : n.toInt ≤ 4) :
    MetFree l (⟨"com/example/drienerlo/drienerlo/retrieval/Scored$Builder", "build", "()Lcom/example/drienerlo/drienerlo/retrieval/Scored;"⟩ : MethodName) (head1 (Jvm.Cond.code (⟨"com/example/drienerlo/drienerlo/retrieval/Scored$Builder", "build", "()Lcom/example/drienerlo/drienerlo/retrieval/Scored;"⟩ : MethodName) prog_60_method_3_code 1 (some (.object "com/example/drienerlo/drienerlo/retrieval/Scored")) :: ws) ({ frames := 2, cells := 3, slots := 10, locals := 57 } : Room)) (fun a U => a = #[(.ref a1)] ∧ Z.Warmed39 U.vm ∧ U.heap = h0) (fun _ _ _ _ _ => True) (fun _ U o U' => ∃ v L, o = .returned v ∧ Q5 Z a1 be ke bd kd n xs ys z h0 n0 v U'.heap L ∧ FrameEnd U o U' L ({ frames := 2, cells := 3, slots := 10, locals := 57 } : Room).cells ({ frames := 2, cells := 3, slots := 10, locals := 57 } : Room).slots) := by
  refine MetFree.of_bodySF (plainFor_of_name pn_0) hisR ?_
  intro p e s m args below meth c s₁ Bd hml0 hP hK
  obtain ⟨rfl, hZ, hh⟩ := hP
  have hx := Bd.exec
  have hby := Bd.bytes
  have hml : c.maxLocals = 1 := hml0
  have hown : s.vm.findClass "com/example/drienerlo/drienerlo/retrieval/Scored$Builder" = some m.cls := findClass_of_methodNamed Bd.named
  have hnm := (name_of_methodNamed Bd.named Bd.method).1
  have X0 : Stand p l e ({ frames := 2, cells := 3, slots := 10, locals := 57 } : Room) s m #[(.ref a1)] below meth c s₁ [] 0 0 := Stand.of_body Bd
  have e0 : s₁.heap = h0 := by rw [← hh, Bd.state]; rfl
  have N0 := Fr.nil n0
  show Go p e below (PP s below (Q5 Z a1 be ke bd kd n xs ys z h0 n0) ({ frames := 2, cells := 3, slots := 10, locals := 57 } : Room).cells ({ frames := 2, cells := 3, slots := 10, locals := 57 } : Room).slots) (s₁.setTop (entryFrame m #[(.ref a1)] 1))
  refine go (fun _ k => castTop (ef_rm5 m a1) k) ?_
  show Go p e below _ (s₁.setTop (mkF m 0 #[.val (.ref a1)] []))
  obtain ⟨T1, h1, X1, e1, E1, A1, D1, -, st1⟩ := newO X0 hx hZ hown (hw _ (List.mem_of_getElem? (i := 27) rfl)) (hw _ (List.mem_of_getElem? (i := 28) rfl)) (hw _ (List.mem_of_getElem? (i := 29) rfl)) e0 (g := (mkF m 0 #[.val (.ref a1)] [])) rfl (hb hby d5_0) (by decide) (by decide)
  obtain ⟨b1, g1⟩ : ∃ z, z = h0.size := ⟨_, rfl⟩
  rw [← g1] at A1 D1 st1
  have sz_b1 : h0.size ≤ b1 := Nat.le_trans (Keep.refl h0 []).1 (Nat.le_of_eq g1.symm)
  have g_b1 : n0 ≤ b1 := Nat.le_trans Z0 sz_b1
  have F_elements_b1 : Fld Z h1 b1 "com/example/drienerlo/drienerlo/retrieval/Scored" "elements" "[I" .null := D1 (Or.inr (hw _ (List.mem_of_getElem? (i := 59) rfl))) (ty := (.array .int)) (by decide)
  have F_scores_b1 : Fld Z h1 b1 "com/example/drienerlo/drienerlo/retrieval/Scored" "scores" "[D" .null := D1 (Or.inr (hw _ (List.mem_of_getElem? (i := 61) rfl))) (ty := (.array .double)) (by decide)
  refine go st1 ?_
  show Go p e below _ (T1.setTop (mkF m 3 #[.val (.ref a1)] [(.ref b1)]))
  refine go (fun _ k => XS.dup X1.here hx rfl (hb hby d5_3) rfl rfl k) ?_
  show Go p e below _ (T1.setTop (mkF m 4 #[.val (.ref a1)] [(.ref b1), (.ref b1)]))
  refine go (fun _ k => XS.aloadN X1.here hx rfl (hb hby d5_4) rfl rfl  k) ?_
  show Go p e below _ (T1.setTop (mkF m 5 #[.val (.ref a1)] [(.ref a1), (.ref b1), (.ref b1)]))
  obtain ⟨T2, X2, e2, st2⟩ := getF X1 hx hZ hown (host := "") (Or.inl (hw _ (List.mem_of_getElem? (i := 17) rfl))) Via.refl e1 (F_elements_a1.ext E1) (g := (mkF m 5 #[.val (.ref a1)] [(.ref a1), (.ref b1), (.ref b1)])) rfl rfl (hb hby d5_5)
  refine go st2 ?_
  show Go p e below _ (T2.setTop (mkF m 8 #[.val (.ref a1)] [(.ref be), (.ref b1), (.ref b1)]))
  refine go (fun _ k => XS.aloadN X2.here hx rfl (hb hby d5_8) rfl rfl  k) ?_
  show Go p e below _ (T2.setTop (mkF m 9 #[.val (.ref a1)] [(.ref a1), (.ref be), (.ref b1), (.ref b1)]))
  obtain ⟨T3, X3, e3, st3⟩ := getF X2 hx hZ hown (host := "") (Or.inl (hw _ (List.mem_of_getElem? (i := 30) rfl))) Via.refl e2 (F_size_a1.ext E1) (g := (mkF m 9 #[.val (.ref a1)] [(.ref a1), (.ref be), (.ref b1), (.ref b1)])) rfl rfl (hb hby d5_9)
  refine go st3 ?_
  show Go p e below _ (T3.setTop (mkF m 12 #[.val (.ref a1)] [(.int z), (.ref be), (.ref b1), (.ref b1)]))
  have K5 : Keep h0 h1 [] := ((Keep.refl h0 []).ext E1)
  obtain ⟨_, _, ⟨T4, L4, k4, n4⟩, -, X4, ⟨Lc4, hQ4, l4, y4, z4⟩, st4⟩ := Jvm.LawKit.callS X3 hx (y := (⟨"java/util/Arrays", "copyOf", "([II)[I"⟩ : MethodName)) hown (mvT hZ (hw _ (List.mem_of_getElem? (i := 32) rfl))) (mvT hZ (hw _ (List.mem_of_getElem? (i := 33) rfl))) (mvT hZ (hw _ (List.mem_of_getElem? (i := 34) rfl))) (mvT hZ (hw _ (List.mem_of_getElem? (i := 35) rfl))) (by decide) (backOf (W := 2) (rm6 l Z a0 hw [] be z ke n xs h1 n0 (Nat.le_trans Z0 K5.1) (V_be.ext E1) (E_be.ext E1) (hz : ¬ z < 0 ∧ ¬ n < z) (hn : n.toInt ≤ 4)) hZ (hw _ (List.mem_of_getElem? (i := 35) rfl)) (hw _ (List.mem_of_getElem? (i := 34) rfl)) (by decide) (by decide)) (g := (mkF m 12 #[.val (.ref a1)] [(.int z), (.ref be), (.ref b1), (.ref b1)])) rfl (by rw [hml]; rfl) (argsL := [(.ref be), (.int z)]) (rest := [(.ref b1), (.ref b1)]) (lenOf pd_1 rfl) rfl (by show 2 * 0 + _ ≤ _; exact Nat.le_of_eq rfl) (hb hby d5_12) (fun _ _ => ⟨rfl, e3, (by decide : 1 + 1 ≤ _), (by decide : 2 + 4 ≤ _)⟩)
  dsimp only [Pt.U, Pt.locs, Pt.cells, Pt.slots] at X4 l4 y4 z4 st4 hQ4
  subst l4 y4 z4
  obtain ⟨b_4, kb_4, rfl, N4q, r4_0, r4_1, r4_2⟩ := hQ4
  have N4 := Fr.app N0 N4q
  have sz_b_4 : h0.size ≤ b_4 := Nat.le_trans K5.1 r4_1
  have g_b_4 : n0 ≤ b_4 := Nat.le_trans Z0 sz_b_4
  skip
  refine go st4 ?_
  show Go p e below _ (T4.setTop (mkF m 15 #[.val (.ref a1)] [(.ref b_4), (.ref b1), (.ref b1)]))
  refine go (fun _ k => XS.aloadN X4.here hx rfl (hb hby d5_15) rfl rfl  k) ?_
  show Go p e below _ (T4.setTop (mkF m 16 #[.val (.ref a1)] [(.ref a1), (.ref b_4), (.ref b1), (.ref b1)]))
  obtain ⟨T6, X6, e6, st6⟩ := getF X4 hx hZ hown (host := "") (Or.inl (hw _ (List.mem_of_getElem? (i := 20) rfl))) Via.refl rfl ((F_scores_a1.ext E1).keep r4_0 nin0) (g := (mkF m 16 #[.val (.ref a1)] [(.ref a1), (.ref b_4), (.ref b1), (.ref b1)])) rfl rfl (hb hby d5_16)
  refine go st6 ?_
  show Go p e below _ (T6.setTop (mkF m 19 #[.val (.ref a1)] [(.ref bd), (.ref b_4), (.ref b1), (.ref b1)]))
  refine go (fun _ k => XS.aloadN X6.here hx rfl (hb hby d5_19) rfl rfl  k) ?_
  show Go p e below _ (T6.setTop (mkF m 20 #[.val (.ref a1)] [(.ref a1), (.ref bd), (.ref b_4), (.ref b1), (.ref b1)]))
  obtain ⟨T7, X7, e7, st7⟩ := getF X6 hx hZ hown (host := "") (Or.inl (hw _ (List.mem_of_getElem? (i := 30) rfl))) Via.refl e6 ((F_size_a1.ext E1).keep r4_0 nin0) (g := (mkF m 20 #[.val (.ref a1)] [(.ref a1), (.ref bd), (.ref b_4), (.ref b1), (.ref b1)])) rfl rfl (hb hby d5_20)
  refine go st7 ?_
  show Go p e below _ (T7.setTop (mkF m 23 #[.val (.ref a1)] [(.int z), (.ref bd), (.ref b_4), (.ref b1), (.ref b1)]))
  have K9 : Keep h0 T4.heap [] := (K5.trans r4_0 all0)
  obtain ⟨_, _, ⟨T8, L8, k8, n8⟩, -, X8, ⟨Lc8, hQ8, l8, y8, z8⟩, st8⟩ := Jvm.LawKit.callS X7 hx (y := (⟨"java/util/Arrays", "copyOf", "([DI)[D"⟩ : MethodName)) hown (mvT hZ (hw _ (List.mem_of_getElem? (i := 45) rfl))) (mvT hZ (hw _ (List.mem_of_getElem? (i := 46) rfl))) (mvT hZ (hw _ (List.mem_of_getElem? (i := 34) rfl))) (mvT hZ (hw _ (List.mem_of_getElem? (i := 47) rfl))) (by decide) (backOf (W := 3) (rm7 l Z a0 hw [] bd z kd n ys T4.heap n0 (Nat.le_trans Z0 K9.1) ((V_bd.ext E1).keep r4_0 nin0) ((E_bd.ext E1).keep r4_0) (hz : ¬ z < 0 ∧ ¬ n < z) (hn : n.toInt ≤ 4)) hZ (hw _ (List.mem_of_getElem? (i := 47) rfl)) (hw _ (List.mem_of_getElem? (i := 34) rfl)) (by decide) (by decide)) (g := (mkF m 23 #[.val (.ref a1)] [(.int z), (.ref bd), (.ref b_4), (.ref b1), (.ref b1)])) rfl (by rw [hml]; rfl) (argsL := [(.ref bd), (.int z)]) (rest := [(.ref b_4), (.ref b1), (.ref b1)]) (lenOf pd_2 rfl) rfl (by show 2 * 0 + _ ≤ _; exact Nat.le_of_eq rfl) (hb hby d5_23) (fun _ _ => ⟨rfl, e7, (by decide : 2 + 1 ≤ _), (by decide : 6 + 4 ≤ _)⟩)
  dsimp only [Pt.U, Pt.locs, Pt.cells, Pt.slots] at X8 l8 y8 z8 st8 hQ8
  subst l8 y8 z8
  obtain ⟨b_8, kb_8, rfl, N8q, r8_0, r8_1, r8_2⟩ := hQ8
  have N8 := Fr.app N4 N8q
  have sz_b_8 : h0.size ≤ b_8 := Nat.le_trans K9.1 r8_1
  have g_b_8 : n0 ≤ b_8 := Nat.le_trans Z0 sz_b_8
  skip
  refine go st8 ?_
  show Go p e below _ (T8.setTop (mkF m 26 #[.val (.ref a1)] [(.ref b_8), (.ref b_4), (.ref b1), (.ref b1)]))
  have K11 : Keep h0 T8.heap [] := (K9.trans r8_0 all0)
  obtain ⟨_, _, ⟨T10, L10, k10, n10⟩, -, X10, ⟨Lc10, hQ10, l10, y10, z10⟩, st10⟩ := X8.specialBack hx (y := (⟨"com/example/drienerlo/drienerlo/retrieval/Scored", "<init>", "([I[D)V"⟩ : MethodName)) rfl hown (mvT hZ (hw _ (List.mem_of_getElem? (i := 54) rfl))) (mvT hZ (hw _ (List.mem_of_getElem? (i := 55) rfl))) (mvT hZ (hw _ (List.mem_of_getElem? (i := 56) rfl))) (by decide) (backOf (W := 1) (rm8 l Z a0 hw [] b1 b_4 b_8 .null .null kb_4 kb_8 z xs ys T8.heap n0 (Nat.le_trans Z0 K11.1) ((A1.keep r4_0).keep r8_0) g_b1 ((F_elements_b1.keep r4_0 nin0).keep r8_0 nin0) ((F_scores_b1.keep r4_0 nin0).keep r8_0 nin0) (r4_2.keep r8_0 nin0) r8_2) hZ (hw _ (List.mem_of_getElem? (i := 56) rfl)) (hw _ (List.mem_of_getElem? (i := 29) rfl)) (by decide) (by decide)) (g := (mkF m 26 #[.val (.ref a1)] [(.ref b_8), (.ref b_4), (.ref b1), (.ref b1)])) rfl (by rw [hml]; rfl) (Steps.refl _) (a := b1) (argsL := [(.ref b_4), (.ref b_8)]) (rest := [(.ref b1)]) (lenOf pd_3 rfl) rfl (by show 2 * 0 + _ ≤ _; exact Nat.le_of_eq rfl) (hb hby d5_26) (fun _ _ => ⟨rfl, rfl, (by decide : 3 + 0 ≤ _), (by decide : 10 + 0 ≤ _)⟩)
  dsimp only [Pt.U, Pt.locs, Pt.cells, Pt.slots] at X10 l10 y10 z10 st10 hQ10
  subst l10 y10 z10
  obtain ⟨rfl, N10q, r10_0, r10_1, r10_2, r10_3⟩ := hQ10
  have N10 := Fr.app N8 N10q
  refine go (fun _ k => st10.trans k) ?_
  show Go p e below _ (T10.setTop (mkF m 29 #[.val (.ref a1)] [(.ref b1)]))
  obtain ⟨fs, hr, hrun, hended, hW, hsame⟩ := X10.leave (v := some (.ref b1)) (fun h => by rw [Bd.returns] at h; cases h)
  have K12 : Keep h0 T10.heap [] := (K11.trans r10_0 (allS (Or.inr sz_b1) all0))
  have f13 := ((r4_2.keep r8_0 nin0).keep r10_0 (ninS (Ne.symm (Nat.ne_of_lt (Nat.lt_of_lt_of_le A1.lt r4_1))) nin0))
  have f14 := (r8_2.keep r10_0 (ninS (Ne.symm (Nat.ne_of_lt (Nat.lt_of_lt_of_le (Nat.lt_of_lt_of_le A1.lt r4_0.1) r8_1))) nin0))
  refine leaf (T := T10) ⟨fs, retA X10 hx Bd.returns rfl rfl rfl (hb hby d5_29) hr, hrun, hended, hW, hsame⟩ ?_ (by decide) (by decide)
  show Q5 Z a1 be ke bd kd n xs ys z h0 n0 _ T10.heap _
  exact ⟨b1, b_4, kb_4, b_8, kb_8, rfl, N10, K12, sz_b1, r10_1, r10_2, r10_3, f13, f14⟩
theorem pd_4 : parseMethodDescriptor "(I)V" = some ⟨[.int], none⟩ := by decide +kernel
theorem pd_5 : parseMethodDescriptor "()Lcom/example/drienerlo/drienerlo/retrieval/Scored;" = some ⟨[], some (.object "com/example/drienerlo/drienerlo/retrieval/Scored")⟩ := by decide +kernel
theorem pd_6 : parseMethodDescriptor "()[I" = some ⟨[], some (.array .int)⟩ := by decide +kernel
theorem pd_7 : parseMethodDescriptor "()[D" = some ⟨[], some (.array .double)⟩ := by decide +kernel
theorem pd_8 : parseMethodDescriptor "(ID)V" = some ⟨[.int, .double], none⟩ := by decide +kernel
theorem pn_3 : plainName "com/example/drienerlo/drienerlo/retrieval/BuilderAddPinLaw" = true := by first | (simp [plainName, overriddenIn]; done) | decide +kernel
theorem ef_rm0 (m : MethodId) (p1 : Int32) (p2 : Int32) (p3 : Int32) (p4 : Int32) (q5 : Int64) (p6 : Int32) : entryFrame m #[(.int p1), (.int p2), (.int p3), (.int p4), (.long q5), (.int p6)] maxLocals = mkF m 0 #[.val (.int p1), .val (.int p2), .val (.int p3), .val (.int p4), .val (.long q5), .second, .val (.int p6), .unset, .unset, .unset, .unset, .unset, .unset, .unset, .unset, .unset, .unset, .unset, .unset, .unset, .unset, .unset, .unset] [] := by first | (simp [entryFrame, mkF, argsToLocals, Value.category, maxLocals]; done) | rfl
def Q0 (Z : State) (p1 : Int32) (p2 : Int32) (p3 : Int32) (p4 : Int32) (q5 : Int64) (p6 : Int32) (h0 : Heap) (n0 : Nat) (v : Option Value) (h : Heap) (L : List Loc) : Prop := v = some (.int (1 : Int32)) ∧ Fr n0 L
set_option maxRecDepth 65536 in
set_option maxHeartbeats 40000000 in
theorem rm0 (l : Launch) (Z : State) (a0 : Array Value) (hw : ∀ d ∈ tables_1, d.before a0 Z = true) (ws : List Jvm.Cond) (p1 : Int32) (p2 : Int32) (p3 : Int32) (p4 : Int32) (q5 : Int64) (p6 : Int32) (h0 : Heap) (n0 : Nat) (Z0 : n0 ≤ h0.size) :
    MetFree l x (head1 (Jvm.Cond.code x code maxLocals ret :: ws) room_1) (fun a U => a = #[(.int p1), (.int p2), (.int p3), (.int p4), (.long q5), (.int p6)] ∧ Z.Warmed39 U.vm ∧ U.heap = h0) (fun _ _ _ _ _ => True) (fun _ U o U' => ∃ v L, o = .returned v ∧ Q0 Z p1 p2 p3 p4 q5 p6 h0 n0 v U'.heap L ∧ FrameEnd U o U' L room_1.cells room_1.slots) := by
  refine MetFree.of_bodySF (plainFor_of_name pn_3) hisR ?_
  intro p e s m args below meth c s₁ Bd hml0 hP hK
  obtain ⟨rfl, hZ, hh⟩ := hP
  have hx := Bd.exec
  have hby := Bd.bytes
  have hml : c.maxLocals = 23 := hml0
  have hown : s.vm.findClass "com/example/drienerlo/drienerlo/retrieval/BuilderAddPinLaw" = some m.cls := findClass_of_methodNamed Bd.named
  have hnm := (name_of_methodNamed Bd.named Bd.method).1
  have X0 : Stand p l e room_1 s m #[(.int p1), (.int p2), (.int p3), (.int p4), (.long q5), (.int p6)] below meth c s₁ [] 0 0 := Stand.of_body Bd
  have e0 : s₁.heap = h0 := by rw [← hh, Bd.state]; rfl
  have N0 := Fr.nil n0
  show Go p e below (PP s below (Q0 Z p1 p2 p3 p4 q5 p6 h0 n0) room_1.cells room_1.slots) (s₁.setTop (entryFrame m #[(.int p1), (.int p2), (.int p3), (.int p4), (.long q5), (.int p6)] maxLocals))
  refine go (fun _ k => castTop (ef_rm0 m p1 p2 p3 p4 q5 p6) k) ?_
  show Go p e below _ (s₁.setTop (mkF m 0 #[.val (.int p1), .val (.int p2), .val (.int p3), .val (.int p4), .val (.long q5), .second, .val (.int p6), .unset, .unset, .unset, .unset, .unset, .unset, .unset, .unset, .unset, .unset, .unset, .unset, .unset, .unset, .unset, .unset] []))
  refine go (fun _ k => XS.iloadN X0.here hx rfl (hb hby at_0) rfl  k) ?_
  show Go p e below _ (s₁.setTop (mkF m 1 #[.val (.int p1), .val (.int p2), .val (.int p3), .val (.int p4), .val (.long q5), .second, .val (.int p6), .unset, .unset, .unset, .unset, .unset, .unset, .unset, .unset, .unset, .unset, .unset, .unset, .unset, .unset, .unset, .unset] [(.int p1)]))
  refine go (fun _ k => XS.iconst X0.here hx rfl (hb hby at_1) k) ?_
  show Go p e below _ (s₁.setTop (mkF m 2 #[.val (.int p1), .val (.int p2), .val (.int p3), .val (.int p4), .val (.long q5), .second, .val (.int p6), .unset, .unset, .unset, .unset, .unset, .unset, .unset, .unset, .unset, .unset, .unset, .unset, .unset, .unset, .unset, .unset] [(.int (3 : Int32)), (.int p1)]))
  refine go (fun _ k => XS.iand X0.here hx rfl (hb hby at_2) rfl k) ?_
  show Go p e below _ (s₁.setTop (mkF m 3 #[.val (.int p1), .val (.int p2), .val (.int p3), .val (.int p4), .val (.long q5), .second, .val (.int p6), .unset, .unset, .unset, .unset, .unset, .unset, .unset, .unset, .unset, .unset, .unset, .unset, .unset, .unset, .unset, .unset] [(.int (p1 &&& (3 : Int32)))]))
  refine go (fun _ k => XS.istore X0.here hx rfl (hb hby at_3) rfl (l' := #[.val (.int p1), .val (.int p2), .val (.int p3), .val (.int p4), .val (.long q5), .second, .val (.int p6), .val (.int (p1 &&& (3 : Int32))), .unset, .unset, .unset, .unset, .unset, .unset, .unset, .unset, .unset, .unset, .unset, .unset, .unset, .unset, .unset]) rfl k) ?_
  show Go p e below _ (s₁.setTop (mkF m 5 #[.val (.int p1), .val (.int p2), .val (.int p3), .val (.int p4), .val (.long q5), .second, .val (.int p6), .val (.int (p1 &&& (3 : Int32))), .unset, .unset, .unset, .unset, .unset, .unset, .unset, .unset, .unset, .unset, .unset, .unset, .unset, .unset, .unset] []))
  refine go (fun _ k => XS.iloadN X0.here hx rfl (hb hby at_5) rfl  k) ?_
  show Go p e below _ (s₁.setTop (mkF m 6 #[.val (.int p1), .val (.int p2), .val (.int p3), .val (.int p4), .val (.long q5), .second, .val (.int p6), .val (.int (p1 &&& (3 : Int32))), .unset, .unset, .unset, .unset, .unset, .unset, .unset, .unset, .unset, .unset, .unset, .unset, .unset, .unset, .unset] [(.int p1)]))
  refine go (fun _ k => XS.iconst X0.here hx rfl (hb hby at_6) k) ?_
  show Go p e below _ (s₁.setTop (mkF m 7 #[.val (.int p1), .val (.int p2), .val (.int p3), .val (.int p4), .val (.long q5), .second, .val (.int p6), .val (.int (p1 &&& (3 : Int32))), .unset, .unset, .unset, .unset, .unset, .unset, .unset, .unset, .unset, .unset, .unset, .unset, .unset, .unset, .unset] [(.int (2 : Int32)), (.int p1)]))
  refine go (fun _ k => XS.iushr X0.here hx rfl (hb hby at_7) rfl k) ?_
  show Go p e below _ (s₁.setTop (mkF m 8 #[.val (.int p1), .val (.int p2), .val (.int p3), .val (.int p4), .val (.long q5), .second, .val (.int p6), .val (.int (p1 &&& (3 : Int32))), .unset, .unset, .unset, .unset, .unset, .unset, .unset, .unset, .unset, .unset, .unset, .unset, .unset, .unset, .unset] [(.int ((p1.toUInt32 >>> ((2 : Int32) &&& 31).toUInt32).toInt32))]))
  refine go (fun _ k => XS.iconst X0.here hx rfl (hb hby at_8) k) ?_
  show Go p e below _ (s₁.setTop (mkF m 9 #[.val (.int p1), .val (.int p2), .val (.int p3), .val (.int p4), .val (.long q5), .second, .val (.int p6), .val (.int (p1 &&& (3 : Int32))), .unset, .unset, .unset, .unset, .unset, .unset, .unset, .unset, .unset, .unset, .unset, .unset, .unset, .unset, .unset] [(.int (1 : Int32)), (.int ((p1.toUInt32 >>> ((2 : Int32) &&& 31).toUInt32).toInt32))]))
  refine go (fun _ k => XS.iand X0.here hx rfl (hb hby at_9) rfl k) ?_
  show Go p e below _ (s₁.setTop (mkF m 10 #[.val (.int p1), .val (.int p2), .val (.int p3), .val (.int p4), .val (.long q5), .second, .val (.int p6), .val (.int (p1 &&& (3 : Int32))), .unset, .unset, .unset, .unset, .unset, .unset, .unset, .unset, .unset, .unset, .unset, .unset, .unset, .unset, .unset] [(.int (((p1.toUInt32 >>> ((2 : Int32) &&& 31).toUInt32).toInt32) &&& (1 : Int32)))]))
  refine go (fun _ k => XS.istore X0.here hx rfl (hb hby at_10) rfl (l' := #[.val (.int p1), .val (.int p2), .val (.int p3), .val (.int p4), .val (.long q5), .second, .val (.int p6), .val (.int (p1 &&& (3 : Int32))), .val (.int (((p1.toUInt32 >>> ((2 : Int32) &&& 31).toUInt32).toInt32) &&& (1 : Int32))), .unset, .unset, .unset, .unset, .unset, .unset, .unset, .unset, .unset, .unset, .unset, .unset, .unset, .unset]) rfl k) ?_
  show Go p e below _ (s₁.setTop (mkF m 12 #[.val (.int p1), .val (.int p2), .val (.int p3), .val (.int p4), .val (.long q5), .second, .val (.int p6), .val (.int (p1 &&& (3 : Int32))), .val (.int (((p1.toUInt32 >>> ((2 : Int32) &&& 31).toUInt32).toInt32) &&& (1 : Int32))), .unset, .unset, .unset, .unset, .unset, .unset, .unset, .unset, .unset, .unset, .unset, .unset, .unset, .unset] []))
  have hsp := and_one ((p1.toUInt32 >>> ((2 : Int32) &&& 31).toUInt32).toInt32)
  generalize hsp8 : (((p1.toUInt32 >>> ((2 : Int32) &&& 31).toUInt32).toInt32) &&& (1 : Int32)) = sp at hsp ⊢
  show Go p e below _ (s₁.setTop (mkF m 12 #[.val (.int p1), .val (.int p2), .val (.int p3), .val (.int p4), .val (.long q5), .second, .val (.int p6), .val (.int (p1 &&& (3 : Int32))), .val (.int sp), .unset, .unset, .unset, .unset, .unset, .unset, .unset, .unset, .unset, .unset, .unset, .unset, .unset, .unset] []))
  refine go (fun _ k => XS.iloadN X0.here hx rfl (hb hby at_12) rfl  k) ?_
  show Go p e below _ (s₁.setTop (mkF m 13 #[.val (.int p1), .val (.int p2), .val (.int p3), .val (.int p4), .val (.long q5), .second, .val (.int p6), .val (.int (p1 &&& (3 : Int32))), .val (.int sp), .unset, .unset, .unset, .unset, .unset, .unset, .unset, .unset, .unset, .unset, .unset, .unset, .unset, .unset] [(.int p2)]))
  refine go (fun _ k => XS.iloadN X0.here hx rfl (hb hby at_13) rfl  k) ?_
  show Go p e below _ (s₁.setTop (mkF m 14 #[.val (.int p1), .val (.int p2), .val (.int p3), .val (.int p4), .val (.long q5), .second, .val (.int p6), .val (.int (p1 &&& (3 : Int32))), .val (.int sp), .unset, .unset, .unset, .unset, .unset, .unset, .unset, .unset, .unset, .unset, .unset, .unset, .unset, .unset] [(.int p3), (.int p2)]))
  obtain ⟨_, _, ⟨T1, L1, k1, n1⟩, -, X1, ⟨Lc1, hQ1, l1, y1, z1⟩, st1⟩ := Jvm.LawKit.callS X0 hx (y := (⟨"java/lang/Math", "min", "(II)I"⟩ : MethodName)) hown (mvT hZ (hw _ (List.mem_of_getElem? (i := 0) rfl))) (mvT hZ (hw _ (List.mem_of_getElem? (i := 1) rfl))) (mvT hZ (hw _ (List.mem_of_getElem? (i := 2) rfl))) (mvT hZ (hw _ (List.mem_of_getElem? (i := 3) rfl))) (by decide) (backOf (W := 0) (rm1 l Z a0 hw [] p2 p3 h0 n0 (Nat.le_trans Z0 (Keep.refl h0 []).1) ) hZ (hw _ (List.mem_of_getElem? (i := 3) rfl)) (hw _ (List.mem_of_getElem? (i := 2) rfl)) (by decide) (by decide)) (g := (mkF m 14 #[.val (.int p1), .val (.int p2), .val (.int p3), .val (.int p4), .val (.long q5), .second, .val (.int p6), .val (.int (p1 &&& (3 : Int32))), .val (.int sp), .unset, .unset, .unset, .unset, .unset, .unset, .unset, .unset, .unset, .unset, .unset, .unset, .unset, .unset] [(.int p3), (.int p2)])) rfl (by rw [hml]; rfl) (argsL := [(.int p2), (.int p3)]) (rest := []) (lenOf pd_0 rfl) rfl (by show 2 * 0 + _ ≤ _; exact Nat.le_of_eq rfl) (hb hby at_14) (fun _ _ => ⟨rfl, e0, (by decide : 0 + 0 ≤ _), (by decide : 0 + 0 ≤ _)⟩)
  dsimp only [Pt.U, Pt.locs, Pt.cells, Pt.slots] at X1 l1 y1 z1 st1 hQ1
  subst l1 y1 z1
  obtain ⟨rfl, N1q, e1⟩ := hQ1
  have N1 := Fr.app N0 N1q
  skip
  refine go st1 ?_
  show Go p e below _ (T1.setTop (mkF m 17 #[.val (.int p1), .val (.int p2), .val (.int p3), .val (.int p4), .val (.long q5), .second, .val (.int p6), .val (.int (p1 &&& (3 : Int32))), .val (.int sp), .unset, .unset, .unset, .unset, .unset, .unset, .unset, .unset, .unset, .unset, .unset, .unset, .unset, .unset] [(.int (imin p2 p3))]))
  refine go (fun _ k => XS.iloadN X1.here hx rfl (hb hby at_17) rfl  k) ?_
  show Go p e below _ (T1.setTop (mkF m 18 #[.val (.int p1), .val (.int p2), .val (.int p3), .val (.int p4), .val (.long q5), .second, .val (.int p6), .val (.int (p1 &&& (3 : Int32))), .val (.int sp), .unset, .unset, .unset, .unset, .unset, .unset, .unset, .unset, .unset, .unset, .unset, .unset, .unset, .unset] [(.int p4), (.int (imin p2 p3))]))
  obtain ⟨_, _, ⟨T2, L2, k2, n2⟩, -, X2, ⟨Lc2, hQ2, l2, y2, z2⟩, st2⟩ := Jvm.LawKit.callS X1 hx (y := (⟨"java/lang/Math", "min", "(II)I"⟩ : MethodName)) hown (mvT hZ (hw _ (List.mem_of_getElem? (i := 0) rfl))) (mvT hZ (hw _ (List.mem_of_getElem? (i := 1) rfl))) (mvT hZ (hw _ (List.mem_of_getElem? (i := 2) rfl))) (mvT hZ (hw _ (List.mem_of_getElem? (i := 3) rfl))) (by decide) (backOf (W := 0) (rm1 l Z a0 hw [] (imin p2 p3) p4 h0 n0 (Nat.le_trans Z0 (Keep.refl h0 []).1) ) hZ (hw _ (List.mem_of_getElem? (i := 3) rfl)) (hw _ (List.mem_of_getElem? (i := 2) rfl)) (by decide) (by decide)) (g := (mkF m 18 #[.val (.int p1), .val (.int p2), .val (.int p3), .val (.int p4), .val (.long q5), .second, .val (.int p6), .val (.int (p1 &&& (3 : Int32))), .val (.int sp), .unset, .unset, .unset, .unset, .unset, .unset, .unset, .unset, .unset, .unset, .unset, .unset, .unset, .unset] [(.int p4), (.int (imin p2 p3))])) rfl (by rw [hml]; rfl) (argsL := [(.int (imin p2 p3)), (.int p4)]) (rest := []) (lenOf pd_0 rfl) rfl (by show 2 * 0 + _ ≤ _; exact Nat.le_of_eq rfl) (hb hby at_18) (fun _ _ => ⟨rfl, e1, (by decide : 0 + 0 ≤ _), (by decide : 0 + 0 ≤ _)⟩)
  dsimp only [Pt.U, Pt.locs, Pt.cells, Pt.slots] at X2 l2 y2 z2 st2 hQ2
  subst l2 y2 z2
  obtain ⟨rfl, N2q, e2⟩ := hQ2
  have N2 := Fr.app N1 N2q
  skip
  refine go st2 ?_
  show Go p e below _ (T2.setTop (mkF m 21 #[.val (.int p1), .val (.int p2), .val (.int p3), .val (.int p4), .val (.long q5), .second, .val (.int p6), .val (.int (p1 &&& (3 : Int32))), .val (.int sp), .unset, .unset, .unset, .unset, .unset, .unset, .unset, .unset, .unset, .unset, .unset, .unset, .unset, .unset] [(.int (imin (imin p2 p3) p4))]))
  refine go (fun _ k => XS.istore X2.here hx rfl (hb hby at_21) rfl (l' := #[.val (.int p1), .val (.int p2), .val (.int p3), .val (.int p4), .val (.long q5), .second, .val (.int p6), .val (.int (p1 &&& (3 : Int32))), .val (.int sp), .val (.int (imin (imin p2 p3) p4)), .unset, .unset, .unset, .unset, .unset, .unset, .unset, .unset, .unset, .unset, .unset, .unset, .unset]) rfl k) ?_
  show Go p e below _ (T2.setTop (mkF m 23 #[.val (.int p1), .val (.int p2), .val (.int p3), .val (.int p4), .val (.long q5), .second, .val (.int p6), .val (.int (p1 &&& (3 : Int32))), .val (.int sp), .val (.int (imin (imin p2 p3) p4)), .unset, .unset, .unset, .unset, .unset, .unset, .unset, .unset, .unset, .unset, .unset, .unset, .unset] []))
  generalize hlo : (imin (imin p2 p3) p4) = lo
  show Go p e below _ (T2.setTop (mkF m 23 #[.val (.int p1), .val (.int p2), .val (.int p3), .val (.int p4), .val (.long q5), .second, .val (.int p6), .val (.int (p1 &&& (3 : Int32))), .val (.int sp), .val (.int lo), .unset, .unset, .unset, .unset, .unset, .unset, .unset, .unset, .unset, .unset, .unset, .unset, .unset] []))
  refine go (fun _ k => XS.iloadN X2.here hx rfl (hb hby at_23) rfl  k) ?_
  show Go p e below _ (T2.setTop (mkF m 24 #[.val (.int p1), .val (.int p2), .val (.int p3), .val (.int p4), .val (.long q5), .second, .val (.int p6), .val (.int (p1 &&& (3 : Int32))), .val (.int sp), .val (.int lo), .unset, .unset, .unset, .unset, .unset, .unset, .unset, .unset, .unset, .unset, .unset, .unset, .unset] [(.int p2)]))
  refine go (fun _ k => XS.iloadN X2.here hx rfl (hb hby at_24) rfl  k) ?_
  show Go p e below _ (T2.setTop (mkF m 25 #[.val (.int p1), .val (.int p2), .val (.int p3), .val (.int p4), .val (.long q5), .second, .val (.int p6), .val (.int (p1 &&& (3 : Int32))), .val (.int sp), .val (.int lo), .unset, .unset, .unset, .unset, .unset, .unset, .unset, .unset, .unset, .unset, .unset, .unset, .unset] [(.int p3), (.int p2)]))
  obtain ⟨_, _, ⟨T3, L3, k3, n3⟩, -, X3, ⟨Lc3, hQ3, l3, y3, z3⟩, st3⟩ := Jvm.LawKit.callS X2 hx (y := (⟨"java/lang/Math", "max", "(II)I"⟩ : MethodName)) hown (mvT hZ (hw _ (List.mem_of_getElem? (i := 4) rfl))) (mvT hZ (hw _ (List.mem_of_getElem? (i := 5) rfl))) (mvT hZ (hw _ (List.mem_of_getElem? (i := 2) rfl))) (mvT hZ (hw _ (List.mem_of_getElem? (i := 6) rfl))) (by decide) (backOf (W := 0) (rm2 l Z a0 hw [] p2 p3 h0 n0 (Nat.le_trans Z0 (Keep.refl h0 []).1) ) hZ (hw _ (List.mem_of_getElem? (i := 6) rfl)) (hw _ (List.mem_of_getElem? (i := 2) rfl)) (by decide) (by decide)) (g := (mkF m 25 #[.val (.int p1), .val (.int p2), .val (.int p3), .val (.int p4), .val (.long q5), .second, .val (.int p6), .val (.int (p1 &&& (3 : Int32))), .val (.int sp), .val (.int lo), .unset, .unset, .unset, .unset, .unset, .unset, .unset, .unset, .unset, .unset, .unset, .unset, .unset] [(.int p3), (.int p2)])) rfl (by rw [hml]; rfl) (argsL := [(.int p2), (.int p3)]) (rest := []) (lenOf pd_0 rfl) rfl (by show 2 * 0 + _ ≤ _; exact Nat.le_of_eq rfl) (hb hby at_25) (fun _ _ => ⟨rfl, e2, (by decide : 0 + 0 ≤ _), (by decide : 0 + 0 ≤ _)⟩)
  dsimp only [Pt.U, Pt.locs, Pt.cells, Pt.slots] at X3 l3 y3 z3 st3 hQ3
  subst l3 y3 z3
  obtain ⟨rfl, N3q, e3⟩ := hQ3
  have N3 := Fr.app N2 N3q
  skip
  refine go st3 ?_
  show Go p e below _ (T3.setTop (mkF m 28 #[.val (.int p1), .val (.int p2), .val (.int p3), .val (.int p4), .val (.long q5), .second, .val (.int p6), .val (.int (p1 &&& (3 : Int32))), .val (.int sp), .val (.int lo), .unset, .unset, .unset, .unset, .unset, .unset, .unset, .unset, .unset, .unset, .unset, .unset, .unset] [(.int (imax p2 p3))]))
  refine go (fun _ k => XS.iloadN X3.here hx rfl (hb hby at_28) rfl  k) ?_
  show Go p e below _ (T3.setTop (mkF m 29 #[.val (.int p1), .val (.int p2), .val (.int p3), .val (.int p4), .val (.long q5), .second, .val (.int p6), .val (.int (p1 &&& (3 : Int32))), .val (.int sp), .val (.int lo), .unset, .unset, .unset, .unset, .unset, .unset, .unset, .unset, .unset, .unset, .unset, .unset, .unset] [(.int p4), (.int (imax p2 p3))]))
  obtain ⟨_, _, ⟨T4, L4, k4, n4⟩, -, X4, ⟨Lc4, hQ4, l4, y4, z4⟩, st4⟩ := Jvm.LawKit.callS X3 hx (y := (⟨"java/lang/Math", "max", "(II)I"⟩ : MethodName)) hown (mvT hZ (hw _ (List.mem_of_getElem? (i := 4) rfl))) (mvT hZ (hw _ (List.mem_of_getElem? (i := 5) rfl))) (mvT hZ (hw _ (List.mem_of_getElem? (i := 2) rfl))) (mvT hZ (hw _ (List.mem_of_getElem? (i := 6) rfl))) (by decide) (backOf (W := 0) (rm2 l Z a0 hw [] (imax p2 p3) p4 h0 n0 (Nat.le_trans Z0 (Keep.refl h0 []).1) ) hZ (hw _ (List.mem_of_getElem? (i := 6) rfl)) (hw _ (List.mem_of_getElem? (i := 2) rfl)) (by decide) (by decide)) (g := (mkF m 29 #[.val (.int p1), .val (.int p2), .val (.int p3), .val (.int p4), .val (.long q5), .second, .val (.int p6), .val (.int (p1 &&& (3 : Int32))), .val (.int sp), .val (.int lo), .unset, .unset, .unset, .unset, .unset, .unset, .unset, .unset, .unset, .unset, .unset, .unset, .unset] [(.int p4), (.int (imax p2 p3))])) rfl (by rw [hml]; rfl) (argsL := [(.int (imax p2 p3)), (.int p4)]) (rest := []) (lenOf pd_0 rfl) rfl (by show 2 * 0 + _ ≤ _; exact Nat.le_of_eq rfl) (hb hby at_29) (fun _ _ => ⟨rfl, e3, (by decide : 0 + 0 ≤ _), (by decide : 0 + 0 ≤ _)⟩)
  dsimp only [Pt.U, Pt.locs, Pt.cells, Pt.slots] at X4 l4 y4 z4 st4 hQ4
  subst l4 y4 z4
  obtain ⟨rfl, N4q, e4⟩ := hQ4
  have N4 := Fr.app N3 N4q
  skip
  refine go st4 ?_
  show Go p e below _ (T4.setTop (mkF m 32 #[.val (.int p1), .val (.int p2), .val (.int p3), .val (.int p4), .val (.long q5), .second, .val (.int p6), .val (.int (p1 &&& (3 : Int32))), .val (.int sp), .val (.int lo), .unset, .unset, .unset, .unset, .unset, .unset, .unset, .unset, .unset, .unset, .unset, .unset, .unset] [(.int (imax (imax p2 p3) p4))]))
  refine go (fun _ k => XS.istore X4.here hx rfl (hb hby at_32) rfl (l' := #[.val (.int p1), .val (.int p2), .val (.int p3), .val (.int p4), .val (.long q5), .second, .val (.int p6), .val (.int (p1 &&& (3 : Int32))), .val (.int sp), .val (.int lo), .val (.int (imax (imax p2 p3) p4)), .unset, .unset, .unset, .unset, .unset, .unset, .unset, .unset, .unset, .unset, .unset, .unset]) rfl k) ?_
  show Go p e below _ (T4.setTop (mkF m 34 #[.val (.int p1), .val (.int p2), .val (.int p3), .val (.int p4), .val (.long q5), .second, .val (.int p6), .val (.int (p1 &&& (3 : Int32))), .val (.int sp), .val (.int lo), .val (.int (imax (imax p2 p3) p4)), .unset, .unset, .unset, .unset, .unset, .unset, .unset, .unset, .unset, .unset, .unset, .unset] []))
  generalize hhi : (imax (imax p2 p3) p4) = hi
  show Go p e below _ (T4.setTop (mkF m 34 #[.val (.int p1), .val (.int p2), .val (.int p3), .val (.int p4), .val (.long q5), .second, .val (.int p6), .val (.int (p1 &&& (3 : Int32))), .val (.int sp), .val (.int lo), .val (.int hi), .unset, .unset, .unset, .unset, .unset, .unset, .unset, .unset, .unset, .unset, .unset, .unset] []))
  refine go (fun _ k => XS.iloadN X4.here hx rfl (hb hby at_34) rfl  k) ?_
  show Go p e below _ (T4.setTop (mkF m 35 #[.val (.int p1), .val (.int p2), .val (.int p3), .val (.int p4), .val (.long q5), .second, .val (.int p6), .val (.int (p1 &&& (3 : Int32))), .val (.int sp), .val (.int lo), .val (.int hi), .unset, .unset, .unset, .unset, .unset, .unset, .unset, .unset, .unset, .unset, .unset, .unset] [(.int p2)]))
  refine go (fun _ k => XS.iloadN X4.here hx rfl (hb hby at_35) rfl  k) ?_
  show Go p e below _ (T4.setTop (mkF m 36 #[.val (.int p1), .val (.int p2), .val (.int p3), .val (.int p4), .val (.long q5), .second, .val (.int p6), .val (.int (p1 &&& (3 : Int32))), .val (.int sp), .val (.int lo), .val (.int hi), .unset, .unset, .unset, .unset, .unset, .unset, .unset, .unset, .unset, .unset, .unset, .unset] [(.int p3), (.int p2)]))
  refine go (fun _ k => XS.iadd X4.here hx rfl (hb hby at_36) rfl k) ?_
  show Go p e below _ (T4.setTop (mkF m 37 #[.val (.int p1), .val (.int p2), .val (.int p3), .val (.int p4), .val (.long q5), .second, .val (.int p6), .val (.int (p1 &&& (3 : Int32))), .val (.int sp), .val (.int lo), .val (.int hi), .unset, .unset, .unset, .unset, .unset, .unset, .unset, .unset, .unset, .unset, .unset, .unset] [(.int (p2 + p3))]))
  refine go (fun _ k => XS.iloadN X4.here hx rfl (hb hby at_37) rfl  k) ?_
  show Go p e below _ (T4.setTop (mkF m 38 #[.val (.int p1), .val (.int p2), .val (.int p3), .val (.int p4), .val (.long q5), .second, .val (.int p6), .val (.int (p1 &&& (3 : Int32))), .val (.int sp), .val (.int lo), .val (.int hi), .unset, .unset, .unset, .unset, .unset, .unset, .unset, .unset, .unset, .unset, .unset, .unset] [(.int p4), (.int (p2 + p3))]))
  refine go (fun _ k => XS.iadd X4.here hx rfl (hb hby at_38) rfl k) ?_
  show Go p e below _ (T4.setTop (mkF m 39 #[.val (.int p1), .val (.int p2), .val (.int p3), .val (.int p4), .val (.long q5), .second, .val (.int p6), .val (.int (p1 &&& (3 : Int32))), .val (.int sp), .val (.int lo), .val (.int hi), .unset, .unset, .unset, .unset, .unset, .unset, .unset, .unset, .unset, .unset, .unset, .unset] [(.int ((p2 + p3) + p4))]))
  refine go (fun _ k => XS.iload X4.here hx rfl (hb hby at_39) rfl  k) ?_
  show Go p e below _ (T4.setTop (mkF m 41 #[.val (.int p1), .val (.int p2), .val (.int p3), .val (.int p4), .val (.long q5), .second, .val (.int p6), .val (.int (p1 &&& (3 : Int32))), .val (.int sp), .val (.int lo), .val (.int hi), .unset, .unset, .unset, .unset, .unset, .unset, .unset, .unset, .unset, .unset, .unset, .unset] [(.int lo), (.int ((p2 + p3) + p4))]))
  refine go (fun _ k => XS.isub X4.here hx rfl (hb hby at_41) rfl k) ?_
  show Go p e below _ (T4.setTop (mkF m 42 #[.val (.int p1), .val (.int p2), .val (.int p3), .val (.int p4), .val (.long q5), .second, .val (.int p6), .val (.int (p1 &&& (3 : Int32))), .val (.int sp), .val (.int lo), .val (.int hi), .unset, .unset, .unset, .unset, .unset, .unset, .unset, .unset, .unset, .unset, .unset, .unset] [(.int (((p2 + p3) + p4) - lo))]))
  refine go (fun _ k => XS.iload X4.here hx rfl (hb hby at_42) rfl  k) ?_
  show Go p e below _ (T4.setTop (mkF m 44 #[.val (.int p1), .val (.int p2), .val (.int p3), .val (.int p4), .val (.long q5), .second, .val (.int p6), .val (.int (p1 &&& (3 : Int32))), .val (.int sp), .val (.int lo), .val (.int hi), .unset, .unset, .unset, .unset, .unset, .unset, .unset, .unset, .unset, .unset, .unset, .unset] [(.int hi), (.int (((p2 + p3) + p4) - lo))]))
  refine go (fun _ k => XS.isub X4.here hx rfl (hb hby at_44) rfl k) ?_
  show Go p e below _ (T4.setTop (mkF m 45 #[.val (.int p1), .val (.int p2), .val (.int p3), .val (.int p4), .val (.long q5), .second, .val (.int p6), .val (.int (p1 &&& (3 : Int32))), .val (.int sp), .val (.int lo), .val (.int hi), .unset, .unset, .unset, .unset, .unset, .unset, .unset, .unset, .unset, .unset, .unset, .unset] [(.int ((((p2 + p3) + p4) - lo) - hi))]))
  refine go (fun _ k => XS.istore X4.here hx rfl (hb hby at_45) rfl (l' := #[.val (.int p1), .val (.int p2), .val (.int p3), .val (.int p4), .val (.long q5), .second, .val (.int p6), .val (.int (p1 &&& (3 : Int32))), .val (.int sp), .val (.int lo), .val (.int hi), .val (.int ((((p2 + p3) + p4) - lo) - hi)), .unset, .unset, .unset, .unset, .unset, .unset, .unset, .unset, .unset, .unset, .unset]) rfl k) ?_
  show Go p e below _ (T4.setTop (mkF m 47 #[.val (.int p1), .val (.int p2), .val (.int p3), .val (.int p4), .val (.long q5), .second, .val (.int p6), .val (.int (p1 &&& (3 : Int32))), .val (.int sp), .val (.int lo), .val (.int hi), .val (.int ((((p2 + p3) + p4) - lo) - hi)), .unset, .unset, .unset, .unset, .unset, .unset, .unset, .unset, .unset, .unset, .unset] []))
  generalize hmid : ((((p2 + p3) + p4) - lo) - hi) = mid
  show Go p e below _ (T4.setTop (mkF m 47 #[.val (.int p1), .val (.int p2), .val (.int p3), .val (.int p4), .val (.long q5), .second, .val (.int p6), .val (.int (p1 &&& (3 : Int32))), .val (.int sp), .val (.int lo), .val (.int hi), .val (.int mid), .unset, .unset, .unset, .unset, .unset, .unset, .unset, .unset, .unset, .unset, .unset] []))
  rcases own_k p1 with hk | hk | hk | hk
  · skip
    rw [hk]
    show Go p e below _ (T4.setTop (mkF m 47 #[.val (.int p1), .val (.int p2), .val (.int p3), .val (.int p4), .val (.long q5), .second, .val (.int p6), .val (.int (0 : Int32)), .val (.int sp), .val (.int lo), .val (.int hi), .val (.int mid), .unset, .unset, .unset, .unset, .unset, .unset, .unset, .unset, .unset, .unset, .unset] []))
    refine go (fun _ k => XS.iload X4.here hx rfl (hb hby at_47) rfl  k) ?_
    show Go p e below _ (T4.setTop (mkF m 49 #[.val (.int p1), .val (.int p2), .val (.int p3), .val (.int p4), .val (.long q5), .second, .val (.int p6), .val (.int (0 : Int32)), .val (.int sp), .val (.int lo), .val (.int hi), .val (.int mid), .unset, .unset, .unset, .unset, .unset, .unset, .unset, .unset, .unset, .unset, .unset] [(.int (0 : Int32))]))
    refine go (fun _ k => XS.iconst X4.here hx rfl (hb hby at_49) k) ?_
    show Go p e below _ (T4.setTop (mkF m 50 #[.val (.int p1), .val (.int p2), .val (.int p3), .val (.int p4), .val (.long q5), .second, .val (.int p6), .val (.int (0 : Int32)), .val (.int sp), .val (.int lo), .val (.int hi), .val (.int mid), .unset, .unset, .unset, .unset, .unset, .unset, .unset, .unset, .unset, .unset, .unset] [(.int (2 : Int32)), (.int (0 : Int32))]))
    refine go (fun _ k => XS.icmpYes X4.here hx rfl (pc0 := 50) (pc' := 62) rfl (hb hby at_50) rfl (tlt (by decide : (0 : Int32) < (2 : Int32))).1 (by decide) (by decide) k) ?_
    show Go p e below _ (T4.setTop (mkF m 62 #[.val (.int p1), .val (.int p2), .val (.int p3), .val (.int p4), .val (.long q5), .second, .val (.int p6), .val (.int (0 : Int32)), .val (.int sp), .val (.int lo), .val (.int hi), .val (.int mid), .unset, .unset, .unset, .unset, .unset, .unset, .unset, .unset, .unset, .unset, .unset] []))
    refine go (fun _ k => XS.iload X4.here hx rfl (hb hby at_62) rfl  k) ?_
    show Go p e below _ (T4.setTop (mkF m 64 #[.val (.int p1), .val (.int p2), .val (.int p3), .val (.int p4), .val (.long q5), .second, .val (.int p6), .val (.int (0 : Int32)), .val (.int sp), .val (.int lo), .val (.int hi), .val (.int mid), .unset, .unset, .unset, .unset, .unset, .unset, .unset, .unset, .unset, .unset, .unset] [(.int (0 : Int32))]))
    refine go (fun _ k => XS.iconst X4.here hx rfl (hb hby at_64) k) ?_
    show Go p e below _ (T4.setTop (mkF m 65 #[.val (.int p1), .val (.int p2), .val (.int p3), .val (.int p4), .val (.long q5), .second, .val (.int p6), .val (.int (0 : Int32)), .val (.int sp), .val (.int lo), .val (.int hi), .val (.int mid), .unset, .unset, .unset, .unset, .unset, .unset, .unset, .unset, .unset, .unset, .unset] [(.int (3 : Int32)), (.int (0 : Int32))]))
    refine go (fun _ k => XS.icmpYes X4.here hx rfl (pc0 := 65) (pc' := 77) rfl (hb hby at_65) rfl (feq (by decide : ¬ ((0 : Int32) = (3 : Int32)))).2 (by decide) (by decide) k) ?_
    show Go p e below _ (T4.setTop (mkF m 77 #[.val (.int p1), .val (.int p2), .val (.int p3), .val (.int p4), .val (.long q5), .second, .val (.int p6), .val (.int (0 : Int32)), .val (.int sp), .val (.int lo), .val (.int hi), .val (.int mid), .unset, .unset, .unset, .unset, .unset, .unset, .unset, .unset, .unset, .unset, .unset] []))
    refine go (fun _ k => XS.lload X4.here hx rfl (hb hby at_77) rfl  k) ?_
    show Go p e below _ (T4.setTop (mkF m 79 #[.val (.int p1), .val (.int p2), .val (.int p3), .val (.int p4), .val (.long q5), .second, .val (.int p6), .val (.int (0 : Int32)), .val (.int sp), .val (.int lo), .val (.int hi), .val (.int mid), .unset, .unset, .unset, .unset, .unset, .unset, .unset, .unset, .unset, .unset, .unset] [(.long q5)]))
    refine go (fun _ k => XS.l2i X4.here hx rfl (hb hby at_79) rfl k) ?_
    show Go p e below _ (T4.setTop (mkF m 80 #[.val (.int p1), .val (.int p2), .val (.int p3), .val (.int p4), .val (.long q5), .second, .val (.int p6), .val (.int (0 : Int32)), .val (.int sp), .val (.int lo), .val (.int hi), .val (.int mid), .unset, .unset, .unset, .unset, .unset, .unset, .unset, .unset, .unset, .unset, .unset] [(.int (q5.toInt32))]))
    refine go (fun _ k => XS.i2dS X4.here hx rfl (hb hby at_80) rfl rfl k) ?_
    show Go p e below _ (T4.setTop (mkF m 81 #[.val (.int p1), .val (.int p2), .val (.int p3), .val (.int p4), .val (.long q5), .second, .val (.int p6), .val (.int (0 : Int32)), .val (.int sp), .val (.int lo), .val (.int hi), .val (.int mid), .unset, .unset, .unset, .unset, .unset, .unset, .unset, .unset, .unset, .unset, .unset] [(.double (FP.i2d (q5.toInt32)))]))
    refine go (fun _ k => XS.dstore X4.here hx rfl (hb hby at_81) rfl (l' := #[.val (.int p1), .val (.int p2), .val (.int p3), .val (.int p4), .val (.long q5), .second, .val (.int p6), .val (.int (0 : Int32)), .val (.int sp), .val (.int lo), .val (.int hi), .val (.int mid), .val (.double (FP.i2d (q5.toInt32))), .second, .unset, .unset, .unset, .unset, .unset, .unset, .unset, .unset, .unset]) rfl k) ?_
    show Go p e below _ (T4.setTop (mkF m 83 #[.val (.int p1), .val (.int p2), .val (.int p3), .val (.int p4), .val (.long q5), .second, .val (.int p6), .val (.int (0 : Int32)), .val (.int sp), .val (.int lo), .val (.int hi), .val (.int mid), .val (.double (FP.i2d (q5.toInt32))), .second, .unset, .unset, .unset, .unset, .unset, .unset, .unset, .unset, .unset] []))
    have nn0 := own_nan (q5.toInt32)
    generalize hs0 : (FP.i2d (q5.toInt32)) = s0 at nn0 ⊢
    show Go p e below _ (T4.setTop (mkF m 83 #[.val (.int p1), .val (.int p2), .val (.int p3), .val (.int p4), .val (.long q5), .second, .val (.int p6), .val (.int (0 : Int32)), .val (.int sp), .val (.int lo), .val (.int hi), .val (.int mid), .val (.double s0), .second, .unset, .unset, .unset, .unset, .unset, .unset, .unset, .unset, .unset] []))
    refine go (fun _ k => XS.lload X4.here hx rfl (hb hby at_83) rfl  k) ?_
    show Go p e below _ (T4.setTop (mkF m 85 #[.val (.int p1), .val (.int p2), .val (.int p3), .val (.int p4), .val (.long q5), .second, .val (.int p6), .val (.int (0 : Int32)), .val (.int sp), .val (.int lo), .val (.int hi), .val (.int mid), .val (.double s0), .second, .unset, .unset, .unset, .unset, .unset, .unset, .unset, .unset, .unset] [(.long q5)]))
    refine go (fun _ k => XS.bipush X4.here hx rfl (hb hby at_85) k) ?_
    show Go p e below _ (T4.setTop (mkF m 87 #[.val (.int p1), .val (.int p2), .val (.int p3), .val (.int p4), .val (.long q5), .second, .val (.int p6), .val (.int (0 : Int32)), .val (.int sp), .val (.int lo), .val (.int hi), .val (.int mid), .val (.double s0), .second, .unset, .unset, .unset, .unset, .unset, .unset, .unset, .unset, .unset] [(.int (32 : Int32)), (.long q5)]))
    refine go (fun _ k => XS.lshr X4.here hx rfl (hb hby at_87) rfl k) ?_
    show Go p e below _ (T4.setTop (mkF m 88 #[.val (.int p1), .val (.int p2), .val (.int p3), .val (.int p4), .val (.long q5), .second, .val (.int p6), .val (.int (0 : Int32)), .val (.int sp), .val (.int lo), .val (.int hi), .val (.int mid), .val (.double s0), .second, .unset, .unset, .unset, .unset, .unset, .unset, .unset, .unset, .unset] [(.long (q5 >>> ((32 : Int32) &&& 0x3f).toInt64))]))
    refine go (fun _ k => XS.l2i X4.here hx rfl (hb hby at_88) rfl k) ?_
    show Go p e below _ (T4.setTop (mkF m 89 #[.val (.int p1), .val (.int p2), .val (.int p3), .val (.int p4), .val (.long q5), .second, .val (.int p6), .val (.int (0 : Int32)), .val (.int sp), .val (.int lo), .val (.int hi), .val (.int mid), .val (.double s0), .second, .unset, .unset, .unset, .unset, .unset, .unset, .unset, .unset, .unset] [(.int ((q5 >>> ((32 : Int32) &&& 0x3f).toInt64).toInt32))]))
    refine go (fun _ k => XS.i2dS X4.here hx rfl (hb hby at_89) rfl rfl k) ?_
    show Go p e below _ (T4.setTop (mkF m 90 #[.val (.int p1), .val (.int p2), .val (.int p3), .val (.int p4), .val (.long q5), .second, .val (.int p6), .val (.int (0 : Int32)), .val (.int sp), .val (.int lo), .val (.int hi), .val (.int mid), .val (.double s0), .second, .unset, .unset, .unset, .unset, .unset, .unset, .unset, .unset, .unset] [(.double (FP.i2d ((q5 >>> ((32 : Int32) &&& 0x3f).toInt64).toInt32)))]))
    refine go (fun _ k => XS.dstore X4.here hx rfl (hb hby at_90) rfl (l' := #[.val (.int p1), .val (.int p2), .val (.int p3), .val (.int p4), .val (.long q5), .second, .val (.int p6), .val (.int (0 : Int32)), .val (.int sp), .val (.int lo), .val (.int hi), .val (.int mid), .val (.double s0), .second, .val (.double (FP.i2d ((q5 >>> ((32 : Int32) &&& 0x3f).toInt64).toInt32))), .second, .unset, .unset, .unset, .unset, .unset, .unset, .unset]) rfl k) ?_
    show Go p e below _ (T4.setTop (mkF m 92 #[.val (.int p1), .val (.int p2), .val (.int p3), .val (.int p4), .val (.long q5), .second, .val (.int p6), .val (.int (0 : Int32)), .val (.int sp), .val (.int lo), .val (.int hi), .val (.int mid), .val (.double s0), .second, .val (.double (FP.i2d ((q5 >>> ((32 : Int32) &&& 0x3f).toInt64).toInt32))), .second, .unset, .unset, .unset, .unset, .unset, .unset, .unset] []))
    have nn1 := own_nan ((q5 >>> ((32 : Int32) &&& 0x3f).toInt64).toInt32)
    generalize hs1 : (FP.i2d ((q5 >>> ((32 : Int32) &&& 0x3f).toInt64).toInt32)) = s1 at nn1 ⊢
    show Go p e below _ (T4.setTop (mkF m 92 #[.val (.int p1), .val (.int p2), .val (.int p3), .val (.int p4), .val (.long q5), .second, .val (.int p6), .val (.int (0 : Int32)), .val (.int sp), .val (.int lo), .val (.int hi), .val (.int mid), .val (.double s0), .second, .val (.double s1), .second, .unset, .unset, .unset, .unset, .unset, .unset, .unset] []))
    refine go (fun _ k => XS.iloadN X4.here hx rfl (hb hby at_92) rfl  k) ?_
    show Go p e below _ (T4.setTop (mkF m 93 #[.val (.int p1), .val (.int p2), .val (.int p3), .val (.int p4), .val (.long q5), .second, .val (.int p6), .val (.int (0 : Int32)), .val (.int sp), .val (.int lo), .val (.int hi), .val (.int mid), .val (.double s0), .second, .val (.double s1), .second, .unset, .unset, .unset, .unset, .unset, .unset, .unset] [(.int p1)]))
    refine go (fun _ k => XS.iconst X4.here hx rfl (hb hby at_93) k) ?_
    show Go p e below _ (T4.setTop (mkF m 94 #[.val (.int p1), .val (.int p2), .val (.int p3), .val (.int p4), .val (.long q5), .second, .val (.int p6), .val (.int (0 : Int32)), .val (.int sp), .val (.int lo), .val (.int hi), .val (.int mid), .val (.double s0), .second, .val (.double s1), .second, .unset, .unset, .unset, .unset, .unset, .unset, .unset] [(.int (3 : Int32)), (.int p1)]))
    refine go (fun _ k => XS.iushr X4.here hx rfl (hb hby at_94) rfl k) ?_
    show Go p e below _ (T4.setTop (mkF m 95 #[.val (.int p1), .val (.int p2), .val (.int p3), .val (.int p4), .val (.long q5), .second, .val (.int p6), .val (.int (0 : Int32)), .val (.int sp), .val (.int lo), .val (.int hi), .val (.int mid), .val (.double s0), .second, .val (.double s1), .second, .unset, .unset, .unset, .unset, .unset, .unset, .unset] [(.int ((p1.toUInt32 >>> ((3 : Int32) &&& 31).toUInt32).toInt32))]))
    refine go (fun _ k => XS.iconst X4.here hx rfl (hb hby at_95) k) ?_
    show Go p e below _ (T4.setTop (mkF m 96 #[.val (.int p1), .val (.int p2), .val (.int p3), .val (.int p4), .val (.long q5), .second, .val (.int p6), .val (.int (0 : Int32)), .val (.int sp), .val (.int lo), .val (.int hi), .val (.int mid), .val (.double s0), .second, .val (.double s1), .second, .unset, .unset, .unset, .unset, .unset, .unset, .unset] [(.int (1 : Int32)), (.int ((p1.toUInt32 >>> ((3 : Int32) &&& 31).toUInt32).toInt32))]))
    refine go (fun _ k => XS.iand X4.here hx rfl (hb hby at_96) rfl k) ?_
    show Go p e below _ (T4.setTop (mkF m 97 #[.val (.int p1), .val (.int p2), .val (.int p3), .val (.int p4), .val (.long q5), .second, .val (.int p6), .val (.int (0 : Int32)), .val (.int sp), .val (.int lo), .val (.int hi), .val (.int mid), .val (.double s0), .second, .val (.double s1), .second, .unset, .unset, .unset, .unset, .unset, .unset, .unset] [(.int (((p1.toUInt32 >>> ((3 : Int32) &&& 31).toUInt32).toInt32) &&& (1 : Int32)))]))
    have J109_5 : ∀ (v109_2 : UInt64), v109_2 = (if (((p1.toUInt32 >>> ((3 : Int32) &&& 31).toUInt32).toInt32) &&& (1 : Int32)) = (0 : Int32) then (FP.i2d p6) else (18442240474082181120 : UInt64)) → Go p e below (PP s below (Q0 Z p1 p2 p3 p4 q5 p6 h0 n0) room_1.cells room_1.slots) (T4.setTop (mkF m 109 #[.val (.int p1), .val (.int p2), .val (.int p3), .val (.int p4), .val (.long q5), .second, .val (.int p6), .val (.int (0 : Int32)), .val (.int sp), .val (.int lo), .val (.int hi), .val (.int mid), .val (.double s0), .second, .val (.double s1), .second, .unset, .unset, .unset, .unset, .unset, .unset, .unset] [(.double v109_2)])) := by
      intro v109_2 hv109_2
      show Go p e below _ (T4.setTop (mkF m 109 #[.val (.int p1), .val (.int p2), .val (.int p3), .val (.int p4), .val (.long q5), .second, .val (.int p6), .val (.int (0 : Int32)), .val (.int sp), .val (.int lo), .val (.int hi), .val (.int mid), .val (.double s0), .second, .val (.double s1), .second, .unset, .unset, .unset, .unset, .unset, .unset, .unset] [(.double v109_2)]))
      refine go (fun _ k => XS.dstore X4.here hx rfl (hb hby at_109) rfl (l' := #[.val (.int p1), .val (.int p2), .val (.int p3), .val (.int p4), .val (.long q5), .second, .val (.int p6), .val (.int (0 : Int32)), .val (.int sp), .val (.int lo), .val (.int hi), .val (.int mid), .val (.double s0), .second, .val (.double s1), .second, .val (.double v109_2), .second, .unset, .unset, .unset, .unset, .unset]) rfl k) ?_
      show Go p e below _ (T4.setTop (mkF m 111 #[.val (.int p1), .val (.int p2), .val (.int p3), .val (.int p4), .val (.long q5), .second, .val (.int p6), .val (.int (0 : Int32)), .val (.int sp), .val (.int lo), .val (.int hi), .val (.int mid), .val (.double s0), .second, .val (.double s1), .second, .val (.double v109_2), .second, .unset, .unset, .unset, .unset, .unset] []))
      have nn2 : Jvm.Free.Fl.NoNaN64 v109_2 := by rw [hv109_2]; split; exact own_nan _; exact own_ninf
      obtain ⟨T6, h6, X6, e6, E6, A6, D6, -, st6⟩ := newO X4 hx hZ hown (hw _ (List.mem_of_getElem? (i := 7) rfl)) (hw _ (List.mem_of_getElem? (i := 8) rfl)) (hw _ (List.mem_of_getElem? (i := 9) rfl)) e4 (g := (mkF m 111 #[.val (.int p1), .val (.int p2), .val (.int p3), .val (.int p4), .val (.long q5), .second, .val (.int p6), .val (.int (0 : Int32)), .val (.int sp), .val (.int lo), .val (.int hi), .val (.int mid), .val (.double s0), .second, .val (.double s1), .second, .val (.double v109_2), .second, .unset, .unset, .unset, .unset, .unset] [])) rfl (hb hby at_111) (by decide) (by decide)
      obtain ⟨b6, g6⟩ : ∃ z, z = h0.size := ⟨_, rfl⟩
      rw [← g6] at A6 D6 st6
      have sz_b6 : h0.size ≤ b6 := Nat.le_trans (Keep.refl h0 []).1 (Nat.le_of_eq g6.symm)
      have g_b6 : n0 ≤ b6 := Nat.le_trans Z0 sz_b6
      have F_elements_b6 : Fld Z h6 b6 "com/example/drienerlo/drienerlo/retrieval/Scored$Builder" "elements" "[I" .null := D6 (Or.inr (hw _ (List.mem_of_getElem? (i := 18) rfl))) (ty := (.array .int)) (by decide)
      have F_scores_b6 : Fld Z h6 b6 "com/example/drienerlo/drienerlo/retrieval/Scored$Builder" "scores" "[D" .null := D6 (Or.inr (hw _ (List.mem_of_getElem? (i := 21) rfl))) (ty := (.array .double)) (by decide)
      have F_size_b6 : Fld Z h6 b6 "com/example/drienerlo/drienerlo/retrieval/Scored$Builder" "size" "I" (.int (0 : Int32)) := D6 (Or.inl (hw _ (List.mem_of_getElem? (i := 31) rfl))) (ty := .int) (by decide)
      refine go st6 ?_
      show Go p e below _ (T6.setTop (mkF m 114 #[.val (.int p1), .val (.int p2), .val (.int p3), .val (.int p4), .val (.long q5), .second, .val (.int p6), .val (.int (0 : Int32)), .val (.int sp), .val (.int lo), .val (.int hi), .val (.int mid), .val (.double s0), .second, .val (.double s1), .second, .val (.double v109_2), .second, .unset, .unset, .unset, .unset, .unset] [(.ref b6)]))
      refine go (fun _ k => XS.dup X6.here hx rfl (hb hby at_114) rfl rfl k) ?_
      show Go p e below _ (T6.setTop (mkF m 115 #[.val (.int p1), .val (.int p2), .val (.int p3), .val (.int p4), .val (.long q5), .second, .val (.int p6), .val (.int (0 : Int32)), .val (.int sp), .val (.int lo), .val (.int hi), .val (.int mid), .val (.double s0), .second, .val (.double s1), .second, .val (.double v109_2), .second, .unset, .unset, .unset, .unset, .unset] [(.ref b6), (.ref b6)]))
      refine go (fun _ k => XS.iload X6.here hx rfl (hb hby at_115) rfl  k) ?_
      show Go p e below _ (T6.setTop (mkF m 117 #[.val (.int p1), .val (.int p2), .val (.int p3), .val (.int p4), .val (.long q5), .second, .val (.int p6), .val (.int (0 : Int32)), .val (.int sp), .val (.int lo), .val (.int hi), .val (.int mid), .val (.double s0), .second, .val (.double s1), .second, .val (.double v109_2), .second, .unset, .unset, .unset, .unset, .unset] [(.int (0 : Int32)), (.ref b6), (.ref b6)]))
      refine go (fun _ k => XS.iload X6.here hx rfl (hb hby at_117) rfl  k) ?_
      show Go p e below _ (T6.setTop (mkF m 119 #[.val (.int p1), .val (.int p2), .val (.int p3), .val (.int p4), .val (.long q5), .second, .val (.int p6), .val (.int (0 : Int32)), .val (.int sp), .val (.int lo), .val (.int hi), .val (.int mid), .val (.double s0), .second, .val (.double s1), .second, .val (.double v109_2), .second, .unset, .unset, .unset, .unset, .unset] [(.int sp), (.int (0 : Int32)), (.ref b6), (.ref b6)]))
      refine go (fun _ k => XS.iadd X6.here hx rfl (hb hby at_119) rfl k) ?_
      show Go p e below _ (T6.setTop (mkF m 120 #[.val (.int p1), .val (.int p2), .val (.int p3), .val (.int p4), .val (.long q5), .second, .val (.int p6), .val (.int (0 : Int32)), .val (.int sp), .val (.int lo), .val (.int hi), .val (.int mid), .val (.double s0), .second, .val (.double s1), .second, .val (.double v109_2), .second, .unset, .unset, .unset, .unset, .unset] [(.int ((0 : Int32) + sp)), (.ref b6), (.ref b6)]))
      have hn := own_cap (K := 0) (k := (0 : Int32)) (by decide) (by decide) (by decide) hsp
      generalize hN : ((0 : Int32) + sp) = n at hn ⊢
      show Go p e below _ (T6.setTop (mkF m 120 #[.val (.int p1), .val (.int p2), .val (.int p3), .val (.int p4), .val (.long q5), .second, .val (.int p6), .val (.int (0 : Int32)), .val (.int sp), .val (.int lo), .val (.int hi), .val (.int mid), .val (.double s0), .second, .val (.double s1), .second, .val (.double v109_2), .second, .unset, .unset, .unset, .unset, .unset] [(.int n), (.ref b6), (.ref b6)]))
      have K8 : Keep h0 h6 [] := ((Keep.refl h0 []).ext E6)
      obtain ⟨_, _, ⟨T7, L7, k7, n7⟩, -, X7, ⟨Lc7, hQ7, l7, y7, z7⟩, st7⟩ := X6.specialBack hx (y := (⟨"com/example/drienerlo/drienerlo/retrieval/Scored$Builder", "<init>", "(I)V"⟩ : MethodName)) rfl hown (mvT hZ (hw _ (List.mem_of_getElem? (i := 10) rfl))) (mvT hZ (hw _ (List.mem_of_getElem? (i := 11) rfl))) (mvT hZ (hw _ (List.mem_of_getElem? (i := 12) rfl))) (by decide) (backOf (W := 1) (rm3 l Z a0 hw [] b6 n .null .null (0 : Int32) h6 n0 (Nat.le_trans Z0 K8.1) A6 g_b6 F_elements_b6 F_scores_b6 F_size_b6 (⟨by omega, hn.2⟩ : 0 ≤ n.toInt ∧ n.toInt ≤ 4)) hZ (hw _ (List.mem_of_getElem? (i := 12) rfl)) (hw _ (List.mem_of_getElem? (i := 9) rfl)) (by decide) (by decide)) (g := (mkF m 120 #[.val (.int p1), .val (.int p2), .val (.int p3), .val (.int p4), .val (.long q5), .second, .val (.int p6), .val (.int (0 : Int32)), .val (.int sp), .val (.int lo), .val (.int hi), .val (.int mid), .val (.double s0), .second, .val (.double s1), .second, .val (.double v109_2), .second, .unset, .unset, .unset, .unset, .unset] [(.int n), (.ref b6), (.ref b6)])) rfl (by rw [hml]; rfl) (Steps.refl _) (a := b6) (argsL := [(.int n)]) (rest := [(.ref b6)]) (lenOf pd_4 rfl) rfl (by show 2 * 0 + _ ≤ _; exact Nat.le_of_eq rfl) (hb hby at_120) (fun _ _ => ⟨rfl, e6, (by decide : 1 + 2 ≤ _), (by decide : 3 + 8 ≤ _)⟩)
      dsimp only [Pt.U, Pt.locs, Pt.cells, Pt.slots] at X7 l7 y7 z7 st7 hQ7
      subst l7 y7 z7
      obtain ⟨be_7, ke_7, bd_7, kd_7, rfl, N7q, r7_0, r7_1, r7_2, r7_3, r7_4, r7_5, r7_6, r7_7, r7_8, r7_9, r7_10, r7_11⟩ := hQ7
      have N7 := Fr.app N4 N7q
      have sz_be_7 : h0.size ≤ be_7 := Nat.le_trans K8.1 r7_1
      have g_be_7 : n0 ≤ be_7 := Nat.le_trans Z0 sz_be_7
      have sz_bd_7 : h0.size ≤ bd_7 := Nat.le_trans K8.1 r7_2
      have g_bd_7 : n0 ≤ bd_7 := Nat.le_trans Z0 sz_bd_7
      refine go (fun _ k => st7.trans k) ?_
      show Go p e below _ (T7.setTop (mkF m 123 #[.val (.int p1), .val (.int p2), .val (.int p3), .val (.int p4), .val (.long q5), .second, .val (.int p6), .val (.int (0 : Int32)), .val (.int sp), .val (.int lo), .val (.int hi), .val (.int mid), .val (.double s0), .second, .val (.double s1), .second, .val (.double v109_2), .second, .unset, .unset, .unset, .unset, .unset] [(.ref b6)]))
      refine go (fun _ k => XS.astore X7.here hx rfl (hb hby at_123) rfl rfl (l' := #[.val (.int p1), .val (.int p2), .val (.int p3), .val (.int p4), .val (.long q5), .second, .val (.int p6), .val (.int (0 : Int32)), .val (.int sp), .val (.int lo), .val (.int hi), .val (.int mid), .val (.double s0), .second, .val (.double s1), .second, .val (.double v109_2), .second, .val (.ref b6), .unset, .unset, .unset, .unset]) rfl k) ?_
      show Go p e below _ (T7.setTop (mkF m 125 #[.val (.int p1), .val (.int p2), .val (.int p3), .val (.int p4), .val (.long q5), .second, .val (.int p6), .val (.int (0 : Int32)), .val (.int sp), .val (.int lo), .val (.int hi), .val (.int mid), .val (.double s0), .second, .val (.double s1), .second, .val (.double v109_2), .second, .val (.ref b6), .unset, .unset, .unset, .unset] []))
      refine go (fun _ k => XS.iload X7.here hx rfl (hb hby at_125) rfl  k) ?_
      show Go p e below _ (T7.setTop (mkF m 127 #[.val (.int p1), .val (.int p2), .val (.int p3), .val (.int p4), .val (.long q5), .second, .val (.int p6), .val (.int (0 : Int32)), .val (.int sp), .val (.int lo), .val (.int hi), .val (.int mid), .val (.double s0), .second, .val (.double s1), .second, .val (.double v109_2), .second, .val (.ref b6), .unset, .unset, .unset, .unset] [(.int (0 : Int32))]))
      refine go (fun _ k => XS.iconst X7.here hx rfl (hb hby at_127) k) ?_
      show Go p e below _ (T7.setTop (mkF m 128 #[.val (.int p1), .val (.int p2), .val (.int p3), .val (.int p4), .val (.long q5), .second, .val (.int p6), .val (.int (0 : Int32)), .val (.int sp), .val (.int lo), .val (.int hi), .val (.int mid), .val (.double s0), .second, .val (.double s1), .second, .val (.double v109_2), .second, .val (.ref b6), .unset, .unset, .unset, .unset] [(.int (1 : Int32)), (.int (0 : Int32))]))
      refine go (fun _ k => XS.icmpYes X7.here hx rfl (pc0 := 128) (pc' := 140) rfl (hb hby at_128) rfl (tlt (by decide : (0 : Int32) < (1 : Int32))).1 (by decide) (by decide) k) ?_
      show Go p e below _ (T7.setTop (mkF m 140 #[.val (.int p1), .val (.int p2), .val (.int p3), .val (.int p4), .val (.long q5), .second, .val (.int p6), .val (.int (0 : Int32)), .val (.int sp), .val (.int lo), .val (.int hi), .val (.int mid), .val (.double s0), .second, .val (.double s1), .second, .val (.double v109_2), .second, .val (.ref b6), .unset, .unset, .unset, .unset] []))
      refine go (fun _ k => XS.iload X7.here hx rfl (hb hby at_140) rfl  k) ?_
      show Go p e below _ (T7.setTop (mkF m 142 #[.val (.int p1), .val (.int p2), .val (.int p3), .val (.int p4), .val (.long q5), .second, .val (.int p6), .val (.int (0 : Int32)), .val (.int sp), .val (.int lo), .val (.int hi), .val (.int mid), .val (.double s0), .second, .val (.double s1), .second, .val (.double v109_2), .second, .val (.ref b6), .unset, .unset, .unset, .unset] [(.int (0 : Int32))]))
      refine go (fun _ k => XS.iconst X7.here hx rfl (hb hby at_142) k) ?_
      show Go p e below _ (T7.setTop (mkF m 143 #[.val (.int p1), .val (.int p2), .val (.int p3), .val (.int p4), .val (.long q5), .second, .val (.int p6), .val (.int (0 : Int32)), .val (.int sp), .val (.int lo), .val (.int hi), .val (.int mid), .val (.double s0), .second, .val (.double s1), .second, .val (.double v109_2), .second, .val (.ref b6), .unset, .unset, .unset, .unset] [(.int (2 : Int32)), (.int (0 : Int32))]))
      refine go (fun _ k => XS.icmpYes X7.here hx rfl (pc0 := 143) (pc' := 155) rfl (hb hby at_143) rfl (tlt (by decide : (0 : Int32) < (2 : Int32))).1 (by decide) (by decide) k) ?_
      show Go p e below _ (T7.setTop (mkF m 155 #[.val (.int p1), .val (.int p2), .val (.int p3), .val (.int p4), .val (.long q5), .second, .val (.int p6), .val (.int (0 : Int32)), .val (.int sp), .val (.int lo), .val (.int hi), .val (.int mid), .val (.double s0), .second, .val (.double s1), .second, .val (.double v109_2), .second, .val (.ref b6), .unset, .unset, .unset, .unset] []))
      refine go (fun _ k => XS.iload X7.here hx rfl (hb hby at_155) rfl  k) ?_
      show Go p e below _ (T7.setTop (mkF m 157 #[.val (.int p1), .val (.int p2), .val (.int p3), .val (.int p4), .val (.long q5), .second, .val (.int p6), .val (.int (0 : Int32)), .val (.int sp), .val (.int lo), .val (.int hi), .val (.int mid), .val (.double s0), .second, .val (.double s1), .second, .val (.double v109_2), .second, .val (.ref b6), .unset, .unset, .unset, .unset] [(.int (0 : Int32))]))
      refine go (fun _ k => XS.iconst X7.here hx rfl (hb hby at_157) k) ?_
      show Go p e below _ (T7.setTop (mkF m 158 #[.val (.int p1), .val (.int p2), .val (.int p3), .val (.int p4), .val (.long q5), .second, .val (.int p6), .val (.int (0 : Int32)), .val (.int sp), .val (.int lo), .val (.int hi), .val (.int mid), .val (.double s0), .second, .val (.double s1), .second, .val (.double v109_2), .second, .val (.ref b6), .unset, .unset, .unset, .unset] [(.int (3 : Int32)), (.int (0 : Int32))]))
      refine go (fun _ k => XS.icmpYes X7.here hx rfl (pc0 := 158) (pc' := 170) rfl (hb hby at_158) rfl (tlt (by decide : (0 : Int32) < (3 : Int32))).1 (by decide) (by decide) k) ?_
      show Go p e below _ (T7.setTop (mkF m 170 #[.val (.int p1), .val (.int p2), .val (.int p3), .val (.int p4), .val (.long q5), .second, .val (.int p6), .val (.int (0 : Int32)), .val (.int sp), .val (.int lo), .val (.int hi), .val (.int mid), .val (.double s0), .second, .val (.double s1), .second, .val (.double v109_2), .second, .val (.ref b6), .unset, .unset, .unset, .unset] []))
      refine go (fun _ k => XS.aload X7.here hx rfl (hb hby at_170) rfl rfl  k) ?_
      show Go p e below _ (T7.setTop (mkF m 172 #[.val (.int p1), .val (.int p2), .val (.int p3), .val (.int p4), .val (.long q5), .second, .val (.int p6), .val (.int (0 : Int32)), .val (.int sp), .val (.int lo), .val (.int hi), .val (.int mid), .val (.double s0), .second, .val (.double s1), .second, .val (.double v109_2), .second, .val (.ref b6), .unset, .unset, .unset, .unset] [(.ref b6)]))
      have K10 : Keep h0 T7.heap [] := (K8.trans r7_0 (allS (Or.inr sz_b6) all0))
      obtain ⟨cq9, kq9, q9a, q9b, q9c⟩ := isOf hZ rfl r7_4
      obtain ⟨_, _, ⟨T9, L9, k9, n9⟩, -, X9, ⟨Lc9, hQ9, l9, y9, z9⟩, st9⟩ := X7.virtualBack hx (y := (⟨"com/example/drienerlo/drienerlo/retrieval/Scored$Builder", "build", "()Lcom/example/drienerlo/drienerlo/retrieval/Scored;"⟩ : MethodName)) (z := (⟨"com/example/drienerlo/drienerlo/retrieval/Scored$Builder", "build", "()Lcom/example/drienerlo/drienerlo/retrieval/Scored;"⟩ : MethodName)) hown (mvT hZ (hw _ (List.mem_of_getElem? (i := 22) rfl))) (mvT hZ (hw _ (List.mem_of_getElem? (i := 23) rfl))) (notFace_of_selects (args := #[]) (mvT hZ (hw _ (List.mem_of_getElem? (i := 25) rfl)))) (mvT hZ (hw _ (List.mem_of_getElem? (i := 25) rfl))) (mvT hZ (hw _ (List.mem_of_getElem? (i := 24) rfl))) (by decide) (backOf (W := 0) (rm5 l Z a0 hw [] b6 be_7 ke_7 bd_7 kd_7 n ([(.int (0 : Int32)), (.int (0 : Int32)), (.int (0 : Int32)), (.int (0 : Int32))]) ([(.double (0 : UInt64)), (.double (0 : UInt64)), (.double (0 : UInt64)), (.double (0 : UInt64))]) (0 : Int32) T7.heap n0 (Nat.le_trans Z0 K10.1) r7_4 r7_5 r7_6 r7_7 r7_8 r7_9 r7_10 r7_11 (own_idz hn (by decide) (by decide) : ¬ (0 : Int32) < 0 ∧ ¬ n < (0 : Int32)) (hn.2 : n.toInt ≤ 4)) hZ (hw _ (List.mem_of_getElem? (i := 26) rfl)) (hw _ (List.mem_of_getElem? (i := 9) rfl)) (by decide) (by decide)) q9a q9c (g := (mkF m 172 #[.val (.int p1), .val (.int p2), .val (.int p3), .val (.int p4), .val (.long q5), .second, .val (.int p6), .val (.int (0 : Int32)), .val (.int sp), .val (.int lo), .val (.int hi), .val (.int mid), .val (.double s0), .second, .val (.double s1), .second, .val (.double v109_2), .second, .val (.ref b6), .unset, .unset, .unset, .unset] [(.ref b6)])) rfl (by rw [hml]; rfl) (Steps.refl _) (argsL := []) (rest := []) (lenOf pd_5 rfl) rfl (by show 2 * 0 + _ ≤ _; exact Nat.le_of_eq rfl) (hb hby at_172) (fun _ _ => ⟨rfl, rfl, (by decide : 3 + 3 ≤ _), (by decide : 11 + 10 ≤ _)⟩)
      dsimp only [Pt.U, Pt.locs, Pt.cells, Pt.slots] at X9 l9 y9 z9 st9 hQ9
      subst l9 y9 z9
      obtain ⟨r_9, e1_9, k1_9, d1_9, k2_9, rfl, N9q, r9_0, r9_1, r9_2, r9_3, r9_4, r9_5, r9_6⟩ := hQ9
      have N9 := Fr.app N7 N9q
      have sz_r_9 : h0.size ≤ r_9 := Nat.le_trans K10.1 r9_1
      have g_r_9 : n0 ≤ r_9 := Nat.le_trans Z0 sz_r_9
      skip
      refine go (fun _ k => st9.trans k) ?_
      show Go p e below _ (T9.setTop (mkF m 175 #[.val (.int p1), .val (.int p2), .val (.int p3), .val (.int p4), .val (.long q5), .second, .val (.int p6), .val (.int (0 : Int32)), .val (.int sp), .val (.int lo), .val (.int hi), .val (.int mid), .val (.double s0), .second, .val (.double s1), .second, .val (.double v109_2), .second, .val (.ref b6), .unset, .unset, .unset, .unset] [(.ref r_9)]))
      refine go (fun _ k => XS.astore X9.here hx rfl (hb hby at_175) rfl rfl (l' := #[.val (.int p1), .val (.int p2), .val (.int p3), .val (.int p4), .val (.long q5), .second, .val (.int p6), .val (.int (0 : Int32)), .val (.int sp), .val (.int lo), .val (.int hi), .val (.int mid), .val (.double s0), .second, .val (.double s1), .second, .val (.double v109_2), .second, .val (.ref b6), .val (.ref r_9), .unset, .unset, .unset]) rfl k) ?_
      show Go p e below _ (T9.setTop (mkF m 177 #[.val (.int p1), .val (.int p2), .val (.int p3), .val (.int p4), .val (.long q5), .second, .val (.int p6), .val (.int (0 : Int32)), .val (.int sp), .val (.int lo), .val (.int hi), .val (.int mid), .val (.double s0), .second, .val (.double s1), .second, .val (.double v109_2), .second, .val (.ref b6), .val (.ref r_9), .unset, .unset, .unset] []))
      refine go (fun _ k => XS.aload X9.here hx rfl (hb hby at_177) rfl rfl  k) ?_
      show Go p e below _ (T9.setTop (mkF m 179 #[.val (.int p1), .val (.int p2), .val (.int p3), .val (.int p4), .val (.long q5), .second, .val (.int p6), .val (.int (0 : Int32)), .val (.int sp), .val (.int lo), .val (.int hi), .val (.int mid), .val (.double s0), .second, .val (.double s1), .second, .val (.double v109_2), .second, .val (.ref b6), .val (.ref r_9), .unset, .unset, .unset] [(.ref r_9)]))
      have K12 : Keep h0 T9.heap [] := (K10.trans r9_0 all0)
      obtain ⟨cq11, kq11, q11a, q11b, q11c⟩ := isOf hZ rfl r9_2
      obtain ⟨_, _, ⟨T11, L11, k11, n11⟩, -, X11, ⟨Lc11, hQ11, l11, y11, z11⟩, st11⟩ := X9.virtualBack hx (y := (⟨"com/example/drienerlo/drienerlo/retrieval/Scored", "elements", "()[I"⟩ : MethodName)) (z := (⟨"com/example/drienerlo/drienerlo/retrieval/Scored", "elements", "()[I"⟩ : MethodName)) hown (mvT hZ (hw _ (List.mem_of_getElem? (i := 62) rfl))) (mvT hZ (hw _ (List.mem_of_getElem? (i := 63) rfl))) (notFace_of_selects (args := #[]) (mvT hZ (hw _ (List.mem_of_getElem? (i := 65) rfl)))) (mvT hZ (hw _ (List.mem_of_getElem? (i := 65) rfl))) (mvT hZ (hw _ (List.mem_of_getElem? (i := 64) rfl))) (by decide) (backOf (W := 0) (rm9 l Z a0 hw [] r_9 e1_9 T9.heap n0 (Nat.le_trans Z0 K12.1) r9_2 r9_3) hZ (hw _ (List.mem_of_getElem? (i := 66) rfl)) (hw _ (List.mem_of_getElem? (i := 29) rfl)) (by decide) (by decide)) q11a q11c (g := (mkF m 179 #[.val (.int p1), .val (.int p2), .val (.int p3), .val (.int p4), .val (.long q5), .second, .val (.int p6), .val (.int (0 : Int32)), .val (.int sp), .val (.int lo), .val (.int hi), .val (.int mid), .val (.double s0), .second, .val (.double s1), .second, .val (.double v109_2), .second, .val (.ref b6), .val (.ref r_9), .unset, .unset, .unset] [(.ref r_9)])) rfl (by rw [hml]; rfl) (Steps.refl _) (argsL := []) (rest := []) (lenOf pd_6 rfl) rfl (by show 2 * 0 + _ ≤ _; exact Nat.le_of_eq rfl) (hb hby at_179) (fun _ _ => ⟨rfl, rfl, (by decide : 6 + 0 ≤ _), (by decide : 21 + 0 ≤ _)⟩)
      dsimp only [Pt.U, Pt.locs, Pt.cells, Pt.slots] at X11 l11 y11 z11 st11 hQ11
      subst l11 y11 z11
      obtain ⟨rfl, N11q, e11⟩ := hQ11
      have N11 := Fr.app N9 N11q
      skip
      refine go (fun _ k => st11.trans k) ?_
      show Go p e below _ (T11.setTop (mkF m 182 #[.val (.int p1), .val (.int p2), .val (.int p3), .val (.int p4), .val (.long q5), .second, .val (.int p6), .val (.int (0 : Int32)), .val (.int sp), .val (.int lo), .val (.int hi), .val (.int mid), .val (.double s0), .second, .val (.double s1), .second, .val (.double v109_2), .second, .val (.ref b6), .val (.ref r_9), .unset, .unset, .unset] [(.ref e1_9)]))
      refine go (fun _ k => XS.astore X11.here hx rfl (hb hby at_182) rfl rfl (l' := #[.val (.int p1), .val (.int p2), .val (.int p3), .val (.int p4), .val (.long q5), .second, .val (.int p6), .val (.int (0 : Int32)), .val (.int sp), .val (.int lo), .val (.int hi), .val (.int mid), .val (.double s0), .second, .val (.double s1), .second, .val (.double v109_2), .second, .val (.ref b6), .val (.ref r_9), .val (.ref e1_9), .unset, .unset]) rfl k) ?_
      show Go p e below _ (T11.setTop (mkF m 184 #[.val (.int p1), .val (.int p2), .val (.int p3), .val (.int p4), .val (.long q5), .second, .val (.int p6), .val (.int (0 : Int32)), .val (.int sp), .val (.int lo), .val (.int hi), .val (.int mid), .val (.double s0), .second, .val (.double s1), .second, .val (.double v109_2), .second, .val (.ref b6), .val (.ref r_9), .val (.ref e1_9), .unset, .unset] []))
      refine go (fun _ k => XS.aload X11.here hx rfl (hb hby at_184) rfl rfl  k) ?_
      show Go p e below _ (T11.setTop (mkF m 186 #[.val (.int p1), .val (.int p2), .val (.int p3), .val (.int p4), .val (.long q5), .second, .val (.int p6), .val (.int (0 : Int32)), .val (.int sp), .val (.int lo), .val (.int hi), .val (.int mid), .val (.double s0), .second, .val (.double s1), .second, .val (.double v109_2), .second, .val (.ref b6), .val (.ref r_9), .val (.ref e1_9), .unset, .unset] [(.ref r_9)]))
      obtain ⟨cq13, kq13, q13a, q13b, q13c⟩ := isOf hZ e11 r9_2
      obtain ⟨_, _, ⟨T13, L13, k13, n13⟩, -, X13, ⟨Lc13, hQ13, l13, y13, z13⟩, st13⟩ := X11.virtualBack hx (y := (⟨"com/example/drienerlo/drienerlo/retrieval/Scored", "scores", "()[D"⟩ : MethodName)) (z := (⟨"com/example/drienerlo/drienerlo/retrieval/Scored", "scores", "()[D"⟩ : MethodName)) hown (mvT hZ (hw _ (List.mem_of_getElem? (i := 67) rfl))) (mvT hZ (hw _ (List.mem_of_getElem? (i := 68) rfl))) (notFace_of_selects (args := #[]) (mvT hZ (hw _ (List.mem_of_getElem? (i := 70) rfl)))) (mvT hZ (hw _ (List.mem_of_getElem? (i := 70) rfl))) (mvT hZ (hw _ (List.mem_of_getElem? (i := 69) rfl))) (by decide) (backOf (W := 0) (rm10 l Z a0 hw [] r_9 d1_9 T9.heap n0 (Nat.le_trans Z0 K12.1) r9_2 r9_4) hZ (hw _ (List.mem_of_getElem? (i := 71) rfl)) (hw _ (List.mem_of_getElem? (i := 29) rfl)) (by decide) (by decide)) q13a q13c (g := (mkF m 186 #[.val (.int p1), .val (.int p2), .val (.int p3), .val (.int p4), .val (.long q5), .second, .val (.int p6), .val (.int (0 : Int32)), .val (.int sp), .val (.int lo), .val (.int hi), .val (.int mid), .val (.double s0), .second, .val (.double s1), .second, .val (.double v109_2), .second, .val (.ref b6), .val (.ref r_9), .val (.ref e1_9), .unset, .unset] [(.ref r_9)])) rfl (by rw [hml]; rfl) (Steps.refl _) (argsL := []) (rest := []) (lenOf pd_7 rfl) rfl (by show 2 * 0 + _ ≤ _; exact Nat.le_of_eq rfl) (hb hby at_186) (fun _ _ => ⟨rfl, e11, (by decide : 6 + 0 ≤ _), (by decide : 21 + 0 ≤ _)⟩)
      dsimp only [Pt.U, Pt.locs, Pt.cells, Pt.slots] at X13 l13 y13 z13 st13 hQ13
      subst l13 y13 z13
      obtain ⟨rfl, N13q, e13⟩ := hQ13
      have N13 := Fr.app N11 N13q
      skip
      refine go (fun _ k => st13.trans k) ?_
      show Go p e below _ (T13.setTop (mkF m 189 #[.val (.int p1), .val (.int p2), .val (.int p3), .val (.int p4), .val (.long q5), .second, .val (.int p6), .val (.int (0 : Int32)), .val (.int sp), .val (.int lo), .val (.int hi), .val (.int mid), .val (.double s0), .second, .val (.double s1), .second, .val (.double v109_2), .second, .val (.ref b6), .val (.ref r_9), .val (.ref e1_9), .unset, .unset] [(.ref d1_9)]))
      refine go (fun _ k => XS.astore X13.here hx rfl (hb hby at_189) rfl rfl (l' := #[.val (.int p1), .val (.int p2), .val (.int p3), .val (.int p4), .val (.long q5), .second, .val (.int p6), .val (.int (0 : Int32)), .val (.int sp), .val (.int lo), .val (.int hi), .val (.int mid), .val (.double s0), .second, .val (.double s1), .second, .val (.double v109_2), .second, .val (.ref b6), .val (.ref r_9), .val (.ref e1_9), .val (.ref d1_9), .unset]) rfl k) ?_
      show Go p e below _ (T13.setTop (mkF m 191 #[.val (.int p1), .val (.int p2), .val (.int p3), .val (.int p4), .val (.long q5), .second, .val (.int p6), .val (.int (0 : Int32)), .val (.int sp), .val (.int lo), .val (.int hi), .val (.int mid), .val (.double s0), .second, .val (.double s1), .second, .val (.double v109_2), .second, .val (.ref b6), .val (.ref r_9), .val (.ref e1_9), .val (.ref d1_9), .unset] []))
      refine go (fun _ k => XS.aload X13.here hx rfl (hb hby at_191) rfl rfl  k) ?_
      show Go p e below _ (T13.setTop (mkF m 193 #[.val (.int p1), .val (.int p2), .val (.int p3), .val (.int p4), .val (.long q5), .second, .val (.int p6), .val (.int (0 : Int32)), .val (.int sp), .val (.int lo), .val (.int hi), .val (.int mid), .val (.double s0), .second, .val (.double s1), .second, .val (.double v109_2), .second, .val (.ref b6), .val (.ref r_9), .val (.ref e1_9), .val (.ref d1_9), .unset] [(.ref e1_9)]))
      obtain ⟨cl14, Ar14, -, S14, M14, -, -⟩ := id r9_5
      refine go (X13.arraylength hx (by rw [e13]; exact Ar14.1) (State.isArrayOf_alike hZ.alike Ar14.2.1) (g := (mkF m 193 #[.val (.int p1), .val (.int p2), .val (.int p3), .val (.int p4), .val (.long q5), .second, .val (.int p6), .val (.int (0 : Int32)), .val (.int sp), .val (.int lo), .val (.int hi), .val (.int mid), .val (.double s0), .second, .val (.double s1), .second, .val (.double v109_2), .second, .val (.ref b6), .val (.ref r_9), .val (.ref e1_9), .val (.ref d1_9), .unset] [(.ref e1_9)])) rfl rfl (hb hby at_193)) ?_
      rw [len_of S14 M14]
      show Go p e below _ (T13.setTop (mkF m 194 #[.val (.int p1), .val (.int p2), .val (.int p3), .val (.int p4), .val (.long q5), .second, .val (.int p6), .val (.int (0 : Int32)), .val (.int sp), .val (.int lo), .val (.int hi), .val (.int mid), .val (.double s0), .second, .val (.double s1), .second, .val (.double v109_2), .second, .val (.ref b6), .val (.ref r_9), .val (.ref e1_9), .val (.ref d1_9), .unset] [(.int (0 : Int32))]))
      refine go (fun _ k => XS.iload X13.here hx rfl (hb hby at_194) rfl  k) ?_
      show Go p e below _ (T13.setTop (mkF m 196 #[.val (.int p1), .val (.int p2), .val (.int p3), .val (.int p4), .val (.long q5), .second, .val (.int p6), .val (.int (0 : Int32)), .val (.int sp), .val (.int lo), .val (.int hi), .val (.int mid), .val (.double s0), .second, .val (.double s1), .second, .val (.double v109_2), .second, .val (.ref b6), .val (.ref r_9), .val (.ref e1_9), .val (.ref d1_9), .unset] [(.int (0 : Int32)), (.int (0 : Int32))]))
      refine go (fun _ k => XS.icmpNo X13.here hx rfl (hb hby at_196) rfl (teq (by decide : (0 : Int32) = (0 : Int32))).2 k) ?_
      show Go p e below _ (T13.setTop (mkF m 199 #[.val (.int p1), .val (.int p2), .val (.int p3), .val (.int p4), .val (.long q5), .second, .val (.int p6), .val (.int (0 : Int32)), .val (.int sp), .val (.int lo), .val (.int hi), .val (.int mid), .val (.double s0), .second, .val (.double s1), .second, .val (.double v109_2), .second, .val (.ref b6), .val (.ref r_9), .val (.ref e1_9), .val (.ref d1_9), .unset] []))
      refine go (fun _ k => XS.aload X13.here hx rfl (hb hby at_199) rfl rfl  k) ?_
      show Go p e below _ (T13.setTop (mkF m 201 #[.val (.int p1), .val (.int p2), .val (.int p3), .val (.int p4), .val (.long q5), .second, .val (.int p6), .val (.int (0 : Int32)), .val (.int sp), .val (.int lo), .val (.int hi), .val (.int mid), .val (.double s0), .second, .val (.double s1), .second, .val (.double v109_2), .second, .val (.ref b6), .val (.ref r_9), .val (.ref e1_9), .val (.ref d1_9), .unset] [(.ref d1_9)]))
      obtain ⟨cl15, Ar15, -, S15, M15, -, -⟩ := id r9_6
      refine go (X13.arraylength hx (by rw [e13]; exact Ar15.1) (State.isArrayOf_alike hZ.alike Ar15.2.1) (g := (mkF m 201 #[.val (.int p1), .val (.int p2), .val (.int p3), .val (.int p4), .val (.long q5), .second, .val (.int p6), .val (.int (0 : Int32)), .val (.int sp), .val (.int lo), .val (.int hi), .val (.int mid), .val (.double s0), .second, .val (.double s1), .second, .val (.double v109_2), .second, .val (.ref b6), .val (.ref r_9), .val (.ref e1_9), .val (.ref d1_9), .unset] [(.ref d1_9)])) rfl rfl (hb hby at_201)) ?_
      rw [len_of S15 M15]
      show Go p e below _ (T13.setTop (mkF m 202 #[.val (.int p1), .val (.int p2), .val (.int p3), .val (.int p4), .val (.long q5), .second, .val (.int p6), .val (.int (0 : Int32)), .val (.int sp), .val (.int lo), .val (.int hi), .val (.int mid), .val (.double s0), .second, .val (.double s1), .second, .val (.double v109_2), .second, .val (.ref b6), .val (.ref r_9), .val (.ref e1_9), .val (.ref d1_9), .unset] [(.int (0 : Int32))]))
      refine go (fun _ k => XS.iload X13.here hx rfl (hb hby at_202) rfl  k) ?_
      show Go p e below _ (T13.setTop (mkF m 204 #[.val (.int p1), .val (.int p2), .val (.int p3), .val (.int p4), .val (.long q5), .second, .val (.int p6), .val (.int (0 : Int32)), .val (.int sp), .val (.int lo), .val (.int hi), .val (.int mid), .val (.double s0), .second, .val (.double s1), .second, .val (.double v109_2), .second, .val (.ref b6), .val (.ref r_9), .val (.ref e1_9), .val (.ref d1_9), .unset] [(.int (0 : Int32)), (.int (0 : Int32))]))
      refine go (fun _ k => XS.icmpYes X13.here hx rfl (pc0 := 204) (pc' := 209) rfl (hb hby at_204) rfl (teq (by decide : (0 : Int32) = (0 : Int32))).1 (by decide) (by decide) k) ?_
      show Go p e below _ (T13.setTop (mkF m 209 #[.val (.int p1), .val (.int p2), .val (.int p3), .val (.int p4), .val (.long q5), .second, .val (.int p6), .val (.int (0 : Int32)), .val (.int sp), .val (.int lo), .val (.int hi), .val (.int mid), .val (.double s0), .second, .val (.double s1), .second, .val (.double v109_2), .second, .val (.ref b6), .val (.ref r_9), .val (.ref e1_9), .val (.ref d1_9), .unset] []))
      refine go (fun _ k => XS.iconst X13.here hx rfl (hb hby at_209) k) ?_
      show Go p e below _ (T13.setTop (mkF m 210 #[.val (.int p1), .val (.int p2), .val (.int p3), .val (.int p4), .val (.long q5), .second, .val (.int p6), .val (.int (0 : Int32)), .val (.int sp), .val (.int lo), .val (.int hi), .val (.int mid), .val (.double s0), .second, .val (.double s1), .second, .val (.double v109_2), .second, .val (.ref b6), .val (.ref r_9), .val (.ref e1_9), .val (.ref d1_9), .unset] [(.int (1 : Int32))]))
      refine go (fun _ k => XS.istore X13.here hx rfl (hb hby at_210) rfl (l' := #[.val (.int p1), .val (.int p2), .val (.int p3), .val (.int p4), .val (.long q5), .second, .val (.int p6), .val (.int (0 : Int32)), .val (.int sp), .val (.int lo), .val (.int hi), .val (.int mid), .val (.double s0), .second, .val (.double s1), .second, .val (.double v109_2), .second, .val (.ref b6), .val (.ref r_9), .val (.ref e1_9), .val (.ref d1_9), .val (.int (1 : Int32))]) rfl k) ?_
      show Go p e below _ (T13.setTop (mkF m 212 #[.val (.int p1), .val (.int p2), .val (.int p3), .val (.int p4), .val (.long q5), .second, .val (.int p6), .val (.int (0 : Int32)), .val (.int sp), .val (.int lo), .val (.int hi), .val (.int mid), .val (.double s0), .second, .val (.double s1), .second, .val (.double v109_2), .second, .val (.ref b6), .val (.ref r_9), .val (.ref e1_9), .val (.ref d1_9), .val (.int (1 : Int32))] []))
      refine go (fun _ k => XS.iload X13.here hx rfl (hb hby at_212) rfl  k) ?_
      show Go p e below _ (T13.setTop (mkF m 214 #[.val (.int p1), .val (.int p2), .val (.int p3), .val (.int p4), .val (.long q5), .second, .val (.int p6), .val (.int (0 : Int32)), .val (.int sp), .val (.int lo), .val (.int hi), .val (.int mid), .val (.double s0), .second, .val (.double s1), .second, .val (.double v109_2), .second, .val (.ref b6), .val (.ref r_9), .val (.ref e1_9), .val (.ref d1_9), .val (.int (1 : Int32))] [(.int (0 : Int32))]))
      refine go (fun _ k => XS.iconst X13.here hx rfl (hb hby at_214) k) ?_
      show Go p e below _ (T13.setTop (mkF m 215 #[.val (.int p1), .val (.int p2), .val (.int p3), .val (.int p4), .val (.long q5), .second, .val (.int p6), .val (.int (0 : Int32)), .val (.int sp), .val (.int lo), .val (.int hi), .val (.int mid), .val (.double s0), .second, .val (.double s1), .second, .val (.double v109_2), .second, .val (.ref b6), .val (.ref r_9), .val (.ref e1_9), .val (.ref d1_9), .val (.int (1 : Int32))] [(.int (1 : Int32)), (.int (0 : Int32))]))
      refine go (fun _ k => XS.icmpYes X13.here hx rfl (pc0 := 215) (pc' := 249) rfl (hb hby at_215) rfl (tlt (by decide : (0 : Int32) < (1 : Int32))).1 (by decide) (by decide) k) ?_
      show Go p e below _ (T13.setTop (mkF m 249 #[.val (.int p1), .val (.int p2), .val (.int p3), .val (.int p4), .val (.long q5), .second, .val (.int p6), .val (.int (0 : Int32)), .val (.int sp), .val (.int lo), .val (.int hi), .val (.int mid), .val (.double s0), .second, .val (.double s1), .second, .val (.double v109_2), .second, .val (.ref b6), .val (.ref r_9), .val (.ref e1_9), .val (.ref d1_9), .val (.int (1 : Int32))] []))
      refine go (fun _ k => XS.iload X13.here hx rfl (hb hby at_249) rfl  k) ?_
      show Go p e below _ (T13.setTop (mkF m 251 #[.val (.int p1), .val (.int p2), .val (.int p3), .val (.int p4), .val (.long q5), .second, .val (.int p6), .val (.int (0 : Int32)), .val (.int sp), .val (.int lo), .val (.int hi), .val (.int mid), .val (.double s0), .second, .val (.double s1), .second, .val (.double v109_2), .second, .val (.ref b6), .val (.ref r_9), .val (.ref e1_9), .val (.ref d1_9), .val (.int (1 : Int32))] [(.int (0 : Int32))]))
      refine go (fun _ k => XS.iconst X13.here hx rfl (hb hby at_251) k) ?_
      show Go p e below _ (T13.setTop (mkF m 252 #[.val (.int p1), .val (.int p2), .val (.int p3), .val (.int p4), .val (.long q5), .second, .val (.int p6), .val (.int (0 : Int32)), .val (.int sp), .val (.int lo), .val (.int hi), .val (.int mid), .val (.double s0), .second, .val (.double s1), .second, .val (.double v109_2), .second, .val (.ref b6), .val (.ref r_9), .val (.ref e1_9), .val (.ref d1_9), .val (.int (1 : Int32))] [(.int (2 : Int32)), (.int (0 : Int32))]))
      refine go (fun _ k => XS.icmpYes X13.here hx rfl (pc0 := 252) (pc' := 286) rfl (hb hby at_252) rfl (tlt (by decide : (0 : Int32) < (2 : Int32))).1 (by decide) (by decide) k) ?_
      show Go p e below _ (T13.setTop (mkF m 286 #[.val (.int p1), .val (.int p2), .val (.int p3), .val (.int p4), .val (.long q5), .second, .val (.int p6), .val (.int (0 : Int32)), .val (.int sp), .val (.int lo), .val (.int hi), .val (.int mid), .val (.double s0), .second, .val (.double s1), .second, .val (.double v109_2), .second, .val (.ref b6), .val (.ref r_9), .val (.ref e1_9), .val (.ref d1_9), .val (.int (1 : Int32))] []))
      refine go (fun _ k => XS.iload X13.here hx rfl (hb hby at_286) rfl  k) ?_
      show Go p e below _ (T13.setTop (mkF m 288 #[.val (.int p1), .val (.int p2), .val (.int p3), .val (.int p4), .val (.long q5), .second, .val (.int p6), .val (.int (0 : Int32)), .val (.int sp), .val (.int lo), .val (.int hi), .val (.int mid), .val (.double s0), .second, .val (.double s1), .second, .val (.double v109_2), .second, .val (.ref b6), .val (.ref r_9), .val (.ref e1_9), .val (.ref d1_9), .val (.int (1 : Int32))] [(.int (0 : Int32))]))
      refine go (fun _ k => XS.iconst X13.here hx rfl (hb hby at_288) k) ?_
      show Go p e below _ (T13.setTop (mkF m 289 #[.val (.int p1), .val (.int p2), .val (.int p3), .val (.int p4), .val (.long q5), .second, .val (.int p6), .val (.int (0 : Int32)), .val (.int sp), .val (.int lo), .val (.int hi), .val (.int mid), .val (.double s0), .second, .val (.double s1), .second, .val (.double v109_2), .second, .val (.ref b6), .val (.ref r_9), .val (.ref e1_9), .val (.ref d1_9), .val (.int (1 : Int32))] [(.int (3 : Int32)), (.int (0 : Int32))]))
      refine go (fun _ k => XS.icmpYes X13.here hx rfl (pc0 := 289) (pc' := 323) rfl (hb hby at_289) rfl (tlt (by decide : (0 : Int32) < (3 : Int32))).1 (by decide) (by decide) k) ?_
      show Go p e below _ (T13.setTop (mkF m 323 #[.val (.int p1), .val (.int p2), .val (.int p3), .val (.int p4), .val (.long q5), .second, .val (.int p6), .val (.int (0 : Int32)), .val (.int sp), .val (.int lo), .val (.int hi), .val (.int mid), .val (.double s0), .second, .val (.double s1), .second, .val (.double v109_2), .second, .val (.ref b6), .val (.ref r_9), .val (.ref e1_9), .val (.ref d1_9), .val (.int (1 : Int32))] []))
      refine go (fun _ k => XS.iload X13.here hx rfl (hb hby at_323) rfl  k) ?_
      show Go p e below _ (T13.setTop (mkF m 325 #[.val (.int p1), .val (.int p2), .val (.int p3), .val (.int p4), .val (.long q5), .second, .val (.int p6), .val (.int (0 : Int32)), .val (.int sp), .val (.int lo), .val (.int hi), .val (.int mid), .val (.double s0), .second, .val (.double s1), .second, .val (.double v109_2), .second, .val (.ref b6), .val (.ref r_9), .val (.ref e1_9), .val (.ref d1_9), .val (.int (1 : Int32))] [(.int (1 : Int32))]))
      obtain ⟨fs, hr, hrun, hended, hW, hsame⟩ := X13.leave (v := some (.int (1 : Int32))) (fun h => by rw [Bd.returns] at h; cases h)
      refine leaf (T := T13) ⟨fs, retN X13 hx (t := .boolean) Bd.returns (by simp) (hb hby at_325) hr, hrun, hended, hW, hsame⟩ ?_ (by decide) (by decide)
      show Q0 Z p1 p2 p3 p4 q5 p6 h0 n0 _ T13.heap _
      rw [e13]
      exact ⟨rfl, N13⟩
    by_cases hc97_1 : (((p1.toUInt32 >>> ((3 : Int32) &&& 31).toUInt32).toInt32) &&& (1 : Int32)) = (0 : Int32)
    · skip
      refine go (fun _ k => XS.ifYes X4.here hx rfl (pc0 := 97) (pc' := 106) rfl (hb hby at_97) rfl ((if0 _ _).trans (teq hc97_1).1) (by decide) (by decide) k) ?_
      show Go p e below _ (T4.setTop (mkF m 106 #[.val (.int p1), .val (.int p2), .val (.int p3), .val (.int p4), .val (.long q5), .second, .val (.int p6), .val (.int (0 : Int32)), .val (.int sp), .val (.int lo), .val (.int hi), .val (.int mid), .val (.double s0), .second, .val (.double s1), .second, .unset, .unset, .unset, .unset, .unset, .unset, .unset] []))
      refine go (fun _ k => XS.iload X4.here hx rfl (hb hby at_106) rfl  k) ?_
      show Go p e below _ (T4.setTop (mkF m 108 #[.val (.int p1), .val (.int p2), .val (.int p3), .val (.int p4), .val (.long q5), .second, .val (.int p6), .val (.int (0 : Int32)), .val (.int sp), .val (.int lo), .val (.int hi), .val (.int mid), .val (.double s0), .second, .val (.double s1), .second, .unset, .unset, .unset, .unset, .unset, .unset, .unset] [(.int p6)]))
      refine go (fun _ k => XS.i2dS X4.here hx rfl (hb hby at_108) rfl rfl k) ?_
      show Go p e below _ (T4.setTop (mkF m 109 #[.val (.int p1), .val (.int p2), .val (.int p3), .val (.int p4), .val (.long q5), .second, .val (.int p6), .val (.int (0 : Int32)), .val (.int sp), .val (.int lo), .val (.int hi), .val (.int mid), .val (.double s0), .second, .val (.double s1), .second, .unset, .unset, .unset, .unset, .unset, .unset, .unset] [(.double (FP.i2d p6))]))
      exact J109_5 _ (by simp only [if_pos hc97_1, bz_t hc97_1, bz_f (fun q => q hc97_1 : ¬ ¬ ((((p1.toUInt32 >>> ((3 : Int32) &&& 31).toUInt32).toInt32) &&& (1 : Int32)) = (0 : Int32)))])
    · skip
      refine go (fun _ k => XS.ifNo X4.here hx rfl (hb hby at_97) rfl ((if0 _ _).trans (feq hc97_1).1) k) ?_
      show Go p e below _ (T4.setTop (mkF m 100 #[.val (.int p1), .val (.int p2), .val (.int p3), .val (.int p4), .val (.long q5), .second, .val (.int p6), .val (.int (0 : Int32)), .val (.int sp), .val (.int lo), .val (.int hi), .val (.int mid), .val (.double s0), .second, .val (.double s1), .second, .unset, .unset, .unset, .unset, .unset, .unset, .unset] []))
      refine go (X4.ldc2DoubleC hx hown (mvT hZ (hw _ (List.mem_of_getElem? (i := 72) rfl))) (g := (mkF m 100 #[.val (.int p1), .val (.int p2), .val (.int p3), .val (.int p4), .val (.long q5), .second, .val (.int p6), .val (.int (0 : Int32)), .val (.int sp), .val (.int lo), .val (.int hi), .val (.int mid), .val (.double s0), .second, .val (.double s1), .second, .unset, .unset, .unset, .unset, .unset, .unset, .unset] [])) rfl (hb hby at_100)) ?_
      show Go p e below _ (T4.setTop (mkF m 103 #[.val (.int p1), .val (.int p2), .val (.int p3), .val (.int p4), .val (.long q5), .second, .val (.int p6), .val (.int (0 : Int32)), .val (.int sp), .val (.int lo), .val (.int hi), .val (.int mid), .val (.double s0), .second, .val (.double s1), .second, .unset, .unset, .unset, .unset, .unset, .unset, .unset] [(.double (18442240474082181120 : UInt64))]))
      refine go (fun _ k => XS.goto X4.here hx rfl (pc0 := 103) (pc' := 109) rfl (hb hby at_103) (by decide) (by decide) k) ?_
      show Go p e below _ (T4.setTop (mkF m 109 #[.val (.int p1), .val (.int p2), .val (.int p3), .val (.int p4), .val (.long q5), .second, .val (.int p6), .val (.int (0 : Int32)), .val (.int sp), .val (.int lo), .val (.int hi), .val (.int mid), .val (.double s0), .second, .val (.double s1), .second, .unset, .unset, .unset, .unset, .unset, .unset, .unset] [(.double (18442240474082181120 : UInt64))]))
      exact J109_5 _ (by simp only [if_neg hc97_1, bz_f hc97_1, bz_t hc97_1])
  · skip
    rw [hk]
    show Go p e below _ (T4.setTop (mkF m 47 #[.val (.int p1), .val (.int p2), .val (.int p3), .val (.int p4), .val (.long q5), .second, .val (.int p6), .val (.int (1 : Int32)), .val (.int sp), .val (.int lo), .val (.int hi), .val (.int mid), .unset, .unset, .unset, .unset, .unset, .unset, .unset, .unset, .unset, .unset, .unset] []))
    refine go (fun _ k => XS.iload X4.here hx rfl (hb hby at_47) rfl  k) ?_
    show Go p e below _ (T4.setTop (mkF m 49 #[.val (.int p1), .val (.int p2), .val (.int p3), .val (.int p4), .val (.long q5), .second, .val (.int p6), .val (.int (1 : Int32)), .val (.int sp), .val (.int lo), .val (.int hi), .val (.int mid), .unset, .unset, .unset, .unset, .unset, .unset, .unset, .unset, .unset, .unset, .unset] [(.int (1 : Int32))]))
    refine go (fun _ k => XS.iconst X4.here hx rfl (hb hby at_49) k) ?_
    show Go p e below _ (T4.setTop (mkF m 50 #[.val (.int p1), .val (.int p2), .val (.int p3), .val (.int p4), .val (.long q5), .second, .val (.int p6), .val (.int (1 : Int32)), .val (.int sp), .val (.int lo), .val (.int hi), .val (.int mid), .unset, .unset, .unset, .unset, .unset, .unset, .unset, .unset, .unset, .unset, .unset] [(.int (2 : Int32)), (.int (1 : Int32))]))
    refine go (fun _ k => XS.icmpYes X4.here hx rfl (pc0 := 50) (pc' := 62) rfl (hb hby at_50) rfl (tlt (by decide : (1 : Int32) < (2 : Int32))).1 (by decide) (by decide) k) ?_
    show Go p e below _ (T4.setTop (mkF m 62 #[.val (.int p1), .val (.int p2), .val (.int p3), .val (.int p4), .val (.long q5), .second, .val (.int p6), .val (.int (1 : Int32)), .val (.int sp), .val (.int lo), .val (.int hi), .val (.int mid), .unset, .unset, .unset, .unset, .unset, .unset, .unset, .unset, .unset, .unset, .unset] []))
    refine go (fun _ k => XS.iload X4.here hx rfl (hb hby at_62) rfl  k) ?_
    show Go p e below _ (T4.setTop (mkF m 64 #[.val (.int p1), .val (.int p2), .val (.int p3), .val (.int p4), .val (.long q5), .second, .val (.int p6), .val (.int (1 : Int32)), .val (.int sp), .val (.int lo), .val (.int hi), .val (.int mid), .unset, .unset, .unset, .unset, .unset, .unset, .unset, .unset, .unset, .unset, .unset] [(.int (1 : Int32))]))
    refine go (fun _ k => XS.iconst X4.here hx rfl (hb hby at_64) k) ?_
    show Go p e below _ (T4.setTop (mkF m 65 #[.val (.int p1), .val (.int p2), .val (.int p3), .val (.int p4), .val (.long q5), .second, .val (.int p6), .val (.int (1 : Int32)), .val (.int sp), .val (.int lo), .val (.int hi), .val (.int mid), .unset, .unset, .unset, .unset, .unset, .unset, .unset, .unset, .unset, .unset, .unset] [(.int (3 : Int32)), (.int (1 : Int32))]))
    refine go (fun _ k => XS.icmpYes X4.here hx rfl (pc0 := 65) (pc' := 77) rfl (hb hby at_65) rfl (feq (by decide : ¬ ((1 : Int32) = (3 : Int32)))).2 (by decide) (by decide) k) ?_
    show Go p e below _ (T4.setTop (mkF m 77 #[.val (.int p1), .val (.int p2), .val (.int p3), .val (.int p4), .val (.long q5), .second, .val (.int p6), .val (.int (1 : Int32)), .val (.int sp), .val (.int lo), .val (.int hi), .val (.int mid), .unset, .unset, .unset, .unset, .unset, .unset, .unset, .unset, .unset, .unset, .unset] []))
    refine go (fun _ k => XS.lload X4.here hx rfl (hb hby at_77) rfl  k) ?_
    show Go p e below _ (T4.setTop (mkF m 79 #[.val (.int p1), .val (.int p2), .val (.int p3), .val (.int p4), .val (.long q5), .second, .val (.int p6), .val (.int (1 : Int32)), .val (.int sp), .val (.int lo), .val (.int hi), .val (.int mid), .unset, .unset, .unset, .unset, .unset, .unset, .unset, .unset, .unset, .unset, .unset] [(.long q5)]))
    refine go (fun _ k => XS.l2i X4.here hx rfl (hb hby at_79) rfl k) ?_
    show Go p e below _ (T4.setTop (mkF m 80 #[.val (.int p1), .val (.int p2), .val (.int p3), .val (.int p4), .val (.long q5), .second, .val (.int p6), .val (.int (1 : Int32)), .val (.int sp), .val (.int lo), .val (.int hi), .val (.int mid), .unset, .unset, .unset, .unset, .unset, .unset, .unset, .unset, .unset, .unset, .unset] [(.int (q5.toInt32))]))
    refine go (fun _ k => XS.i2dS X4.here hx rfl (hb hby at_80) rfl rfl k) ?_
    show Go p e below _ (T4.setTop (mkF m 81 #[.val (.int p1), .val (.int p2), .val (.int p3), .val (.int p4), .val (.long q5), .second, .val (.int p6), .val (.int (1 : Int32)), .val (.int sp), .val (.int lo), .val (.int hi), .val (.int mid), .unset, .unset, .unset, .unset, .unset, .unset, .unset, .unset, .unset, .unset, .unset] [(.double (FP.i2d (q5.toInt32)))]))
    refine go (fun _ k => XS.dstore X4.here hx rfl (hb hby at_81) rfl (l' := #[.val (.int p1), .val (.int p2), .val (.int p3), .val (.int p4), .val (.long q5), .second, .val (.int p6), .val (.int (1 : Int32)), .val (.int sp), .val (.int lo), .val (.int hi), .val (.int mid), .val (.double (FP.i2d (q5.toInt32))), .second, .unset, .unset, .unset, .unset, .unset, .unset, .unset, .unset, .unset]) rfl k) ?_
    show Go p e below _ (T4.setTop (mkF m 83 #[.val (.int p1), .val (.int p2), .val (.int p3), .val (.int p4), .val (.long q5), .second, .val (.int p6), .val (.int (1 : Int32)), .val (.int sp), .val (.int lo), .val (.int hi), .val (.int mid), .val (.double (FP.i2d (q5.toInt32))), .second, .unset, .unset, .unset, .unset, .unset, .unset, .unset, .unset, .unset] []))
    have nn0 := own_nan (q5.toInt32)
    generalize hs0 : (FP.i2d (q5.toInt32)) = s0 at nn0 ⊢
    show Go p e below _ (T4.setTop (mkF m 83 #[.val (.int p1), .val (.int p2), .val (.int p3), .val (.int p4), .val (.long q5), .second, .val (.int p6), .val (.int (1 : Int32)), .val (.int sp), .val (.int lo), .val (.int hi), .val (.int mid), .val (.double s0), .second, .unset, .unset, .unset, .unset, .unset, .unset, .unset, .unset, .unset] []))
    refine go (fun _ k => XS.lload X4.here hx rfl (hb hby at_83) rfl  k) ?_
    show Go p e below _ (T4.setTop (mkF m 85 #[.val (.int p1), .val (.int p2), .val (.int p3), .val (.int p4), .val (.long q5), .second, .val (.int p6), .val (.int (1 : Int32)), .val (.int sp), .val (.int lo), .val (.int hi), .val (.int mid), .val (.double s0), .second, .unset, .unset, .unset, .unset, .unset, .unset, .unset, .unset, .unset] [(.long q5)]))
    refine go (fun _ k => XS.bipush X4.here hx rfl (hb hby at_85) k) ?_
    show Go p e below _ (T4.setTop (mkF m 87 #[.val (.int p1), .val (.int p2), .val (.int p3), .val (.int p4), .val (.long q5), .second, .val (.int p6), .val (.int (1 : Int32)), .val (.int sp), .val (.int lo), .val (.int hi), .val (.int mid), .val (.double s0), .second, .unset, .unset, .unset, .unset, .unset, .unset, .unset, .unset, .unset] [(.int (32 : Int32)), (.long q5)]))
    refine go (fun _ k => XS.lshr X4.here hx rfl (hb hby at_87) rfl k) ?_
    show Go p e below _ (T4.setTop (mkF m 88 #[.val (.int p1), .val (.int p2), .val (.int p3), .val (.int p4), .val (.long q5), .second, .val (.int p6), .val (.int (1 : Int32)), .val (.int sp), .val (.int lo), .val (.int hi), .val (.int mid), .val (.double s0), .second, .unset, .unset, .unset, .unset, .unset, .unset, .unset, .unset, .unset] [(.long (q5 >>> ((32 : Int32) &&& 0x3f).toInt64))]))
    refine go (fun _ k => XS.l2i X4.here hx rfl (hb hby at_88) rfl k) ?_
    show Go p e below _ (T4.setTop (mkF m 89 #[.val (.int p1), .val (.int p2), .val (.int p3), .val (.int p4), .val (.long q5), .second, .val (.int p6), .val (.int (1 : Int32)), .val (.int sp), .val (.int lo), .val (.int hi), .val (.int mid), .val (.double s0), .second, .unset, .unset, .unset, .unset, .unset, .unset, .unset, .unset, .unset] [(.int ((q5 >>> ((32 : Int32) &&& 0x3f).toInt64).toInt32))]))
    refine go (fun _ k => XS.i2dS X4.here hx rfl (hb hby at_89) rfl rfl k) ?_
    show Go p e below _ (T4.setTop (mkF m 90 #[.val (.int p1), .val (.int p2), .val (.int p3), .val (.int p4), .val (.long q5), .second, .val (.int p6), .val (.int (1 : Int32)), .val (.int sp), .val (.int lo), .val (.int hi), .val (.int mid), .val (.double s0), .second, .unset, .unset, .unset, .unset, .unset, .unset, .unset, .unset, .unset] [(.double (FP.i2d ((q5 >>> ((32 : Int32) &&& 0x3f).toInt64).toInt32)))]))
    refine go (fun _ k => XS.dstore X4.here hx rfl (hb hby at_90) rfl (l' := #[.val (.int p1), .val (.int p2), .val (.int p3), .val (.int p4), .val (.long q5), .second, .val (.int p6), .val (.int (1 : Int32)), .val (.int sp), .val (.int lo), .val (.int hi), .val (.int mid), .val (.double s0), .second, .val (.double (FP.i2d ((q5 >>> ((32 : Int32) &&& 0x3f).toInt64).toInt32))), .second, .unset, .unset, .unset, .unset, .unset, .unset, .unset]) rfl k) ?_
    show Go p e below _ (T4.setTop (mkF m 92 #[.val (.int p1), .val (.int p2), .val (.int p3), .val (.int p4), .val (.long q5), .second, .val (.int p6), .val (.int (1 : Int32)), .val (.int sp), .val (.int lo), .val (.int hi), .val (.int mid), .val (.double s0), .second, .val (.double (FP.i2d ((q5 >>> ((32 : Int32) &&& 0x3f).toInt64).toInt32))), .second, .unset, .unset, .unset, .unset, .unset, .unset, .unset] []))
    have nn1 := own_nan ((q5 >>> ((32 : Int32) &&& 0x3f).toInt64).toInt32)
    generalize hs1 : (FP.i2d ((q5 >>> ((32 : Int32) &&& 0x3f).toInt64).toInt32)) = s1 at nn1 ⊢
    show Go p e below _ (T4.setTop (mkF m 92 #[.val (.int p1), .val (.int p2), .val (.int p3), .val (.int p4), .val (.long q5), .second, .val (.int p6), .val (.int (1 : Int32)), .val (.int sp), .val (.int lo), .val (.int hi), .val (.int mid), .val (.double s0), .second, .val (.double s1), .second, .unset, .unset, .unset, .unset, .unset, .unset, .unset] []))
    refine go (fun _ k => XS.iloadN X4.here hx rfl (hb hby at_92) rfl  k) ?_
    show Go p e below _ (T4.setTop (mkF m 93 #[.val (.int p1), .val (.int p2), .val (.int p3), .val (.int p4), .val (.long q5), .second, .val (.int p6), .val (.int (1 : Int32)), .val (.int sp), .val (.int lo), .val (.int hi), .val (.int mid), .val (.double s0), .second, .val (.double s1), .second, .unset, .unset, .unset, .unset, .unset, .unset, .unset] [(.int p1)]))
    refine go (fun _ k => XS.iconst X4.here hx rfl (hb hby at_93) k) ?_
    show Go p e below _ (T4.setTop (mkF m 94 #[.val (.int p1), .val (.int p2), .val (.int p3), .val (.int p4), .val (.long q5), .second, .val (.int p6), .val (.int (1 : Int32)), .val (.int sp), .val (.int lo), .val (.int hi), .val (.int mid), .val (.double s0), .second, .val (.double s1), .second, .unset, .unset, .unset, .unset, .unset, .unset, .unset] [(.int (3 : Int32)), (.int p1)]))
    refine go (fun _ k => XS.iushr X4.here hx rfl (hb hby at_94) rfl k) ?_
    show Go p e below _ (T4.setTop (mkF m 95 #[.val (.int p1), .val (.int p2), .val (.int p3), .val (.int p4), .val (.long q5), .second, .val (.int p6), .val (.int (1 : Int32)), .val (.int sp), .val (.int lo), .val (.int hi), .val (.int mid), .val (.double s0), .second, .val (.double s1), .second, .unset, .unset, .unset, .unset, .unset, .unset, .unset] [(.int ((p1.toUInt32 >>> ((3 : Int32) &&& 31).toUInt32).toInt32))]))
    refine go (fun _ k => XS.iconst X4.here hx rfl (hb hby at_95) k) ?_
    show Go p e below _ (T4.setTop (mkF m 96 #[.val (.int p1), .val (.int p2), .val (.int p3), .val (.int p4), .val (.long q5), .second, .val (.int p6), .val (.int (1 : Int32)), .val (.int sp), .val (.int lo), .val (.int hi), .val (.int mid), .val (.double s0), .second, .val (.double s1), .second, .unset, .unset, .unset, .unset, .unset, .unset, .unset] [(.int (1 : Int32)), (.int ((p1.toUInt32 >>> ((3 : Int32) &&& 31).toUInt32).toInt32))]))
    refine go (fun _ k => XS.iand X4.here hx rfl (hb hby at_96) rfl k) ?_
    show Go p e below _ (T4.setTop (mkF m 97 #[.val (.int p1), .val (.int p2), .val (.int p3), .val (.int p4), .val (.long q5), .second, .val (.int p6), .val (.int (1 : Int32)), .val (.int sp), .val (.int lo), .val (.int hi), .val (.int mid), .val (.double s0), .second, .val (.double s1), .second, .unset, .unset, .unset, .unset, .unset, .unset, .unset] [(.int (((p1.toUInt32 >>> ((3 : Int32) &&& 31).toUInt32).toInt32) &&& (1 : Int32)))]))
    have J109_16 : ∀ (v109_4 : UInt64), v109_4 = (if (((p1.toUInt32 >>> ((3 : Int32) &&& 31).toUInt32).toInt32) &&& (1 : Int32)) = (0 : Int32) then (FP.i2d p6) else (18442240474082181120 : UInt64)) → Go p e below (PP s below (Q0 Z p1 p2 p3 p4 q5 p6 h0 n0) room_1.cells room_1.slots) (T4.setTop (mkF m 109 #[.val (.int p1), .val (.int p2), .val (.int p3), .val (.int p4), .val (.long q5), .second, .val (.int p6), .val (.int (1 : Int32)), .val (.int sp), .val (.int lo), .val (.int hi), .val (.int mid), .val (.double s0), .second, .val (.double s1), .second, .unset, .unset, .unset, .unset, .unset, .unset, .unset] [(.double v109_4)])) := by
      intro v109_4 hv109_4
      show Go p e below _ (T4.setTop (mkF m 109 #[.val (.int p1), .val (.int p2), .val (.int p3), .val (.int p4), .val (.long q5), .second, .val (.int p6), .val (.int (1 : Int32)), .val (.int sp), .val (.int lo), .val (.int hi), .val (.int mid), .val (.double s0), .second, .val (.double s1), .second, .unset, .unset, .unset, .unset, .unset, .unset, .unset] [(.double v109_4)]))
      refine go (fun _ k => XS.dstore X4.here hx rfl (hb hby at_109) rfl (l' := #[.val (.int p1), .val (.int p2), .val (.int p3), .val (.int p4), .val (.long q5), .second, .val (.int p6), .val (.int (1 : Int32)), .val (.int sp), .val (.int lo), .val (.int hi), .val (.int mid), .val (.double s0), .second, .val (.double s1), .second, .val (.double v109_4), .second, .unset, .unset, .unset, .unset, .unset]) rfl k) ?_
      show Go p e below _ (T4.setTop (mkF m 111 #[.val (.int p1), .val (.int p2), .val (.int p3), .val (.int p4), .val (.long q5), .second, .val (.int p6), .val (.int (1 : Int32)), .val (.int sp), .val (.int lo), .val (.int hi), .val (.int mid), .val (.double s0), .second, .val (.double s1), .second, .val (.double v109_4), .second, .unset, .unset, .unset, .unset, .unset] []))
      have nn2 : Jvm.Free.Fl.NoNaN64 v109_4 := by rw [hv109_4]; split; exact own_nan _; exact own_ninf
      obtain ⟨T17, h17, X17, e17, E17, A17, D17, -, st17⟩ := newO X4 hx hZ hown (hw _ (List.mem_of_getElem? (i := 7) rfl)) (hw _ (List.mem_of_getElem? (i := 8) rfl)) (hw _ (List.mem_of_getElem? (i := 9) rfl)) e4 (g := (mkF m 111 #[.val (.int p1), .val (.int p2), .val (.int p3), .val (.int p4), .val (.long q5), .second, .val (.int p6), .val (.int (1 : Int32)), .val (.int sp), .val (.int lo), .val (.int hi), .val (.int mid), .val (.double s0), .second, .val (.double s1), .second, .val (.double v109_4), .second, .unset, .unset, .unset, .unset, .unset] [])) rfl (hb hby at_111) (by decide) (by decide)
      obtain ⟨b17, g17⟩ : ∃ z, z = h0.size := ⟨_, rfl⟩
      rw [← g17] at A17 D17 st17
      have sz_b17 : h0.size ≤ b17 := Nat.le_trans (Keep.refl h0 []).1 (Nat.le_of_eq g17.symm)
      have g_b17 : n0 ≤ b17 := Nat.le_trans Z0 sz_b17
      have F_elements_b17 : Fld Z h17 b17 "com/example/drienerlo/drienerlo/retrieval/Scored$Builder" "elements" "[I" .null := D17 (Or.inr (hw _ (List.mem_of_getElem? (i := 18) rfl))) (ty := (.array .int)) (by decide)
      have F_scores_b17 : Fld Z h17 b17 "com/example/drienerlo/drienerlo/retrieval/Scored$Builder" "scores" "[D" .null := D17 (Or.inr (hw _ (List.mem_of_getElem? (i := 21) rfl))) (ty := (.array .double)) (by decide)
      have F_size_b17 : Fld Z h17 b17 "com/example/drienerlo/drienerlo/retrieval/Scored$Builder" "size" "I" (.int (0 : Int32)) := D17 (Or.inl (hw _ (List.mem_of_getElem? (i := 31) rfl))) (ty := .int) (by decide)
      refine go st17 ?_
      show Go p e below _ (T17.setTop (mkF m 114 #[.val (.int p1), .val (.int p2), .val (.int p3), .val (.int p4), .val (.long q5), .second, .val (.int p6), .val (.int (1 : Int32)), .val (.int sp), .val (.int lo), .val (.int hi), .val (.int mid), .val (.double s0), .second, .val (.double s1), .second, .val (.double v109_4), .second, .unset, .unset, .unset, .unset, .unset] [(.ref b17)]))
      refine go (fun _ k => XS.dup X17.here hx rfl (hb hby at_114) rfl rfl k) ?_
      show Go p e below _ (T17.setTop (mkF m 115 #[.val (.int p1), .val (.int p2), .val (.int p3), .val (.int p4), .val (.long q5), .second, .val (.int p6), .val (.int (1 : Int32)), .val (.int sp), .val (.int lo), .val (.int hi), .val (.int mid), .val (.double s0), .second, .val (.double s1), .second, .val (.double v109_4), .second, .unset, .unset, .unset, .unset, .unset] [(.ref b17), (.ref b17)]))
      refine go (fun _ k => XS.iload X17.here hx rfl (hb hby at_115) rfl  k) ?_
      show Go p e below _ (T17.setTop (mkF m 117 #[.val (.int p1), .val (.int p2), .val (.int p3), .val (.int p4), .val (.long q5), .second, .val (.int p6), .val (.int (1 : Int32)), .val (.int sp), .val (.int lo), .val (.int hi), .val (.int mid), .val (.double s0), .second, .val (.double s1), .second, .val (.double v109_4), .second, .unset, .unset, .unset, .unset, .unset] [(.int (1 : Int32)), (.ref b17), (.ref b17)]))
      refine go (fun _ k => XS.iload X17.here hx rfl (hb hby at_117) rfl  k) ?_
      show Go p e below _ (T17.setTop (mkF m 119 #[.val (.int p1), .val (.int p2), .val (.int p3), .val (.int p4), .val (.long q5), .second, .val (.int p6), .val (.int (1 : Int32)), .val (.int sp), .val (.int lo), .val (.int hi), .val (.int mid), .val (.double s0), .second, .val (.double s1), .second, .val (.double v109_4), .second, .unset, .unset, .unset, .unset, .unset] [(.int sp), (.int (1 : Int32)), (.ref b17), (.ref b17)]))
      refine go (fun _ k => XS.iadd X17.here hx rfl (hb hby at_119) rfl k) ?_
      show Go p e below _ (T17.setTop (mkF m 120 #[.val (.int p1), .val (.int p2), .val (.int p3), .val (.int p4), .val (.long q5), .second, .val (.int p6), .val (.int (1 : Int32)), .val (.int sp), .val (.int lo), .val (.int hi), .val (.int mid), .val (.double s0), .second, .val (.double s1), .second, .val (.double v109_4), .second, .unset, .unset, .unset, .unset, .unset] [(.int ((1 : Int32) + sp)), (.ref b17), (.ref b17)]))
      have hn := own_cap (K := 1) (k := (1 : Int32)) (by decide) (by decide) (by decide) hsp
      generalize hN : ((1 : Int32) + sp) = n at hn ⊢
      show Go p e below _ (T17.setTop (mkF m 120 #[.val (.int p1), .val (.int p2), .val (.int p3), .val (.int p4), .val (.long q5), .second, .val (.int p6), .val (.int (1 : Int32)), .val (.int sp), .val (.int lo), .val (.int hi), .val (.int mid), .val (.double s0), .second, .val (.double s1), .second, .val (.double v109_4), .second, .unset, .unset, .unset, .unset, .unset] [(.int n), (.ref b17), (.ref b17)]))
      have K19 : Keep h0 h17 [] := ((Keep.refl h0 []).ext E17)
      obtain ⟨_, _, ⟨T18, L18, k18, n18⟩, -, X18, ⟨Lc18, hQ18, l18, y18, z18⟩, st18⟩ := X17.specialBack hx (y := (⟨"com/example/drienerlo/drienerlo/retrieval/Scored$Builder", "<init>", "(I)V"⟩ : MethodName)) rfl hown (mvT hZ (hw _ (List.mem_of_getElem? (i := 10) rfl))) (mvT hZ (hw _ (List.mem_of_getElem? (i := 11) rfl))) (mvT hZ (hw _ (List.mem_of_getElem? (i := 12) rfl))) (by decide) (backOf (W := 1) (rm3 l Z a0 hw [] b17 n .null .null (0 : Int32) h17 n0 (Nat.le_trans Z0 K19.1) A17 g_b17 F_elements_b17 F_scores_b17 F_size_b17 (⟨by omega, hn.2⟩ : 0 ≤ n.toInt ∧ n.toInt ≤ 4)) hZ (hw _ (List.mem_of_getElem? (i := 12) rfl)) (hw _ (List.mem_of_getElem? (i := 9) rfl)) (by decide) (by decide)) (g := (mkF m 120 #[.val (.int p1), .val (.int p2), .val (.int p3), .val (.int p4), .val (.long q5), .second, .val (.int p6), .val (.int (1 : Int32)), .val (.int sp), .val (.int lo), .val (.int hi), .val (.int mid), .val (.double s0), .second, .val (.double s1), .second, .val (.double v109_4), .second, .unset, .unset, .unset, .unset, .unset] [(.int n), (.ref b17), (.ref b17)])) rfl (by rw [hml]; rfl) (Steps.refl _) (a := b17) (argsL := [(.int n)]) (rest := [(.ref b17)]) (lenOf pd_4 rfl) rfl (by show 2 * 0 + _ ≤ _; exact Nat.le_of_eq rfl) (hb hby at_120) (fun _ _ => ⟨rfl, e17, (by decide : 1 + 2 ≤ _), (by decide : 3 + 8 ≤ _)⟩)
      dsimp only [Pt.U, Pt.locs, Pt.cells, Pt.slots] at X18 l18 y18 z18 st18 hQ18
      subst l18 y18 z18
      obtain ⟨be_18, ke_18, bd_18, kd_18, rfl, N18q, r18_0, r18_1, r18_2, r18_3, r18_4, r18_5, r18_6, r18_7, r18_8, r18_9, r18_10, r18_11⟩ := hQ18
      have N18 := Fr.app N4 N18q
      have sz_be_18 : h0.size ≤ be_18 := Nat.le_trans K19.1 r18_1
      have g_be_18 : n0 ≤ be_18 := Nat.le_trans Z0 sz_be_18
      have sz_bd_18 : h0.size ≤ bd_18 := Nat.le_trans K19.1 r18_2
      have g_bd_18 : n0 ≤ bd_18 := Nat.le_trans Z0 sz_bd_18
      refine go (fun _ k => st18.trans k) ?_
      show Go p e below _ (T18.setTop (mkF m 123 #[.val (.int p1), .val (.int p2), .val (.int p3), .val (.int p4), .val (.long q5), .second, .val (.int p6), .val (.int (1 : Int32)), .val (.int sp), .val (.int lo), .val (.int hi), .val (.int mid), .val (.double s0), .second, .val (.double s1), .second, .val (.double v109_4), .second, .unset, .unset, .unset, .unset, .unset] [(.ref b17)]))
      refine go (fun _ k => XS.astore X18.here hx rfl (hb hby at_123) rfl rfl (l' := #[.val (.int p1), .val (.int p2), .val (.int p3), .val (.int p4), .val (.long q5), .second, .val (.int p6), .val (.int (1 : Int32)), .val (.int sp), .val (.int lo), .val (.int hi), .val (.int mid), .val (.double s0), .second, .val (.double s1), .second, .val (.double v109_4), .second, .val (.ref b17), .unset, .unset, .unset, .unset]) rfl k) ?_
      show Go p e below _ (T18.setTop (mkF m 125 #[.val (.int p1), .val (.int p2), .val (.int p3), .val (.int p4), .val (.long q5), .second, .val (.int p6), .val (.int (1 : Int32)), .val (.int sp), .val (.int lo), .val (.int hi), .val (.int mid), .val (.double s0), .second, .val (.double s1), .second, .val (.double v109_4), .second, .val (.ref b17), .unset, .unset, .unset, .unset] []))
      refine go (fun _ k => XS.iload X18.here hx rfl (hb hby at_125) rfl  k) ?_
      show Go p e below _ (T18.setTop (mkF m 127 #[.val (.int p1), .val (.int p2), .val (.int p3), .val (.int p4), .val (.long q5), .second, .val (.int p6), .val (.int (1 : Int32)), .val (.int sp), .val (.int lo), .val (.int hi), .val (.int mid), .val (.double s0), .second, .val (.double s1), .second, .val (.double v109_4), .second, .val (.ref b17), .unset, .unset, .unset, .unset] [(.int (1 : Int32))]))
      refine go (fun _ k => XS.iconst X18.here hx rfl (hb hby at_127) k) ?_
      show Go p e below _ (T18.setTop (mkF m 128 #[.val (.int p1), .val (.int p2), .val (.int p3), .val (.int p4), .val (.long q5), .second, .val (.int p6), .val (.int (1 : Int32)), .val (.int sp), .val (.int lo), .val (.int hi), .val (.int mid), .val (.double s0), .second, .val (.double s1), .second, .val (.double v109_4), .second, .val (.ref b17), .unset, .unset, .unset, .unset] [(.int (1 : Int32)), (.int (1 : Int32))]))
      refine go (fun _ k => XS.icmpNo X18.here hx rfl (hb hby at_128) rfl (flt (by decide : ¬ ((1 : Int32) < (1 : Int32)))).1 k) ?_
      show Go p e below _ (T18.setTop (mkF m 131 #[.val (.int p1), .val (.int p2), .val (.int p3), .val (.int p4), .val (.long q5), .second, .val (.int p6), .val (.int (1 : Int32)), .val (.int sp), .val (.int lo), .val (.int hi), .val (.int mid), .val (.double s0), .second, .val (.double s1), .second, .val (.double v109_4), .second, .val (.ref b17), .unset, .unset, .unset, .unset] []))
      refine go (fun _ k => XS.aload X18.here hx rfl (hb hby at_131) rfl rfl  k) ?_
      show Go p e below _ (T18.setTop (mkF m 133 #[.val (.int p1), .val (.int p2), .val (.int p3), .val (.int p4), .val (.long q5), .second, .val (.int p6), .val (.int (1 : Int32)), .val (.int sp), .val (.int lo), .val (.int hi), .val (.int mid), .val (.double s0), .second, .val (.double s1), .second, .val (.double v109_4), .second, .val (.ref b17), .unset, .unset, .unset, .unset] [(.ref b17)]))
      refine go (fun _ k => XS.iload X18.here hx rfl (hb hby at_133) rfl  k) ?_
      show Go p e below _ (T18.setTop (mkF m 135 #[.val (.int p1), .val (.int p2), .val (.int p3), .val (.int p4), .val (.long q5), .second, .val (.int p6), .val (.int (1 : Int32)), .val (.int sp), .val (.int lo), .val (.int hi), .val (.int mid), .val (.double s0), .second, .val (.double s1), .second, .val (.double v109_4), .second, .val (.ref b17), .unset, .unset, .unset, .unset] [(.int lo), (.ref b17)]))
      refine go (fun _ k => XS.dload X18.here hx rfl (hb hby at_135) rfl  k) ?_
      show Go p e below _ (T18.setTop (mkF m 137 #[.val (.int p1), .val (.int p2), .val (.int p3), .val (.int p4), .val (.long q5), .second, .val (.int p6), .val (.int (1 : Int32)), .val (.int sp), .val (.int lo), .val (.int hi), .val (.int mid), .val (.double s0), .second, .val (.double s1), .second, .val (.double v109_4), .second, .val (.ref b17), .unset, .unset, .unset, .unset] [(.double s0), (.int lo), (.ref b17)]))
      have K21 : Keep h0 T18.heap [] := (K19.trans r18_0 (allS (Or.inr sz_b17) all0))
      obtain ⟨cq20, kq20, q20a, q20b, q20c⟩ := isOf hZ rfl r18_4
      obtain ⟨_, _, ⟨T20, L20, k20, n20⟩, -, X20, ⟨Lc20, hQ20, l20, y20, z20⟩, st20⟩ := X18.virtualBack hx (y := (⟨"com/example/drienerlo/drienerlo/retrieval/Scored$Builder", "add", "(ID)V"⟩ : MethodName)) (z := (⟨"com/example/drienerlo/drienerlo/retrieval/Scored$Builder", "add", "(ID)V"⟩ : MethodName)) hown (mvT hZ (hw _ (List.mem_of_getElem? (i := 73) rfl))) (mvT hZ (hw _ (List.mem_of_getElem? (i := 74) rfl))) (notFace_of_selects (args := #[]) (mvT hZ (hw _ (List.mem_of_getElem? (i := 76) rfl)))) (mvT hZ (hw _ (List.mem_of_getElem? (i := 76) rfl))) (mvT hZ (hw _ (List.mem_of_getElem? (i := 75) rfl))) (by decide) (backOf (W := 0) (rm11 l Z a0 hw [] b17 lo s0 be_18 ke_18 bd_18 kd_18 n ([(.int (0 : Int32)), (.int (0 : Int32)), (.int (0 : Int32)), (.int (0 : Int32))]) ([(.double (0 : UInt64)), (.double (0 : UInt64)), (.double (0 : UInt64)), (.double (0 : UInt64))]) (0 : Int32) 0 (1 : Int32) T18.heap n0 (Nat.le_trans Z0 K21.1) r18_4 r18_5 r18_6 r18_7 r18_8 r18_9 g_b17 g_be_18 g_bd_18 (Nat.ne_of_lt (Nat.lt_of_lt_of_le A17.lt r18_1)) (Nat.ne_of_lt (Nat.lt_of_lt_of_le A17.lt r18_2)) r18_3 (own_idx hn (by decide) (by decide) : ¬ (0 : Int32) < 0 ∧ (0 : Int32) < n) (by decide : (0 : Int32).toNatClampNeg = 0) (by simp : 0 < ([(.int (0 : Int32)), (.int (0 : Int32)), (.int (0 : Int32)), (.int (0 : Int32))]).length) (by simp : 0 < ([(.double (0 : UInt64)), (.double (0 : UInt64)), (.double (0 : UInt64)), (.double (0 : UInt64))]).length) (by decide : (0 : Int32) + (1 : Int32) = (1 : Int32))) hZ (hw _ (List.mem_of_getElem? (i := 77) rfl)) (hw _ (List.mem_of_getElem? (i := 9) rfl)) (by decide) (by decide)) q20a q20c (g := (mkF m 137 #[.val (.int p1), .val (.int p2), .val (.int p3), .val (.int p4), .val (.long q5), .second, .val (.int p6), .val (.int (1 : Int32)), .val (.int sp), .val (.int lo), .val (.int hi), .val (.int mid), .val (.double s0), .second, .val (.double s1), .second, .val (.double v109_4), .second, .val (.ref b17), .unset, .unset, .unset, .unset] [(.double s0), (.int lo), (.ref b17)])) rfl (by rw [hml]; rfl) (Steps.refl _) (argsL := [(.int lo), (.double s0)]) (rest := []) (lenOf pd_8 rfl) rfl (by show 2 * 0 + _ ≤ _; exact Nat.le_of_eq rfl) (hb hby at_137) (fun _ _ => ⟨rfl, rfl, (by decide : 3 + 0 ≤ _), (by decide : 11 + 0 ≤ _)⟩)
      dsimp only [Pt.U, Pt.locs, Pt.cells, Pt.slots] at X20 l20 y20 z20 st20 hQ20
      subst l20 y20 z20
      obtain ⟨rfl, N20q, r20_0, r20_1, r20_2, r20_3, r20_4, r20_5, r20_6⟩ := hQ20
      have N20 := Fr.app N18 N20q
      refine go (fun _ k => st20.trans k) ?_
      show Go p e below _ (T20.setTop (mkF m 140 #[.val (.int p1), .val (.int p2), .val (.int p3), .val (.int p4), .val (.long q5), .second, .val (.int p6), .val (.int (1 : Int32)), .val (.int sp), .val (.int lo), .val (.int hi), .val (.int mid), .val (.double s0), .second, .val (.double s1), .second, .val (.double v109_4), .second, .val (.ref b17), .unset, .unset, .unset, .unset] []))
      refine go (fun _ k => XS.iload X20.here hx rfl (hb hby at_140) rfl  k) ?_
      show Go p e below _ (T20.setTop (mkF m 142 #[.val (.int p1), .val (.int p2), .val (.int p3), .val (.int p4), .val (.long q5), .second, .val (.int p6), .val (.int (1 : Int32)), .val (.int sp), .val (.int lo), .val (.int hi), .val (.int mid), .val (.double s0), .second, .val (.double s1), .second, .val (.double v109_4), .second, .val (.ref b17), .unset, .unset, .unset, .unset] [(.int (1 : Int32))]))
      refine go (fun _ k => XS.iconst X20.here hx rfl (hb hby at_142) k) ?_
      show Go p e below _ (T20.setTop (mkF m 143 #[.val (.int p1), .val (.int p2), .val (.int p3), .val (.int p4), .val (.long q5), .second, .val (.int p6), .val (.int (1 : Int32)), .val (.int sp), .val (.int lo), .val (.int hi), .val (.int mid), .val (.double s0), .second, .val (.double s1), .second, .val (.double v109_4), .second, .val (.ref b17), .unset, .unset, .unset, .unset] [(.int (2 : Int32)), (.int (1 : Int32))]))
      refine go (fun _ k => XS.icmpYes X20.here hx rfl (pc0 := 143) (pc' := 155) rfl (hb hby at_143) rfl (tlt (by decide : (1 : Int32) < (2 : Int32))).1 (by decide) (by decide) k) ?_
      show Go p e below _ (T20.setTop (mkF m 155 #[.val (.int p1), .val (.int p2), .val (.int p3), .val (.int p4), .val (.long q5), .second, .val (.int p6), .val (.int (1 : Int32)), .val (.int sp), .val (.int lo), .val (.int hi), .val (.int mid), .val (.double s0), .second, .val (.double s1), .second, .val (.double v109_4), .second, .val (.ref b17), .unset, .unset, .unset, .unset] []))
      refine go (fun _ k => XS.iload X20.here hx rfl (hb hby at_155) rfl  k) ?_
      show Go p e below _ (T20.setTop (mkF m 157 #[.val (.int p1), .val (.int p2), .val (.int p3), .val (.int p4), .val (.long q5), .second, .val (.int p6), .val (.int (1 : Int32)), .val (.int sp), .val (.int lo), .val (.int hi), .val (.int mid), .val (.double s0), .second, .val (.double s1), .second, .val (.double v109_4), .second, .val (.ref b17), .unset, .unset, .unset, .unset] [(.int (1 : Int32))]))
      refine go (fun _ k => XS.iconst X20.here hx rfl (hb hby at_157) k) ?_
      show Go p e below _ (T20.setTop (mkF m 158 #[.val (.int p1), .val (.int p2), .val (.int p3), .val (.int p4), .val (.long q5), .second, .val (.int p6), .val (.int (1 : Int32)), .val (.int sp), .val (.int lo), .val (.int hi), .val (.int mid), .val (.double s0), .second, .val (.double s1), .second, .val (.double v109_4), .second, .val (.ref b17), .unset, .unset, .unset, .unset] [(.int (3 : Int32)), (.int (1 : Int32))]))
      refine go (fun _ k => XS.icmpYes X20.here hx rfl (pc0 := 158) (pc' := 170) rfl (hb hby at_158) rfl (tlt (by decide : (1 : Int32) < (3 : Int32))).1 (by decide) (by decide) k) ?_
      show Go p e below _ (T20.setTop (mkF m 170 #[.val (.int p1), .val (.int p2), .val (.int p3), .val (.int p4), .val (.long q5), .second, .val (.int p6), .val (.int (1 : Int32)), .val (.int sp), .val (.int lo), .val (.int hi), .val (.int mid), .val (.double s0), .second, .val (.double s1), .second, .val (.double v109_4), .second, .val (.ref b17), .unset, .unset, .unset, .unset] []))
      refine go (fun _ k => XS.aload X20.here hx rfl (hb hby at_170) rfl rfl  k) ?_
      show Go p e below _ (T20.setTop (mkF m 172 #[.val (.int p1), .val (.int p2), .val (.int p3), .val (.int p4), .val (.long q5), .second, .val (.int p6), .val (.int (1 : Int32)), .val (.int sp), .val (.int lo), .val (.int hi), .val (.int mid), .val (.double s0), .second, .val (.double s1), .second, .val (.double v109_4), .second, .val (.ref b17), .unset, .unset, .unset, .unset] [(.ref b17)]))
      have K23 : Keep h0 T20.heap [] := (K21.trans r20_0 (allS (Or.inr sz_b17) (allS (Or.inr sz_be_18) (allS (Or.inr sz_bd_18) all0))))
      obtain ⟨cq22, kq22, q22a, q22b, q22c⟩ := isOf hZ rfl r20_1
      obtain ⟨_, _, ⟨T22, L22, k22, n22⟩, -, X22, ⟨Lc22, hQ22, l22, y22, z22⟩, st22⟩ := X20.virtualBack hx (y := (⟨"com/example/drienerlo/drienerlo/retrieval/Scored$Builder", "build", "()Lcom/example/drienerlo/drienerlo/retrieval/Scored;"⟩ : MethodName)) (z := (⟨"com/example/drienerlo/drienerlo/retrieval/Scored$Builder", "build", "()Lcom/example/drienerlo/drienerlo/retrieval/Scored;"⟩ : MethodName)) hown (mvT hZ (hw _ (List.mem_of_getElem? (i := 22) rfl))) (mvT hZ (hw _ (List.mem_of_getElem? (i := 23) rfl))) (notFace_of_selects (args := #[]) (mvT hZ (hw _ (List.mem_of_getElem? (i := 25) rfl)))) (mvT hZ (hw _ (List.mem_of_getElem? (i := 25) rfl))) (mvT hZ (hw _ (List.mem_of_getElem? (i := 24) rfl))) (by decide) (backOf (W := 0) (rm5 l Z a0 hw [] b17 be_18 ke_18 bd_18 kd_18 n (([(.int (0 : Int32)), (.int (0 : Int32)), (.int (0 : Int32)), (.int (0 : Int32))]).set 0 (.int lo)) (([(.double (0 : UInt64)), (.double (0 : UInt64)), (.double (0 : UInt64)), (.double (0 : UInt64))]).set 0 (.double s0)) (1 : Int32) T20.heap n0 (Nat.le_trans Z0 K23.1) r20_1 r20_2 r20_3 r20_4 r20_5 r20_6 (r18_10.keep r20_0) (r18_11.keep r20_0) (own_idz hn (by decide) (by decide) : ¬ (1 : Int32) < 0 ∧ ¬ n < (1 : Int32)) (hn.2 : n.toInt ≤ 4)) hZ (hw _ (List.mem_of_getElem? (i := 26) rfl)) (hw _ (List.mem_of_getElem? (i := 9) rfl)) (by decide) (by decide)) q22a q22c (g := (mkF m 172 #[.val (.int p1), .val (.int p2), .val (.int p3), .val (.int p4), .val (.long q5), .second, .val (.int p6), .val (.int (1 : Int32)), .val (.int sp), .val (.int lo), .val (.int hi), .val (.int mid), .val (.double s0), .second, .val (.double s1), .second, .val (.double v109_4), .second, .val (.ref b17), .unset, .unset, .unset, .unset] [(.ref b17)])) rfl (by rw [hml]; rfl) (Steps.refl _) (argsL := []) (rest := []) (lenOf pd_5 rfl) rfl (by show 2 * 0 + _ ≤ _; exact Nat.le_of_eq rfl) (hb hby at_172) (fun _ _ => ⟨rfl, rfl, (by decide : 3 + 3 ≤ _), (by decide : 11 + 10 ≤ _)⟩)
      dsimp only [Pt.U, Pt.locs, Pt.cells, Pt.slots] at X22 l22 y22 z22 st22 hQ22
      subst l22 y22 z22
      obtain ⟨r_22, e1_22, k1_22, d1_22, k2_22, rfl, N22q, r22_0, r22_1, r22_2, r22_3, r22_4, r22_5, r22_6⟩ := hQ22
      have N22 := Fr.app N20 N22q
      have sz_r_22 : h0.size ≤ r_22 := Nat.le_trans K23.1 r22_1
      have g_r_22 : n0 ≤ r_22 := Nat.le_trans Z0 sz_r_22
      skip
      refine go (fun _ k => st22.trans k) ?_
      show Go p e below _ (T22.setTop (mkF m 175 #[.val (.int p1), .val (.int p2), .val (.int p3), .val (.int p4), .val (.long q5), .second, .val (.int p6), .val (.int (1 : Int32)), .val (.int sp), .val (.int lo), .val (.int hi), .val (.int mid), .val (.double s0), .second, .val (.double s1), .second, .val (.double v109_4), .second, .val (.ref b17), .unset, .unset, .unset, .unset] [(.ref r_22)]))
      refine go (fun _ k => XS.astore X22.here hx rfl (hb hby at_175) rfl rfl (l' := #[.val (.int p1), .val (.int p2), .val (.int p3), .val (.int p4), .val (.long q5), .second, .val (.int p6), .val (.int (1 : Int32)), .val (.int sp), .val (.int lo), .val (.int hi), .val (.int mid), .val (.double s0), .second, .val (.double s1), .second, .val (.double v109_4), .second, .val (.ref b17), .val (.ref r_22), .unset, .unset, .unset]) rfl k) ?_
      show Go p e below _ (T22.setTop (mkF m 177 #[.val (.int p1), .val (.int p2), .val (.int p3), .val (.int p4), .val (.long q5), .second, .val (.int p6), .val (.int (1 : Int32)), .val (.int sp), .val (.int lo), .val (.int hi), .val (.int mid), .val (.double s0), .second, .val (.double s1), .second, .val (.double v109_4), .second, .val (.ref b17), .val (.ref r_22), .unset, .unset, .unset] []))
      refine go (fun _ k => XS.aload X22.here hx rfl (hb hby at_177) rfl rfl  k) ?_
      show Go p e below _ (T22.setTop (mkF m 179 #[.val (.int p1), .val (.int p2), .val (.int p3), .val (.int p4), .val (.long q5), .second, .val (.int p6), .val (.int (1 : Int32)), .val (.int sp), .val (.int lo), .val (.int hi), .val (.int mid), .val (.double s0), .second, .val (.double s1), .second, .val (.double v109_4), .second, .val (.ref b17), .val (.ref r_22), .unset, .unset, .unset] [(.ref r_22)]))
      have K25 : Keep h0 T22.heap [] := (K23.trans r22_0 all0)
      obtain ⟨cq24, kq24, q24a, q24b, q24c⟩ := isOf hZ rfl r22_2
      obtain ⟨_, _, ⟨T24, L24, k24, n24⟩, -, X24, ⟨Lc24, hQ24, l24, y24, z24⟩, st24⟩ := X22.virtualBack hx (y := (⟨"com/example/drienerlo/drienerlo/retrieval/Scored", "elements", "()[I"⟩ : MethodName)) (z := (⟨"com/example/drienerlo/drienerlo/retrieval/Scored", "elements", "()[I"⟩ : MethodName)) hown (mvT hZ (hw _ (List.mem_of_getElem? (i := 62) rfl))) (mvT hZ (hw _ (List.mem_of_getElem? (i := 63) rfl))) (notFace_of_selects (args := #[]) (mvT hZ (hw _ (List.mem_of_getElem? (i := 65) rfl)))) (mvT hZ (hw _ (List.mem_of_getElem? (i := 65) rfl))) (mvT hZ (hw _ (List.mem_of_getElem? (i := 64) rfl))) (by decide) (backOf (W := 0) (rm9 l Z a0 hw [] r_22 e1_22 T22.heap n0 (Nat.le_trans Z0 K25.1) r22_2 r22_3) hZ (hw _ (List.mem_of_getElem? (i := 66) rfl)) (hw _ (List.mem_of_getElem? (i := 29) rfl)) (by decide) (by decide)) q24a q24c (g := (mkF m 179 #[.val (.int p1), .val (.int p2), .val (.int p3), .val (.int p4), .val (.long q5), .second, .val (.int p6), .val (.int (1 : Int32)), .val (.int sp), .val (.int lo), .val (.int hi), .val (.int mid), .val (.double s0), .second, .val (.double s1), .second, .val (.double v109_4), .second, .val (.ref b17), .val (.ref r_22), .unset, .unset, .unset] [(.ref r_22)])) rfl (by rw [hml]; rfl) (Steps.refl _) (argsL := []) (rest := []) (lenOf pd_6 rfl) rfl (by show 2 * 0 + _ ≤ _; exact Nat.le_of_eq rfl) (hb hby at_179) (fun _ _ => ⟨rfl, rfl, (by decide : 6 + 0 ≤ _), (by decide : 21 + 0 ≤ _)⟩)
      dsimp only [Pt.U, Pt.locs, Pt.cells, Pt.slots] at X24 l24 y24 z24 st24 hQ24
      subst l24 y24 z24
      obtain ⟨rfl, N24q, e24⟩ := hQ24
      have N24 := Fr.app N22 N24q
      skip
      refine go (fun _ k => st24.trans k) ?_
      show Go p e below _ (T24.setTop (mkF m 182 #[.val (.int p1), .val (.int p2), .val (.int p3), .val (.int p4), .val (.long q5), .second, .val (.int p6), .val (.int (1 : Int32)), .val (.int sp), .val (.int lo), .val (.int hi), .val (.int mid), .val (.double s0), .second, .val (.double s1), .second, .val (.double v109_4), .second, .val (.ref b17), .val (.ref r_22), .unset, .unset, .unset] [(.ref e1_22)]))
      refine go (fun _ k => XS.astore X24.here hx rfl (hb hby at_182) rfl rfl (l' := #[.val (.int p1), .val (.int p2), .val (.int p3), .val (.int p4), .val (.long q5), .second, .val (.int p6), .val (.int (1 : Int32)), .val (.int sp), .val (.int lo), .val (.int hi), .val (.int mid), .val (.double s0), .second, .val (.double s1), .second, .val (.double v109_4), .second, .val (.ref b17), .val (.ref r_22), .val (.ref e1_22), .unset, .unset]) rfl k) ?_
      show Go p e below _ (T24.setTop (mkF m 184 #[.val (.int p1), .val (.int p2), .val (.int p3), .val (.int p4), .val (.long q5), .second, .val (.int p6), .val (.int (1 : Int32)), .val (.int sp), .val (.int lo), .val (.int hi), .val (.int mid), .val (.double s0), .second, .val (.double s1), .second, .val (.double v109_4), .second, .val (.ref b17), .val (.ref r_22), .val (.ref e1_22), .unset, .unset] []))
      refine go (fun _ k => XS.aload X24.here hx rfl (hb hby at_184) rfl rfl  k) ?_
      show Go p e below _ (T24.setTop (mkF m 186 #[.val (.int p1), .val (.int p2), .val (.int p3), .val (.int p4), .val (.long q5), .second, .val (.int p6), .val (.int (1 : Int32)), .val (.int sp), .val (.int lo), .val (.int hi), .val (.int mid), .val (.double s0), .second, .val (.double s1), .second, .val (.double v109_4), .second, .val (.ref b17), .val (.ref r_22), .val (.ref e1_22), .unset, .unset] [(.ref r_22)]))
      obtain ⟨cq26, kq26, q26a, q26b, q26c⟩ := isOf hZ e24 r22_2
      obtain ⟨_, _, ⟨T26, L26, k26, n26⟩, -, X26, ⟨Lc26, hQ26, l26, y26, z26⟩, st26⟩ := X24.virtualBack hx (y := (⟨"com/example/drienerlo/drienerlo/retrieval/Scored", "scores", "()[D"⟩ : MethodName)) (z := (⟨"com/example/drienerlo/drienerlo/retrieval/Scored", "scores", "()[D"⟩ : MethodName)) hown (mvT hZ (hw _ (List.mem_of_getElem? (i := 67) rfl))) (mvT hZ (hw _ (List.mem_of_getElem? (i := 68) rfl))) (notFace_of_selects (args := #[]) (mvT hZ (hw _ (List.mem_of_getElem? (i := 70) rfl)))) (mvT hZ (hw _ (List.mem_of_getElem? (i := 70) rfl))) (mvT hZ (hw _ (List.mem_of_getElem? (i := 69) rfl))) (by decide) (backOf (W := 0) (rm10 l Z a0 hw [] r_22 d1_22 T22.heap n0 (Nat.le_trans Z0 K25.1) r22_2 r22_4) hZ (hw _ (List.mem_of_getElem? (i := 71) rfl)) (hw _ (List.mem_of_getElem? (i := 29) rfl)) (by decide) (by decide)) q26a q26c (g := (mkF m 186 #[.val (.int p1), .val (.int p2), .val (.int p3), .val (.int p4), .val (.long q5), .second, .val (.int p6), .val (.int (1 : Int32)), .val (.int sp), .val (.int lo), .val (.int hi), .val (.int mid), .val (.double s0), .second, .val (.double s1), .second, .val (.double v109_4), .second, .val (.ref b17), .val (.ref r_22), .val (.ref e1_22), .unset, .unset] [(.ref r_22)])) rfl (by rw [hml]; rfl) (Steps.refl _) (argsL := []) (rest := []) (lenOf pd_7 rfl) rfl (by show 2 * 0 + _ ≤ _; exact Nat.le_of_eq rfl) (hb hby at_186) (fun _ _ => ⟨rfl, e24, (by decide : 6 + 0 ≤ _), (by decide : 21 + 0 ≤ _)⟩)
      dsimp only [Pt.U, Pt.locs, Pt.cells, Pt.slots] at X26 l26 y26 z26 st26 hQ26
      subst l26 y26 z26
      obtain ⟨rfl, N26q, e26⟩ := hQ26
      have N26 := Fr.app N24 N26q
      skip
      refine go (fun _ k => st26.trans k) ?_
      show Go p e below _ (T26.setTop (mkF m 189 #[.val (.int p1), .val (.int p2), .val (.int p3), .val (.int p4), .val (.long q5), .second, .val (.int p6), .val (.int (1 : Int32)), .val (.int sp), .val (.int lo), .val (.int hi), .val (.int mid), .val (.double s0), .second, .val (.double s1), .second, .val (.double v109_4), .second, .val (.ref b17), .val (.ref r_22), .val (.ref e1_22), .unset, .unset] [(.ref d1_22)]))
      refine go (fun _ k => XS.astore X26.here hx rfl (hb hby at_189) rfl rfl (l' := #[.val (.int p1), .val (.int p2), .val (.int p3), .val (.int p4), .val (.long q5), .second, .val (.int p6), .val (.int (1 : Int32)), .val (.int sp), .val (.int lo), .val (.int hi), .val (.int mid), .val (.double s0), .second, .val (.double s1), .second, .val (.double v109_4), .second, .val (.ref b17), .val (.ref r_22), .val (.ref e1_22), .val (.ref d1_22), .unset]) rfl k) ?_
      show Go p e below _ (T26.setTop (mkF m 191 #[.val (.int p1), .val (.int p2), .val (.int p3), .val (.int p4), .val (.long q5), .second, .val (.int p6), .val (.int (1 : Int32)), .val (.int sp), .val (.int lo), .val (.int hi), .val (.int mid), .val (.double s0), .second, .val (.double s1), .second, .val (.double v109_4), .second, .val (.ref b17), .val (.ref r_22), .val (.ref e1_22), .val (.ref d1_22), .unset] []))
      refine go (fun _ k => XS.aload X26.here hx rfl (hb hby at_191) rfl rfl  k) ?_
      show Go p e below _ (T26.setTop (mkF m 193 #[.val (.int p1), .val (.int p2), .val (.int p3), .val (.int p4), .val (.long q5), .second, .val (.int p6), .val (.int (1 : Int32)), .val (.int sp), .val (.int lo), .val (.int hi), .val (.int mid), .val (.double s0), .second, .val (.double s1), .second, .val (.double v109_4), .second, .val (.ref b17), .val (.ref r_22), .val (.ref e1_22), .val (.ref d1_22), .unset] [(.ref e1_22)]))
      obtain ⟨cl27, Ar27, -, S27, M27, -, -⟩ := id r22_5
      refine go (X26.arraylength hx (by rw [e26]; exact Ar27.1) (State.isArrayOf_alike hZ.alike Ar27.2.1) (g := (mkF m 193 #[.val (.int p1), .val (.int p2), .val (.int p3), .val (.int p4), .val (.long q5), .second, .val (.int p6), .val (.int (1 : Int32)), .val (.int sp), .val (.int lo), .val (.int hi), .val (.int mid), .val (.double s0), .second, .val (.double s1), .second, .val (.double v109_4), .second, .val (.ref b17), .val (.ref r_22), .val (.ref e1_22), .val (.ref d1_22), .unset] [(.ref e1_22)])) rfl rfl (hb hby at_193)) ?_
      rw [len_of S27 M27]
      show Go p e below _ (T26.setTop (mkF m 194 #[.val (.int p1), .val (.int p2), .val (.int p3), .val (.int p4), .val (.long q5), .second, .val (.int p6), .val (.int (1 : Int32)), .val (.int sp), .val (.int lo), .val (.int hi), .val (.int mid), .val (.double s0), .second, .val (.double s1), .second, .val (.double v109_4), .second, .val (.ref b17), .val (.ref r_22), .val (.ref e1_22), .val (.ref d1_22), .unset] [(.int (1 : Int32))]))
      refine go (fun _ k => XS.iload X26.here hx rfl (hb hby at_194) rfl  k) ?_
      show Go p e below _ (T26.setTop (mkF m 196 #[.val (.int p1), .val (.int p2), .val (.int p3), .val (.int p4), .val (.long q5), .second, .val (.int p6), .val (.int (1 : Int32)), .val (.int sp), .val (.int lo), .val (.int hi), .val (.int mid), .val (.double s0), .second, .val (.double s1), .second, .val (.double v109_4), .second, .val (.ref b17), .val (.ref r_22), .val (.ref e1_22), .val (.ref d1_22), .unset] [(.int (1 : Int32)), (.int (1 : Int32))]))
      refine go (fun _ k => XS.icmpNo X26.here hx rfl (hb hby at_196) rfl (teq (by decide : (1 : Int32) = (1 : Int32))).2 k) ?_
      show Go p e below _ (T26.setTop (mkF m 199 #[.val (.int p1), .val (.int p2), .val (.int p3), .val (.int p4), .val (.long q5), .second, .val (.int p6), .val (.int (1 : Int32)), .val (.int sp), .val (.int lo), .val (.int hi), .val (.int mid), .val (.double s0), .second, .val (.double s1), .second, .val (.double v109_4), .second, .val (.ref b17), .val (.ref r_22), .val (.ref e1_22), .val (.ref d1_22), .unset] []))
      refine go (fun _ k => XS.aload X26.here hx rfl (hb hby at_199) rfl rfl  k) ?_
      show Go p e below _ (T26.setTop (mkF m 201 #[.val (.int p1), .val (.int p2), .val (.int p3), .val (.int p4), .val (.long q5), .second, .val (.int p6), .val (.int (1 : Int32)), .val (.int sp), .val (.int lo), .val (.int hi), .val (.int mid), .val (.double s0), .second, .val (.double s1), .second, .val (.double v109_4), .second, .val (.ref b17), .val (.ref r_22), .val (.ref e1_22), .val (.ref d1_22), .unset] [(.ref d1_22)]))
      obtain ⟨cl28, Ar28, -, S28, M28, -, -⟩ := id r22_6
      refine go (X26.arraylength hx (by rw [e26]; exact Ar28.1) (State.isArrayOf_alike hZ.alike Ar28.2.1) (g := (mkF m 201 #[.val (.int p1), .val (.int p2), .val (.int p3), .val (.int p4), .val (.long q5), .second, .val (.int p6), .val (.int (1 : Int32)), .val (.int sp), .val (.int lo), .val (.int hi), .val (.int mid), .val (.double s0), .second, .val (.double s1), .second, .val (.double v109_4), .second, .val (.ref b17), .val (.ref r_22), .val (.ref e1_22), .val (.ref d1_22), .unset] [(.ref d1_22)])) rfl rfl (hb hby at_201)) ?_
      rw [len_of S28 M28]
      show Go p e below _ (T26.setTop (mkF m 202 #[.val (.int p1), .val (.int p2), .val (.int p3), .val (.int p4), .val (.long q5), .second, .val (.int p6), .val (.int (1 : Int32)), .val (.int sp), .val (.int lo), .val (.int hi), .val (.int mid), .val (.double s0), .second, .val (.double s1), .second, .val (.double v109_4), .second, .val (.ref b17), .val (.ref r_22), .val (.ref e1_22), .val (.ref d1_22), .unset] [(.int (1 : Int32))]))
      refine go (fun _ k => XS.iload X26.here hx rfl (hb hby at_202) rfl  k) ?_
      show Go p e below _ (T26.setTop (mkF m 204 #[.val (.int p1), .val (.int p2), .val (.int p3), .val (.int p4), .val (.long q5), .second, .val (.int p6), .val (.int (1 : Int32)), .val (.int sp), .val (.int lo), .val (.int hi), .val (.int mid), .val (.double s0), .second, .val (.double s1), .second, .val (.double v109_4), .second, .val (.ref b17), .val (.ref r_22), .val (.ref e1_22), .val (.ref d1_22), .unset] [(.int (1 : Int32)), (.int (1 : Int32))]))
      refine go (fun _ k => XS.icmpYes X26.here hx rfl (pc0 := 204) (pc' := 209) rfl (hb hby at_204) rfl (teq (by decide : (1 : Int32) = (1 : Int32))).1 (by decide) (by decide) k) ?_
      show Go p e below _ (T26.setTop (mkF m 209 #[.val (.int p1), .val (.int p2), .val (.int p3), .val (.int p4), .val (.long q5), .second, .val (.int p6), .val (.int (1 : Int32)), .val (.int sp), .val (.int lo), .val (.int hi), .val (.int mid), .val (.double s0), .second, .val (.double s1), .second, .val (.double v109_4), .second, .val (.ref b17), .val (.ref r_22), .val (.ref e1_22), .val (.ref d1_22), .unset] []))
      refine go (fun _ k => XS.iconst X26.here hx rfl (hb hby at_209) k) ?_
      show Go p e below _ (T26.setTop (mkF m 210 #[.val (.int p1), .val (.int p2), .val (.int p3), .val (.int p4), .val (.long q5), .second, .val (.int p6), .val (.int (1 : Int32)), .val (.int sp), .val (.int lo), .val (.int hi), .val (.int mid), .val (.double s0), .second, .val (.double s1), .second, .val (.double v109_4), .second, .val (.ref b17), .val (.ref r_22), .val (.ref e1_22), .val (.ref d1_22), .unset] [(.int (1 : Int32))]))
      refine go (fun _ k => XS.istore X26.here hx rfl (hb hby at_210) rfl (l' := #[.val (.int p1), .val (.int p2), .val (.int p3), .val (.int p4), .val (.long q5), .second, .val (.int p6), .val (.int (1 : Int32)), .val (.int sp), .val (.int lo), .val (.int hi), .val (.int mid), .val (.double s0), .second, .val (.double s1), .second, .val (.double v109_4), .second, .val (.ref b17), .val (.ref r_22), .val (.ref e1_22), .val (.ref d1_22), .val (.int (1 : Int32))]) rfl k) ?_
      show Go p e below _ (T26.setTop (mkF m 212 #[.val (.int p1), .val (.int p2), .val (.int p3), .val (.int p4), .val (.long q5), .second, .val (.int p6), .val (.int (1 : Int32)), .val (.int sp), .val (.int lo), .val (.int hi), .val (.int mid), .val (.double s0), .second, .val (.double s1), .second, .val (.double v109_4), .second, .val (.ref b17), .val (.ref r_22), .val (.ref e1_22), .val (.ref d1_22), .val (.int (1 : Int32))] []))
      refine go (fun _ k => XS.iload X26.here hx rfl (hb hby at_212) rfl  k) ?_
      show Go p e below _ (T26.setTop (mkF m 214 #[.val (.int p1), .val (.int p2), .val (.int p3), .val (.int p4), .val (.long q5), .second, .val (.int p6), .val (.int (1 : Int32)), .val (.int sp), .val (.int lo), .val (.int hi), .val (.int mid), .val (.double s0), .second, .val (.double s1), .second, .val (.double v109_4), .second, .val (.ref b17), .val (.ref r_22), .val (.ref e1_22), .val (.ref d1_22), .val (.int (1 : Int32))] [(.int (1 : Int32))]))
      refine go (fun _ k => XS.iconst X26.here hx rfl (hb hby at_214) k) ?_
      show Go p e below _ (T26.setTop (mkF m 215 #[.val (.int p1), .val (.int p2), .val (.int p3), .val (.int p4), .val (.long q5), .second, .val (.int p6), .val (.int (1 : Int32)), .val (.int sp), .val (.int lo), .val (.int hi), .val (.int mid), .val (.double s0), .second, .val (.double s1), .second, .val (.double v109_4), .second, .val (.ref b17), .val (.ref r_22), .val (.ref e1_22), .val (.ref d1_22), .val (.int (1 : Int32))] [(.int (1 : Int32)), (.int (1 : Int32))]))
      refine go (fun _ k => XS.icmpNo X26.here hx rfl (hb hby at_215) rfl (flt (by decide : ¬ ((1 : Int32) < (1 : Int32)))).1 k) ?_
      show Go p e below _ (T26.setTop (mkF m 218 #[.val (.int p1), .val (.int p2), .val (.int p3), .val (.int p4), .val (.long q5), .second, .val (.int p6), .val (.int (1 : Int32)), .val (.int sp), .val (.int lo), .val (.int hi), .val (.int mid), .val (.double s0), .second, .val (.double s1), .second, .val (.double v109_4), .second, .val (.ref b17), .val (.ref r_22), .val (.ref e1_22), .val (.ref d1_22), .val (.int (1 : Int32))] []))
      refine go (fun _ k => XS.iload X26.here hx rfl (hb hby at_218) rfl  k) ?_
      show Go p e below _ (T26.setTop (mkF m 220 #[.val (.int p1), .val (.int p2), .val (.int p3), .val (.int p4), .val (.long q5), .second, .val (.int p6), .val (.int (1 : Int32)), .val (.int sp), .val (.int lo), .val (.int hi), .val (.int mid), .val (.double s0), .second, .val (.double s1), .second, .val (.double v109_4), .second, .val (.ref b17), .val (.ref r_22), .val (.ref e1_22), .val (.ref d1_22), .val (.int (1 : Int32))] [(.int (1 : Int32))]))
      refine go (fun _ k => XS.ifNo X26.here hx rfl (hb hby at_220) rfl ((if0 _ _).trans (feq (by decide : ¬ ((1 : Int32) = (0 : Int32)))).1) k) ?_
      show Go p e below _ (T26.setTop (mkF m 223 #[.val (.int p1), .val (.int p2), .val (.int p3), .val (.int p4), .val (.long q5), .second, .val (.int p6), .val (.int (1 : Int32)), .val (.int sp), .val (.int lo), .val (.int hi), .val (.int mid), .val (.double s0), .second, .val (.double s1), .second, .val (.double v109_4), .second, .val (.ref b17), .val (.ref r_22), .val (.ref e1_22), .val (.ref d1_22), .val (.int (1 : Int32))] []))
      refine go (fun _ k => XS.aload X26.here hx rfl (hb hby at_223) rfl rfl  k) ?_
      show Go p e below _ (T26.setTop (mkF m 225 #[.val (.int p1), .val (.int p2), .val (.int p3), .val (.int p4), .val (.long q5), .second, .val (.int p6), .val (.int (1 : Int32)), .val (.int sp), .val (.int lo), .val (.int hi), .val (.int mid), .val (.double s0), .second, .val (.double s1), .second, .val (.double v109_4), .second, .val (.ref b17), .val (.ref r_22), .val (.ref e1_22), .val (.ref d1_22), .val (.int (1 : Int32))] [(.ref e1_22)]))
      refine go (fun _ k => XS.iconst X26.here hx rfl (hb hby at_225) k) ?_
      show Go p e below _ (T26.setTop (mkF m 226 #[.val (.int p1), .val (.int p2), .val (.int p3), .val (.int p4), .val (.long q5), .second, .val (.int p6), .val (.int (1 : Int32)), .val (.int sp), .val (.int lo), .val (.int hi), .val (.int mid), .val (.double s0), .second, .val (.double s1), .second, .val (.double v109_4), .second, .val (.ref b17), .val (.ref r_22), .val (.ref e1_22), .val (.ref d1_22), .val (.int (1 : Int32))] [(.int (0 : Int32)), (.ref e1_22)]))
      obtain ⟨cl29, Ar29, q29, S29, M29, H29, G29⟩ := id r22_5
      have hin29 : ¬ ((0 : Int32) < 0 ∨ cl29.slots.size ≤ ((0 : Int32)).toNatClampNeg) := inb_of S29 ⟨by decide, by decide⟩
      have hat29 : cl29.slots[((0 : Int32)).toNatClampNeg]? = some (.int lo) := Has.at H29 hin29 rfl
      refine go (X26.iaload hx (j := (0 : Int32)) (v := (.int lo)) (by rw [e26]; exact Ar29.1) (State.isArrayOf_alike hZ.alike Ar29.2.1) Ar29.2.2 hin29 hat29 (g := (mkF m 226 #[.val (.int p1), .val (.int p2), .val (.int p3), .val (.int p4), .val (.long q5), .second, .val (.int p6), .val (.int (1 : Int32)), .val (.int sp), .val (.int lo), .val (.int hi), .val (.int mid), .val (.double s0), .second, .val (.double s1), .second, .val (.double v109_4), .second, .val (.ref b17), .val (.ref r_22), .val (.ref e1_22), .val (.ref d1_22), .val (.int (1 : Int32))] [(.int (0 : Int32)), (.ref e1_22)])) rfl rfl (hb hby at_226)) ?_
      show Go p e below _ (T26.setTop (mkF m 227 #[.val (.int p1), .val (.int p2), .val (.int p3), .val (.int p4), .val (.long q5), .second, .val (.int p6), .val (.int (1 : Int32)), .val (.int sp), .val (.int lo), .val (.int hi), .val (.int mid), .val (.double s0), .second, .val (.double s1), .second, .val (.double v109_4), .second, .val (.ref b17), .val (.ref r_22), .val (.ref e1_22), .val (.ref d1_22), .val (.int (1 : Int32))] [(.int lo)]))
      refine go (fun _ k => XS.iload X26.here hx rfl (hb hby at_227) rfl  k) ?_
      show Go p e below _ (T26.setTop (mkF m 229 #[.val (.int p1), .val (.int p2), .val (.int p3), .val (.int p4), .val (.long q5), .second, .val (.int p6), .val (.int (1 : Int32)), .val (.int sp), .val (.int lo), .val (.int hi), .val (.int mid), .val (.double s0), .second, .val (.double s1), .second, .val (.double v109_4), .second, .val (.ref b17), .val (.ref r_22), .val (.ref e1_22), .val (.ref d1_22), .val (.int (1 : Int32))] [(.int lo), (.int lo)]))
      refine go (fun _ k => XS.icmpNo X26.here hx rfl (hb hby at_229) rfl (teq rfl).2 k) ?_
      show Go p e below _ (T26.setTop (mkF m 232 #[.val (.int p1), .val (.int p2), .val (.int p3), .val (.int p4), .val (.long q5), .second, .val (.int p6), .val (.int (1 : Int32)), .val (.int sp), .val (.int lo), .val (.int hi), .val (.int mid), .val (.double s0), .second, .val (.double s1), .second, .val (.double v109_4), .second, .val (.ref b17), .val (.ref r_22), .val (.ref e1_22), .val (.ref d1_22), .val (.int (1 : Int32))] []))
      refine go (fun _ k => XS.aload X26.here hx rfl (hb hby at_232) rfl rfl  k) ?_
      show Go p e below _ (T26.setTop (mkF m 234 #[.val (.int p1), .val (.int p2), .val (.int p3), .val (.int p4), .val (.long q5), .second, .val (.int p6), .val (.int (1 : Int32)), .val (.int sp), .val (.int lo), .val (.int hi), .val (.int mid), .val (.double s0), .second, .val (.double s1), .second, .val (.double v109_4), .second, .val (.ref b17), .val (.ref r_22), .val (.ref e1_22), .val (.ref d1_22), .val (.int (1 : Int32))] [(.ref d1_22)]))
      refine go (fun _ k => XS.iconst X26.here hx rfl (hb hby at_234) k) ?_
      show Go p e below _ (T26.setTop (mkF m 235 #[.val (.int p1), .val (.int p2), .val (.int p3), .val (.int p4), .val (.long q5), .second, .val (.int p6), .val (.int (1 : Int32)), .val (.int sp), .val (.int lo), .val (.int hi), .val (.int mid), .val (.double s0), .second, .val (.double s1), .second, .val (.double v109_4), .second, .val (.ref b17), .val (.ref r_22), .val (.ref e1_22), .val (.ref d1_22), .val (.int (1 : Int32))] [(.int (0 : Int32)), (.ref d1_22)]))
      obtain ⟨cl30, Ar30, q30, S30, M30, H30, G30⟩ := id r22_6
      have hin30 : ¬ ((0 : Int32) < 0 ∨ cl30.slots.size ≤ ((0 : Int32)).toNatClampNeg) := inb_of S30 ⟨by decide, by decide⟩
      have hat30 : cl30.slots[((0 : Int32)).toNatClampNeg]? = some (.double s0) := Has.at H30 hin30 rfl
      refine go (X26.daload hx (j := (0 : Int32)) (v := (.double s0)) (by rw [e26]; exact Ar30.1) (State.isArrayOf_alike hZ.alike Ar30.2.1) Ar30.2.2 hin30 hat30 (g := (mkF m 235 #[.val (.int p1), .val (.int p2), .val (.int p3), .val (.int p4), .val (.long q5), .second, .val (.int p6), .val (.int (1 : Int32)), .val (.int sp), .val (.int lo), .val (.int hi), .val (.int mid), .val (.double s0), .second, .val (.double s1), .second, .val (.double v109_4), .second, .val (.ref b17), .val (.ref r_22), .val (.ref e1_22), .val (.ref d1_22), .val (.int (1 : Int32))] [(.int (0 : Int32)), (.ref d1_22)])) rfl rfl (hb hby at_235)) ?_
      show Go p e below _ (T26.setTop (mkF m 236 #[.val (.int p1), .val (.int p2), .val (.int p3), .val (.int p4), .val (.long q5), .second, .val (.int p6), .val (.int (1 : Int32)), .val (.int sp), .val (.int lo), .val (.int hi), .val (.int mid), .val (.double s0), .second, .val (.double s1), .second, .val (.double v109_4), .second, .val (.ref b17), .val (.ref r_22), .val (.ref e1_22), .val (.ref d1_22), .val (.int (1 : Int32))] [(.double s0)]))
      refine go (fun _ k => XS.dload X26.here hx rfl (hb hby at_236) rfl  k) ?_
      show Go p e below _ (T26.setTop (mkF m 238 #[.val (.int p1), .val (.int p2), .val (.int p3), .val (.int p4), .val (.long q5), .second, .val (.int p6), .val (.int (1 : Int32)), .val (.int sp), .val (.int lo), .val (.int hi), .val (.int mid), .val (.double s0), .second, .val (.double s1), .second, .val (.double v109_4), .second, .val (.ref b17), .val (.ref r_22), .val (.ref e1_22), .val (.ref d1_22), .val (.int (1 : Int32))] [(.double s0), (.double s0)]))
      refine go (fun _ k => XS.dcmpS X26.here hx rfl (hb hby at_238) rfl (dcmpV_self nn0 .l) k) ?_
      show Go p e below _ (T26.setTop (mkF m 239 #[.val (.int p1), .val (.int p2), .val (.int p3), .val (.int p4), .val (.long q5), .second, .val (.int p6), .val (.int (1 : Int32)), .val (.int sp), .val (.int lo), .val (.int hi), .val (.int mid), .val (.double s0), .second, .val (.double s1), .second, .val (.double v109_4), .second, .val (.ref b17), .val (.ref r_22), .val (.ref e1_22), .val (.ref d1_22), .val (.int (1 : Int32))] [(.int (0 : Int32))]))
      refine go (fun _ k => XS.ifNo X26.here hx rfl (hb hby at_239) rfl ((if0 _ _).trans (teq (by decide : (0 : Int32) = (0 : Int32))).2) k) ?_
      show Go p e below _ (T26.setTop (mkF m 242 #[.val (.int p1), .val (.int p2), .val (.int p3), .val (.int p4), .val (.long q5), .second, .val (.int p6), .val (.int (1 : Int32)), .val (.int sp), .val (.int lo), .val (.int hi), .val (.int mid), .val (.double s0), .second, .val (.double s1), .second, .val (.double v109_4), .second, .val (.ref b17), .val (.ref r_22), .val (.ref e1_22), .val (.ref d1_22), .val (.int (1 : Int32))] []))
      refine go (fun _ k => XS.iconst X26.here hx rfl (hb hby at_242) k) ?_
      show Go p e below _ (T26.setTop (mkF m 243 #[.val (.int p1), .val (.int p2), .val (.int p3), .val (.int p4), .val (.long q5), .second, .val (.int p6), .val (.int (1 : Int32)), .val (.int sp), .val (.int lo), .val (.int hi), .val (.int mid), .val (.double s0), .second, .val (.double s1), .second, .val (.double v109_4), .second, .val (.ref b17), .val (.ref r_22), .val (.ref e1_22), .val (.ref d1_22), .val (.int (1 : Int32))] [(.int (1 : Int32))]))
      refine go (fun _ k => XS.goto X26.here hx rfl (pc0 := 243) (pc' := 247) rfl (hb hby at_243) (by decide) (by decide) k) ?_
      show Go p e below _ (T26.setTop (mkF m 247 #[.val (.int p1), .val (.int p2), .val (.int p3), .val (.int p4), .val (.long q5), .second, .val (.int p6), .val (.int (1 : Int32)), .val (.int sp), .val (.int lo), .val (.int hi), .val (.int mid), .val (.double s0), .second, .val (.double s1), .second, .val (.double v109_4), .second, .val (.ref b17), .val (.ref r_22), .val (.ref e1_22), .val (.ref d1_22), .val (.int (1 : Int32))] [(.int (1 : Int32))]))
      refine go (fun _ k => XS.istore X26.here hx rfl (hb hby at_247) rfl (l' := #[.val (.int p1), .val (.int p2), .val (.int p3), .val (.int p4), .val (.long q5), .second, .val (.int p6), .val (.int (1 : Int32)), .val (.int sp), .val (.int lo), .val (.int hi), .val (.int mid), .val (.double s0), .second, .val (.double s1), .second, .val (.double v109_4), .second, .val (.ref b17), .val (.ref r_22), .val (.ref e1_22), .val (.ref d1_22), .val (.int (1 : Int32))]) rfl k) ?_
      show Go p e below _ (T26.setTop (mkF m 249 #[.val (.int p1), .val (.int p2), .val (.int p3), .val (.int p4), .val (.long q5), .second, .val (.int p6), .val (.int (1 : Int32)), .val (.int sp), .val (.int lo), .val (.int hi), .val (.int mid), .val (.double s0), .second, .val (.double s1), .second, .val (.double v109_4), .second, .val (.ref b17), .val (.ref r_22), .val (.ref e1_22), .val (.ref d1_22), .val (.int (1 : Int32))] []))
      refine go (fun _ k => XS.iload X26.here hx rfl (hb hby at_249) rfl  k) ?_
      show Go p e below _ (T26.setTop (mkF m 251 #[.val (.int p1), .val (.int p2), .val (.int p3), .val (.int p4), .val (.long q5), .second, .val (.int p6), .val (.int (1 : Int32)), .val (.int sp), .val (.int lo), .val (.int hi), .val (.int mid), .val (.double s0), .second, .val (.double s1), .second, .val (.double v109_4), .second, .val (.ref b17), .val (.ref r_22), .val (.ref e1_22), .val (.ref d1_22), .val (.int (1 : Int32))] [(.int (1 : Int32))]))
      refine go (fun _ k => XS.iconst X26.here hx rfl (hb hby at_251) k) ?_
      show Go p e below _ (T26.setTop (mkF m 252 #[.val (.int p1), .val (.int p2), .val (.int p3), .val (.int p4), .val (.long q5), .second, .val (.int p6), .val (.int (1 : Int32)), .val (.int sp), .val (.int lo), .val (.int hi), .val (.int mid), .val (.double s0), .second, .val (.double s1), .second, .val (.double v109_4), .second, .val (.ref b17), .val (.ref r_22), .val (.ref e1_22), .val (.ref d1_22), .val (.int (1 : Int32))] [(.int (2 : Int32)), (.int (1 : Int32))]))
      refine go (fun _ k => XS.icmpYes X26.here hx rfl (pc0 := 252) (pc' := 286) rfl (hb hby at_252) rfl (tlt (by decide : (1 : Int32) < (2 : Int32))).1 (by decide) (by decide) k) ?_
      show Go p e below _ (T26.setTop (mkF m 286 #[.val (.int p1), .val (.int p2), .val (.int p3), .val (.int p4), .val (.long q5), .second, .val (.int p6), .val (.int (1 : Int32)), .val (.int sp), .val (.int lo), .val (.int hi), .val (.int mid), .val (.double s0), .second, .val (.double s1), .second, .val (.double v109_4), .second, .val (.ref b17), .val (.ref r_22), .val (.ref e1_22), .val (.ref d1_22), .val (.int (1 : Int32))] []))
      refine go (fun _ k => XS.iload X26.here hx rfl (hb hby at_286) rfl  k) ?_
      show Go p e below _ (T26.setTop (mkF m 288 #[.val (.int p1), .val (.int p2), .val (.int p3), .val (.int p4), .val (.long q5), .second, .val (.int p6), .val (.int (1 : Int32)), .val (.int sp), .val (.int lo), .val (.int hi), .val (.int mid), .val (.double s0), .second, .val (.double s1), .second, .val (.double v109_4), .second, .val (.ref b17), .val (.ref r_22), .val (.ref e1_22), .val (.ref d1_22), .val (.int (1 : Int32))] [(.int (1 : Int32))]))
      refine go (fun _ k => XS.iconst X26.here hx rfl (hb hby at_288) k) ?_
      show Go p e below _ (T26.setTop (mkF m 289 #[.val (.int p1), .val (.int p2), .val (.int p3), .val (.int p4), .val (.long q5), .second, .val (.int p6), .val (.int (1 : Int32)), .val (.int sp), .val (.int lo), .val (.int hi), .val (.int mid), .val (.double s0), .second, .val (.double s1), .second, .val (.double v109_4), .second, .val (.ref b17), .val (.ref r_22), .val (.ref e1_22), .val (.ref d1_22), .val (.int (1 : Int32))] [(.int (3 : Int32)), (.int (1 : Int32))]))
      refine go (fun _ k => XS.icmpYes X26.here hx rfl (pc0 := 289) (pc' := 323) rfl (hb hby at_289) rfl (tlt (by decide : (1 : Int32) < (3 : Int32))).1 (by decide) (by decide) k) ?_
      show Go p e below _ (T26.setTop (mkF m 323 #[.val (.int p1), .val (.int p2), .val (.int p3), .val (.int p4), .val (.long q5), .second, .val (.int p6), .val (.int (1 : Int32)), .val (.int sp), .val (.int lo), .val (.int hi), .val (.int mid), .val (.double s0), .second, .val (.double s1), .second, .val (.double v109_4), .second, .val (.ref b17), .val (.ref r_22), .val (.ref e1_22), .val (.ref d1_22), .val (.int (1 : Int32))] []))
      refine go (fun _ k => XS.iload X26.here hx rfl (hb hby at_323) rfl  k) ?_
      show Go p e below _ (T26.setTop (mkF m 325 #[.val (.int p1), .val (.int p2), .val (.int p3), .val (.int p4), .val (.long q5), .second, .val (.int p6), .val (.int (1 : Int32)), .val (.int sp), .val (.int lo), .val (.int hi), .val (.int mid), .val (.double s0), .second, .val (.double s1), .second, .val (.double v109_4), .second, .val (.ref b17), .val (.ref r_22), .val (.ref e1_22), .val (.ref d1_22), .val (.int (1 : Int32))] [(.int (1 : Int32))]))
      obtain ⟨fs, hr, hrun, hended, hW, hsame⟩ := X26.leave (v := some (.int (1 : Int32))) (fun h => by rw [Bd.returns] at h; cases h)
      refine leaf (T := T26) ⟨fs, retN X26 hx (t := .boolean) Bd.returns (by simp) (hb hby at_325) hr, hrun, hended, hW, hsame⟩ ?_ (by decide) (by decide)
      show Q0 Z p1 p2 p3 p4 q5 p6 h0 n0 _ T26.heap _
      rw [e26]
      exact ⟨rfl, N26⟩
    by_cases hc97_3 : (((p1.toUInt32 >>> ((3 : Int32) &&& 31).toUInt32).toInt32) &&& (1 : Int32)) = (0 : Int32)
    · skip
      refine go (fun _ k => XS.ifYes X4.here hx rfl (pc0 := 97) (pc' := 106) rfl (hb hby at_97) rfl ((if0 _ _).trans (teq hc97_3).1) (by decide) (by decide) k) ?_
      show Go p e below _ (T4.setTop (mkF m 106 #[.val (.int p1), .val (.int p2), .val (.int p3), .val (.int p4), .val (.long q5), .second, .val (.int p6), .val (.int (1 : Int32)), .val (.int sp), .val (.int lo), .val (.int hi), .val (.int mid), .val (.double s0), .second, .val (.double s1), .second, .unset, .unset, .unset, .unset, .unset, .unset, .unset] []))
      refine go (fun _ k => XS.iload X4.here hx rfl (hb hby at_106) rfl  k) ?_
      show Go p e below _ (T4.setTop (mkF m 108 #[.val (.int p1), .val (.int p2), .val (.int p3), .val (.int p4), .val (.long q5), .second, .val (.int p6), .val (.int (1 : Int32)), .val (.int sp), .val (.int lo), .val (.int hi), .val (.int mid), .val (.double s0), .second, .val (.double s1), .second, .unset, .unset, .unset, .unset, .unset, .unset, .unset] [(.int p6)]))
      refine go (fun _ k => XS.i2dS X4.here hx rfl (hb hby at_108) rfl rfl k) ?_
      show Go p e below _ (T4.setTop (mkF m 109 #[.val (.int p1), .val (.int p2), .val (.int p3), .val (.int p4), .val (.long q5), .second, .val (.int p6), .val (.int (1 : Int32)), .val (.int sp), .val (.int lo), .val (.int hi), .val (.int mid), .val (.double s0), .second, .val (.double s1), .second, .unset, .unset, .unset, .unset, .unset, .unset, .unset] [(.double (FP.i2d p6))]))
      exact J109_16 _ (by simp only [if_pos hc97_3, bz_t hc97_3, bz_f (fun q => q hc97_3 : ¬ ¬ ((((p1.toUInt32 >>> ((3 : Int32) &&& 31).toUInt32).toInt32) &&& (1 : Int32)) = (0 : Int32)))])
    · skip
      refine go (fun _ k => XS.ifNo X4.here hx rfl (hb hby at_97) rfl ((if0 _ _).trans (feq hc97_3).1) k) ?_
      show Go p e below _ (T4.setTop (mkF m 100 #[.val (.int p1), .val (.int p2), .val (.int p3), .val (.int p4), .val (.long q5), .second, .val (.int p6), .val (.int (1 : Int32)), .val (.int sp), .val (.int lo), .val (.int hi), .val (.int mid), .val (.double s0), .second, .val (.double s1), .second, .unset, .unset, .unset, .unset, .unset, .unset, .unset] []))
      refine go (X4.ldc2DoubleC hx hown (mvT hZ (hw _ (List.mem_of_getElem? (i := 72) rfl))) (g := (mkF m 100 #[.val (.int p1), .val (.int p2), .val (.int p3), .val (.int p4), .val (.long q5), .second, .val (.int p6), .val (.int (1 : Int32)), .val (.int sp), .val (.int lo), .val (.int hi), .val (.int mid), .val (.double s0), .second, .val (.double s1), .second, .unset, .unset, .unset, .unset, .unset, .unset, .unset] [])) rfl (hb hby at_100)) ?_
      show Go p e below _ (T4.setTop (mkF m 103 #[.val (.int p1), .val (.int p2), .val (.int p3), .val (.int p4), .val (.long q5), .second, .val (.int p6), .val (.int (1 : Int32)), .val (.int sp), .val (.int lo), .val (.int hi), .val (.int mid), .val (.double s0), .second, .val (.double s1), .second, .unset, .unset, .unset, .unset, .unset, .unset, .unset] [(.double (18442240474082181120 : UInt64))]))
      refine go (fun _ k => XS.goto X4.here hx rfl (pc0 := 103) (pc' := 109) rfl (hb hby at_103) (by decide) (by decide) k) ?_
      show Go p e below _ (T4.setTop (mkF m 109 #[.val (.int p1), .val (.int p2), .val (.int p3), .val (.int p4), .val (.long q5), .second, .val (.int p6), .val (.int (1 : Int32)), .val (.int sp), .val (.int lo), .val (.int hi), .val (.int mid), .val (.double s0), .second, .val (.double s1), .second, .unset, .unset, .unset, .unset, .unset, .unset, .unset] [(.double (18442240474082181120 : UInt64))]))
      exact J109_16 _ (by simp only [if_neg hc97_3, bz_f hc97_3, bz_t hc97_3])
  · skip
    rw [hk]
    show Go p e below _ (T4.setTop (mkF m 47 #[.val (.int p1), .val (.int p2), .val (.int p3), .val (.int p4), .val (.long q5), .second, .val (.int p6), .val (.int (2 : Int32)), .val (.int sp), .val (.int lo), .val (.int hi), .val (.int mid), .unset, .unset, .unset, .unset, .unset, .unset, .unset, .unset, .unset, .unset, .unset] []))
    refine go (fun _ k => XS.iload X4.here hx rfl (hb hby at_47) rfl  k) ?_
    show Go p e below _ (T4.setTop (mkF m 49 #[.val (.int p1), .val (.int p2), .val (.int p3), .val (.int p4), .val (.long q5), .second, .val (.int p6), .val (.int (2 : Int32)), .val (.int sp), .val (.int lo), .val (.int hi), .val (.int mid), .unset, .unset, .unset, .unset, .unset, .unset, .unset, .unset, .unset, .unset, .unset] [(.int (2 : Int32))]))
    refine go (fun _ k => XS.iconst X4.here hx rfl (hb hby at_49) k) ?_
    show Go p e below _ (T4.setTop (mkF m 50 #[.val (.int p1), .val (.int p2), .val (.int p3), .val (.int p4), .val (.long q5), .second, .val (.int p6), .val (.int (2 : Int32)), .val (.int sp), .val (.int lo), .val (.int hi), .val (.int mid), .unset, .unset, .unset, .unset, .unset, .unset, .unset, .unset, .unset, .unset, .unset] [(.int (2 : Int32)), (.int (2 : Int32))]))
    refine go (fun _ k => XS.icmpNo X4.here hx rfl (hb hby at_50) rfl (flt (by decide : ¬ ((2 : Int32) < (2 : Int32)))).1 k) ?_
    show Go p e below _ (T4.setTop (mkF m 53 #[.val (.int p1), .val (.int p2), .val (.int p3), .val (.int p4), .val (.long q5), .second, .val (.int p6), .val (.int (2 : Int32)), .val (.int sp), .val (.int lo), .val (.int hi), .val (.int mid), .unset, .unset, .unset, .unset, .unset, .unset, .unset, .unset, .unset, .unset, .unset] []))
    refine go (fun _ k => XS.iload X4.here hx rfl (hb hby at_53) rfl  k) ?_
    show Go p e below _ (T4.setTop (mkF m 55 #[.val (.int p1), .val (.int p2), .val (.int p3), .val (.int p4), .val (.long q5), .second, .val (.int p6), .val (.int (2 : Int32)), .val (.int sp), .val (.int lo), .val (.int hi), .val (.int mid), .unset, .unset, .unset, .unset, .unset, .unset, .unset, .unset, .unset, .unset, .unset] [(.int lo)]))
    refine go (fun _ k => XS.iload X4.here hx rfl (hb hby at_55) rfl  k) ?_
    show Go p e below _ (T4.setTop (mkF m 57 #[.val (.int p1), .val (.int p2), .val (.int p3), .val (.int p4), .val (.long q5), .second, .val (.int p6), .val (.int (2 : Int32)), .val (.int sp), .val (.int lo), .val (.int hi), .val (.int mid), .unset, .unset, .unset, .unset, .unset, .unset, .unset, .unset, .unset, .unset, .unset] [(.int mid), (.int lo)]))
    by_cases hc57_5 : lo = mid
    · skip
      refine go (fun _ k => XS.icmpNo X4.here hx rfl (hb hby at_57) rfl (teq hc57_5).2 k) ?_
      show Go p e below _ (T4.setTop (mkF m 60 #[.val (.int p1), .val (.int p2), .val (.int p3), .val (.int p4), .val (.long q5), .second, .val (.int p6), .val (.int (2 : Int32)), .val (.int sp), .val (.int lo), .val (.int hi), .val (.int mid), .unset, .unset, .unset, .unset, .unset, .unset, .unset, .unset, .unset, .unset, .unset] []))
      refine go (fun _ k => XS.iconst X4.here hx rfl (hb hby at_60) k) ?_
      show Go p e below _ (T4.setTop (mkF m 61 #[.val (.int p1), .val (.int p2), .val (.int p3), .val (.int p4), .val (.long q5), .second, .val (.int p6), .val (.int (2 : Int32)), .val (.int sp), .val (.int lo), .val (.int hi), .val (.int mid), .unset, .unset, .unset, .unset, .unset, .unset, .unset, .unset, .unset, .unset, .unset] [(.int (1 : Int32))]))
      obtain ⟨fs, hr, hrun, hended, hW, hsame⟩ := X4.leave (v := some (.int (1 : Int32))) (fun h => by rw [Bd.returns] at h; cases h)
      refine leaf (T := T4) ⟨fs, retN X4 hx (t := .boolean) Bd.returns (by simp) (hb hby at_61) hr, hrun, hended, hW, hsame⟩ ?_ (by decide) (by decide)
      show Q0 Z p1 p2 p3 p4 q5 p6 h0 n0 _ T4.heap _
      rw [e4]
      exact ⟨rfl, N4⟩
    · skip
      refine go (fun _ k => XS.icmpYes X4.here hx rfl (pc0 := 57) (pc' := 62) rfl (hb hby at_57) rfl (feq hc57_5).2 (by decide) (by decide) k) ?_
      show Go p e below _ (T4.setTop (mkF m 62 #[.val (.int p1), .val (.int p2), .val (.int p3), .val (.int p4), .val (.long q5), .second, .val (.int p6), .val (.int (2 : Int32)), .val (.int sp), .val (.int lo), .val (.int hi), .val (.int mid), .unset, .unset, .unset, .unset, .unset, .unset, .unset, .unset, .unset, .unset, .unset] []))
      refine go (fun _ k => XS.iload X4.here hx rfl (hb hby at_62) rfl  k) ?_
      show Go p e below _ (T4.setTop (mkF m 64 #[.val (.int p1), .val (.int p2), .val (.int p3), .val (.int p4), .val (.long q5), .second, .val (.int p6), .val (.int (2 : Int32)), .val (.int sp), .val (.int lo), .val (.int hi), .val (.int mid), .unset, .unset, .unset, .unset, .unset, .unset, .unset, .unset, .unset, .unset, .unset] [(.int (2 : Int32))]))
      refine go (fun _ k => XS.iconst X4.here hx rfl (hb hby at_64) k) ?_
      show Go p e below _ (T4.setTop (mkF m 65 #[.val (.int p1), .val (.int p2), .val (.int p3), .val (.int p4), .val (.long q5), .second, .val (.int p6), .val (.int (2 : Int32)), .val (.int sp), .val (.int lo), .val (.int hi), .val (.int mid), .unset, .unset, .unset, .unset, .unset, .unset, .unset, .unset, .unset, .unset, .unset] [(.int (3 : Int32)), (.int (2 : Int32))]))
      refine go (fun _ k => XS.icmpYes X4.here hx rfl (pc0 := 65) (pc' := 77) rfl (hb hby at_65) rfl (feq (by decide : ¬ ((2 : Int32) = (3 : Int32)))).2 (by decide) (by decide) k) ?_
      show Go p e below _ (T4.setTop (mkF m 77 #[.val (.int p1), .val (.int p2), .val (.int p3), .val (.int p4), .val (.long q5), .second, .val (.int p6), .val (.int (2 : Int32)), .val (.int sp), .val (.int lo), .val (.int hi), .val (.int mid), .unset, .unset, .unset, .unset, .unset, .unset, .unset, .unset, .unset, .unset, .unset] []))
      refine go (fun _ k => XS.lload X4.here hx rfl (hb hby at_77) rfl  k) ?_
      show Go p e below _ (T4.setTop (mkF m 79 #[.val (.int p1), .val (.int p2), .val (.int p3), .val (.int p4), .val (.long q5), .second, .val (.int p6), .val (.int (2 : Int32)), .val (.int sp), .val (.int lo), .val (.int hi), .val (.int mid), .unset, .unset, .unset, .unset, .unset, .unset, .unset, .unset, .unset, .unset, .unset] [(.long q5)]))
      refine go (fun _ k => XS.l2i X4.here hx rfl (hb hby at_79) rfl k) ?_
      show Go p e below _ (T4.setTop (mkF m 80 #[.val (.int p1), .val (.int p2), .val (.int p3), .val (.int p4), .val (.long q5), .second, .val (.int p6), .val (.int (2 : Int32)), .val (.int sp), .val (.int lo), .val (.int hi), .val (.int mid), .unset, .unset, .unset, .unset, .unset, .unset, .unset, .unset, .unset, .unset, .unset] [(.int (q5.toInt32))]))
      refine go (fun _ k => XS.i2dS X4.here hx rfl (hb hby at_80) rfl rfl k) ?_
      show Go p e below _ (T4.setTop (mkF m 81 #[.val (.int p1), .val (.int p2), .val (.int p3), .val (.int p4), .val (.long q5), .second, .val (.int p6), .val (.int (2 : Int32)), .val (.int sp), .val (.int lo), .val (.int hi), .val (.int mid), .unset, .unset, .unset, .unset, .unset, .unset, .unset, .unset, .unset, .unset, .unset] [(.double (FP.i2d (q5.toInt32)))]))
      refine go (fun _ k => XS.dstore X4.here hx rfl (hb hby at_81) rfl (l' := #[.val (.int p1), .val (.int p2), .val (.int p3), .val (.int p4), .val (.long q5), .second, .val (.int p6), .val (.int (2 : Int32)), .val (.int sp), .val (.int lo), .val (.int hi), .val (.int mid), .val (.double (FP.i2d (q5.toInt32))), .second, .unset, .unset, .unset, .unset, .unset, .unset, .unset, .unset, .unset]) rfl k) ?_
      show Go p e below _ (T4.setTop (mkF m 83 #[.val (.int p1), .val (.int p2), .val (.int p3), .val (.int p4), .val (.long q5), .second, .val (.int p6), .val (.int (2 : Int32)), .val (.int sp), .val (.int lo), .val (.int hi), .val (.int mid), .val (.double (FP.i2d (q5.toInt32))), .second, .unset, .unset, .unset, .unset, .unset, .unset, .unset, .unset, .unset] []))
      have nn0 := own_nan (q5.toInt32)
      generalize hs0 : (FP.i2d (q5.toInt32)) = s0 at nn0 ⊢
      show Go p e below _ (T4.setTop (mkF m 83 #[.val (.int p1), .val (.int p2), .val (.int p3), .val (.int p4), .val (.long q5), .second, .val (.int p6), .val (.int (2 : Int32)), .val (.int sp), .val (.int lo), .val (.int hi), .val (.int mid), .val (.double s0), .second, .unset, .unset, .unset, .unset, .unset, .unset, .unset, .unset, .unset] []))
      refine go (fun _ k => XS.lload X4.here hx rfl (hb hby at_83) rfl  k) ?_
      show Go p e below _ (T4.setTop (mkF m 85 #[.val (.int p1), .val (.int p2), .val (.int p3), .val (.int p4), .val (.long q5), .second, .val (.int p6), .val (.int (2 : Int32)), .val (.int sp), .val (.int lo), .val (.int hi), .val (.int mid), .val (.double s0), .second, .unset, .unset, .unset, .unset, .unset, .unset, .unset, .unset, .unset] [(.long q5)]))
      refine go (fun _ k => XS.bipush X4.here hx rfl (hb hby at_85) k) ?_
      show Go p e below _ (T4.setTop (mkF m 87 #[.val (.int p1), .val (.int p2), .val (.int p3), .val (.int p4), .val (.long q5), .second, .val (.int p6), .val (.int (2 : Int32)), .val (.int sp), .val (.int lo), .val (.int hi), .val (.int mid), .val (.double s0), .second, .unset, .unset, .unset, .unset, .unset, .unset, .unset, .unset, .unset] [(.int (32 : Int32)), (.long q5)]))
      refine go (fun _ k => XS.lshr X4.here hx rfl (hb hby at_87) rfl k) ?_
      show Go p e below _ (T4.setTop (mkF m 88 #[.val (.int p1), .val (.int p2), .val (.int p3), .val (.int p4), .val (.long q5), .second, .val (.int p6), .val (.int (2 : Int32)), .val (.int sp), .val (.int lo), .val (.int hi), .val (.int mid), .val (.double s0), .second, .unset, .unset, .unset, .unset, .unset, .unset, .unset, .unset, .unset] [(.long (q5 >>> ((32 : Int32) &&& 0x3f).toInt64))]))
      refine go (fun _ k => XS.l2i X4.here hx rfl (hb hby at_88) rfl k) ?_
      show Go p e below _ (T4.setTop (mkF m 89 #[.val (.int p1), .val (.int p2), .val (.int p3), .val (.int p4), .val (.long q5), .second, .val (.int p6), .val (.int (2 : Int32)), .val (.int sp), .val (.int lo), .val (.int hi), .val (.int mid), .val (.double s0), .second, .unset, .unset, .unset, .unset, .unset, .unset, .unset, .unset, .unset] [(.int ((q5 >>> ((32 : Int32) &&& 0x3f).toInt64).toInt32))]))
      refine go (fun _ k => XS.i2dS X4.here hx rfl (hb hby at_89) rfl rfl k) ?_
      show Go p e below _ (T4.setTop (mkF m 90 #[.val (.int p1), .val (.int p2), .val (.int p3), .val (.int p4), .val (.long q5), .second, .val (.int p6), .val (.int (2 : Int32)), .val (.int sp), .val (.int lo), .val (.int hi), .val (.int mid), .val (.double s0), .second, .unset, .unset, .unset, .unset, .unset, .unset, .unset, .unset, .unset] [(.double (FP.i2d ((q5 >>> ((32 : Int32) &&& 0x3f).toInt64).toInt32)))]))
      refine go (fun _ k => XS.dstore X4.here hx rfl (hb hby at_90) rfl (l' := #[.val (.int p1), .val (.int p2), .val (.int p3), .val (.int p4), .val (.long q5), .second, .val (.int p6), .val (.int (2 : Int32)), .val (.int sp), .val (.int lo), .val (.int hi), .val (.int mid), .val (.double s0), .second, .val (.double (FP.i2d ((q5 >>> ((32 : Int32) &&& 0x3f).toInt64).toInt32))), .second, .unset, .unset, .unset, .unset, .unset, .unset, .unset]) rfl k) ?_
      show Go p e below _ (T4.setTop (mkF m 92 #[.val (.int p1), .val (.int p2), .val (.int p3), .val (.int p4), .val (.long q5), .second, .val (.int p6), .val (.int (2 : Int32)), .val (.int sp), .val (.int lo), .val (.int hi), .val (.int mid), .val (.double s0), .second, .val (.double (FP.i2d ((q5 >>> ((32 : Int32) &&& 0x3f).toInt64).toInt32))), .second, .unset, .unset, .unset, .unset, .unset, .unset, .unset] []))
      have nn1 := own_nan ((q5 >>> ((32 : Int32) &&& 0x3f).toInt64).toInt32)
      generalize hs1 : (FP.i2d ((q5 >>> ((32 : Int32) &&& 0x3f).toInt64).toInt32)) = s1 at nn1 ⊢
      show Go p e below _ (T4.setTop (mkF m 92 #[.val (.int p1), .val (.int p2), .val (.int p3), .val (.int p4), .val (.long q5), .second, .val (.int p6), .val (.int (2 : Int32)), .val (.int sp), .val (.int lo), .val (.int hi), .val (.int mid), .val (.double s0), .second, .val (.double s1), .second, .unset, .unset, .unset, .unset, .unset, .unset, .unset] []))
      refine go (fun _ k => XS.iloadN X4.here hx rfl (hb hby at_92) rfl  k) ?_
      show Go p e below _ (T4.setTop (mkF m 93 #[.val (.int p1), .val (.int p2), .val (.int p3), .val (.int p4), .val (.long q5), .second, .val (.int p6), .val (.int (2 : Int32)), .val (.int sp), .val (.int lo), .val (.int hi), .val (.int mid), .val (.double s0), .second, .val (.double s1), .second, .unset, .unset, .unset, .unset, .unset, .unset, .unset] [(.int p1)]))
      refine go (fun _ k => XS.iconst X4.here hx rfl (hb hby at_93) k) ?_
      show Go p e below _ (T4.setTop (mkF m 94 #[.val (.int p1), .val (.int p2), .val (.int p3), .val (.int p4), .val (.long q5), .second, .val (.int p6), .val (.int (2 : Int32)), .val (.int sp), .val (.int lo), .val (.int hi), .val (.int mid), .val (.double s0), .second, .val (.double s1), .second, .unset, .unset, .unset, .unset, .unset, .unset, .unset] [(.int (3 : Int32)), (.int p1)]))
      refine go (fun _ k => XS.iushr X4.here hx rfl (hb hby at_94) rfl k) ?_
      show Go p e below _ (T4.setTop (mkF m 95 #[.val (.int p1), .val (.int p2), .val (.int p3), .val (.int p4), .val (.long q5), .second, .val (.int p6), .val (.int (2 : Int32)), .val (.int sp), .val (.int lo), .val (.int hi), .val (.int mid), .val (.double s0), .second, .val (.double s1), .second, .unset, .unset, .unset, .unset, .unset, .unset, .unset] [(.int ((p1.toUInt32 >>> ((3 : Int32) &&& 31).toUInt32).toInt32))]))
      refine go (fun _ k => XS.iconst X4.here hx rfl (hb hby at_95) k) ?_
      show Go p e below _ (T4.setTop (mkF m 96 #[.val (.int p1), .val (.int p2), .val (.int p3), .val (.int p4), .val (.long q5), .second, .val (.int p6), .val (.int (2 : Int32)), .val (.int sp), .val (.int lo), .val (.int hi), .val (.int mid), .val (.double s0), .second, .val (.double s1), .second, .unset, .unset, .unset, .unset, .unset, .unset, .unset] [(.int (1 : Int32)), (.int ((p1.toUInt32 >>> ((3 : Int32) &&& 31).toUInt32).toInt32))]))
      refine go (fun _ k => XS.iand X4.here hx rfl (hb hby at_96) rfl k) ?_
      show Go p e below _ (T4.setTop (mkF m 97 #[.val (.int p1), .val (.int p2), .val (.int p3), .val (.int p4), .val (.long q5), .second, .val (.int p6), .val (.int (2 : Int32)), .val (.int sp), .val (.int lo), .val (.int hi), .val (.int mid), .val (.double s0), .second, .val (.double s1), .second, .unset, .unset, .unset, .unset, .unset, .unset, .unset] [(.int (((p1.toUInt32 >>> ((3 : Int32) &&& 31).toUInt32).toInt32) &&& (1 : Int32)))]))
      have J109_31 : ∀ (v109_7 : UInt64), v109_7 = (if (((p1.toUInt32 >>> ((3 : Int32) &&& 31).toUInt32).toInt32) &&& (1 : Int32)) = (0 : Int32) then (FP.i2d p6) else (18442240474082181120 : UInt64)) → Go p e below (PP s below (Q0 Z p1 p2 p3 p4 q5 p6 h0 n0) room_1.cells room_1.slots) (T4.setTop (mkF m 109 #[.val (.int p1), .val (.int p2), .val (.int p3), .val (.int p4), .val (.long q5), .second, .val (.int p6), .val (.int (2 : Int32)), .val (.int sp), .val (.int lo), .val (.int hi), .val (.int mid), .val (.double s0), .second, .val (.double s1), .second, .unset, .unset, .unset, .unset, .unset, .unset, .unset] [(.double v109_7)])) := by
        intro v109_7 hv109_7
        show Go p e below _ (T4.setTop (mkF m 109 #[.val (.int p1), .val (.int p2), .val (.int p3), .val (.int p4), .val (.long q5), .second, .val (.int p6), .val (.int (2 : Int32)), .val (.int sp), .val (.int lo), .val (.int hi), .val (.int mid), .val (.double s0), .second, .val (.double s1), .second, .unset, .unset, .unset, .unset, .unset, .unset, .unset] [(.double v109_7)]))
        refine go (fun _ k => XS.dstore X4.here hx rfl (hb hby at_109) rfl (l' := #[.val (.int p1), .val (.int p2), .val (.int p3), .val (.int p4), .val (.long q5), .second, .val (.int p6), .val (.int (2 : Int32)), .val (.int sp), .val (.int lo), .val (.int hi), .val (.int mid), .val (.double s0), .second, .val (.double s1), .second, .val (.double v109_7), .second, .unset, .unset, .unset, .unset, .unset]) rfl k) ?_
        show Go p e below _ (T4.setTop (mkF m 111 #[.val (.int p1), .val (.int p2), .val (.int p3), .val (.int p4), .val (.long q5), .second, .val (.int p6), .val (.int (2 : Int32)), .val (.int sp), .val (.int lo), .val (.int hi), .val (.int mid), .val (.double s0), .second, .val (.double s1), .second, .val (.double v109_7), .second, .unset, .unset, .unset, .unset, .unset] []))
        have nn2 : Jvm.Free.Fl.NoNaN64 v109_7 := by rw [hv109_7]; split; exact own_nan _; exact own_ninf
        obtain ⟨T32, h32, X32, e32, E32, A32, D32, -, st32⟩ := newO X4 hx hZ hown (hw _ (List.mem_of_getElem? (i := 7) rfl)) (hw _ (List.mem_of_getElem? (i := 8) rfl)) (hw _ (List.mem_of_getElem? (i := 9) rfl)) e4 (g := (mkF m 111 #[.val (.int p1), .val (.int p2), .val (.int p3), .val (.int p4), .val (.long q5), .second, .val (.int p6), .val (.int (2 : Int32)), .val (.int sp), .val (.int lo), .val (.int hi), .val (.int mid), .val (.double s0), .second, .val (.double s1), .second, .val (.double v109_7), .second, .unset, .unset, .unset, .unset, .unset] [])) rfl (hb hby at_111) (by decide) (by decide)
        obtain ⟨b32, g32⟩ : ∃ z, z = h0.size := ⟨_, rfl⟩
        rw [← g32] at A32 D32 st32
        have sz_b32 : h0.size ≤ b32 := Nat.le_trans (Keep.refl h0 []).1 (Nat.le_of_eq g32.symm)
        have g_b32 : n0 ≤ b32 := Nat.le_trans Z0 sz_b32
        have F_elements_b32 : Fld Z h32 b32 "com/example/drienerlo/drienerlo/retrieval/Scored$Builder" "elements" "[I" .null := D32 (Or.inr (hw _ (List.mem_of_getElem? (i := 18) rfl))) (ty := (.array .int)) (by decide)
        have F_scores_b32 : Fld Z h32 b32 "com/example/drienerlo/drienerlo/retrieval/Scored$Builder" "scores" "[D" .null := D32 (Or.inr (hw _ (List.mem_of_getElem? (i := 21) rfl))) (ty := (.array .double)) (by decide)
        have F_size_b32 : Fld Z h32 b32 "com/example/drienerlo/drienerlo/retrieval/Scored$Builder" "size" "I" (.int (0 : Int32)) := D32 (Or.inl (hw _ (List.mem_of_getElem? (i := 31) rfl))) (ty := .int) (by decide)
        refine go st32 ?_
        show Go p e below _ (T32.setTop (mkF m 114 #[.val (.int p1), .val (.int p2), .val (.int p3), .val (.int p4), .val (.long q5), .second, .val (.int p6), .val (.int (2 : Int32)), .val (.int sp), .val (.int lo), .val (.int hi), .val (.int mid), .val (.double s0), .second, .val (.double s1), .second, .val (.double v109_7), .second, .unset, .unset, .unset, .unset, .unset] [(.ref b32)]))
        refine go (fun _ k => XS.dup X32.here hx rfl (hb hby at_114) rfl rfl k) ?_
        show Go p e below _ (T32.setTop (mkF m 115 #[.val (.int p1), .val (.int p2), .val (.int p3), .val (.int p4), .val (.long q5), .second, .val (.int p6), .val (.int (2 : Int32)), .val (.int sp), .val (.int lo), .val (.int hi), .val (.int mid), .val (.double s0), .second, .val (.double s1), .second, .val (.double v109_7), .second, .unset, .unset, .unset, .unset, .unset] [(.ref b32), (.ref b32)]))
        refine go (fun _ k => XS.iload X32.here hx rfl (hb hby at_115) rfl  k) ?_
        show Go p e below _ (T32.setTop (mkF m 117 #[.val (.int p1), .val (.int p2), .val (.int p3), .val (.int p4), .val (.long q5), .second, .val (.int p6), .val (.int (2 : Int32)), .val (.int sp), .val (.int lo), .val (.int hi), .val (.int mid), .val (.double s0), .second, .val (.double s1), .second, .val (.double v109_7), .second, .unset, .unset, .unset, .unset, .unset] [(.int (2 : Int32)), (.ref b32), (.ref b32)]))
        refine go (fun _ k => XS.iload X32.here hx rfl (hb hby at_117) rfl  k) ?_
        show Go p e below _ (T32.setTop (mkF m 119 #[.val (.int p1), .val (.int p2), .val (.int p3), .val (.int p4), .val (.long q5), .second, .val (.int p6), .val (.int (2 : Int32)), .val (.int sp), .val (.int lo), .val (.int hi), .val (.int mid), .val (.double s0), .second, .val (.double s1), .second, .val (.double v109_7), .second, .unset, .unset, .unset, .unset, .unset] [(.int sp), (.int (2 : Int32)), (.ref b32), (.ref b32)]))
        refine go (fun _ k => XS.iadd X32.here hx rfl (hb hby at_119) rfl k) ?_
        show Go p e below _ (T32.setTop (mkF m 120 #[.val (.int p1), .val (.int p2), .val (.int p3), .val (.int p4), .val (.long q5), .second, .val (.int p6), .val (.int (2 : Int32)), .val (.int sp), .val (.int lo), .val (.int hi), .val (.int mid), .val (.double s0), .second, .val (.double s1), .second, .val (.double v109_7), .second, .unset, .unset, .unset, .unset, .unset] [(.int ((2 : Int32) + sp)), (.ref b32), (.ref b32)]))
        have hn := own_cap (K := 2) (k := (2 : Int32)) (by decide) (by decide) (by decide) hsp
        generalize hN : ((2 : Int32) + sp) = n at hn ⊢
        show Go p e below _ (T32.setTop (mkF m 120 #[.val (.int p1), .val (.int p2), .val (.int p3), .val (.int p4), .val (.long q5), .second, .val (.int p6), .val (.int (2 : Int32)), .val (.int sp), .val (.int lo), .val (.int hi), .val (.int mid), .val (.double s0), .second, .val (.double s1), .second, .val (.double v109_7), .second, .unset, .unset, .unset, .unset, .unset] [(.int n), (.ref b32), (.ref b32)]))
        have K34 : Keep h0 h32 [] := ((Keep.refl h0 []).ext E32)
        obtain ⟨_, _, ⟨T33, L33, k33, n33⟩, -, X33, ⟨Lc33, hQ33, l33, y33, z33⟩, st33⟩ := X32.specialBack hx (y := (⟨"com/example/drienerlo/drienerlo/retrieval/Scored$Builder", "<init>", "(I)V"⟩ : MethodName)) rfl hown (mvT hZ (hw _ (List.mem_of_getElem? (i := 10) rfl))) (mvT hZ (hw _ (List.mem_of_getElem? (i := 11) rfl))) (mvT hZ (hw _ (List.mem_of_getElem? (i := 12) rfl))) (by decide) (backOf (W := 1) (rm3 l Z a0 hw [] b32 n .null .null (0 : Int32) h32 n0 (Nat.le_trans Z0 K34.1) A32 g_b32 F_elements_b32 F_scores_b32 F_size_b32 (⟨by omega, hn.2⟩ : 0 ≤ n.toInt ∧ n.toInt ≤ 4)) hZ (hw _ (List.mem_of_getElem? (i := 12) rfl)) (hw _ (List.mem_of_getElem? (i := 9) rfl)) (by decide) (by decide)) (g := (mkF m 120 #[.val (.int p1), .val (.int p2), .val (.int p3), .val (.int p4), .val (.long q5), .second, .val (.int p6), .val (.int (2 : Int32)), .val (.int sp), .val (.int lo), .val (.int hi), .val (.int mid), .val (.double s0), .second, .val (.double s1), .second, .val (.double v109_7), .second, .unset, .unset, .unset, .unset, .unset] [(.int n), (.ref b32), (.ref b32)])) rfl (by rw [hml]; rfl) (Steps.refl _) (a := b32) (argsL := [(.int n)]) (rest := [(.ref b32)]) (lenOf pd_4 rfl) rfl (by show 2 * 0 + _ ≤ _; exact Nat.le_of_eq rfl) (hb hby at_120) (fun _ _ => ⟨rfl, e32, (by decide : 1 + 2 ≤ _), (by decide : 3 + 8 ≤ _)⟩)
        dsimp only [Pt.U, Pt.locs, Pt.cells, Pt.slots] at X33 l33 y33 z33 st33 hQ33
        subst l33 y33 z33
        obtain ⟨be_33, ke_33, bd_33, kd_33, rfl, N33q, r33_0, r33_1, r33_2, r33_3, r33_4, r33_5, r33_6, r33_7, r33_8, r33_9, r33_10, r33_11⟩ := hQ33
        have N33 := Fr.app N4 N33q
        have sz_be_33 : h0.size ≤ be_33 := Nat.le_trans K34.1 r33_1
        have g_be_33 : n0 ≤ be_33 := Nat.le_trans Z0 sz_be_33
        have sz_bd_33 : h0.size ≤ bd_33 := Nat.le_trans K34.1 r33_2
        have g_bd_33 : n0 ≤ bd_33 := Nat.le_trans Z0 sz_bd_33
        refine go (fun _ k => st33.trans k) ?_
        show Go p e below _ (T33.setTop (mkF m 123 #[.val (.int p1), .val (.int p2), .val (.int p3), .val (.int p4), .val (.long q5), .second, .val (.int p6), .val (.int (2 : Int32)), .val (.int sp), .val (.int lo), .val (.int hi), .val (.int mid), .val (.double s0), .second, .val (.double s1), .second, .val (.double v109_7), .second, .unset, .unset, .unset, .unset, .unset] [(.ref b32)]))
        refine go (fun _ k => XS.astore X33.here hx rfl (hb hby at_123) rfl rfl (l' := #[.val (.int p1), .val (.int p2), .val (.int p3), .val (.int p4), .val (.long q5), .second, .val (.int p6), .val (.int (2 : Int32)), .val (.int sp), .val (.int lo), .val (.int hi), .val (.int mid), .val (.double s0), .second, .val (.double s1), .second, .val (.double v109_7), .second, .val (.ref b32), .unset, .unset, .unset, .unset]) rfl k) ?_
        show Go p e below _ (T33.setTop (mkF m 125 #[.val (.int p1), .val (.int p2), .val (.int p3), .val (.int p4), .val (.long q5), .second, .val (.int p6), .val (.int (2 : Int32)), .val (.int sp), .val (.int lo), .val (.int hi), .val (.int mid), .val (.double s0), .second, .val (.double s1), .second, .val (.double v109_7), .second, .val (.ref b32), .unset, .unset, .unset, .unset] []))
        refine go (fun _ k => XS.iload X33.here hx rfl (hb hby at_125) rfl  k) ?_
        show Go p e below _ (T33.setTop (mkF m 127 #[.val (.int p1), .val (.int p2), .val (.int p3), .val (.int p4), .val (.long q5), .second, .val (.int p6), .val (.int (2 : Int32)), .val (.int sp), .val (.int lo), .val (.int hi), .val (.int mid), .val (.double s0), .second, .val (.double s1), .second, .val (.double v109_7), .second, .val (.ref b32), .unset, .unset, .unset, .unset] [(.int (2 : Int32))]))
        refine go (fun _ k => XS.iconst X33.here hx rfl (hb hby at_127) k) ?_
        show Go p e below _ (T33.setTop (mkF m 128 #[.val (.int p1), .val (.int p2), .val (.int p3), .val (.int p4), .val (.long q5), .second, .val (.int p6), .val (.int (2 : Int32)), .val (.int sp), .val (.int lo), .val (.int hi), .val (.int mid), .val (.double s0), .second, .val (.double s1), .second, .val (.double v109_7), .second, .val (.ref b32), .unset, .unset, .unset, .unset] [(.int (1 : Int32)), (.int (2 : Int32))]))
        refine go (fun _ k => XS.icmpNo X33.here hx rfl (hb hby at_128) rfl (flt (by decide : ¬ ((2 : Int32) < (1 : Int32)))).1 k) ?_
        show Go p e below _ (T33.setTop (mkF m 131 #[.val (.int p1), .val (.int p2), .val (.int p3), .val (.int p4), .val (.long q5), .second, .val (.int p6), .val (.int (2 : Int32)), .val (.int sp), .val (.int lo), .val (.int hi), .val (.int mid), .val (.double s0), .second, .val (.double s1), .second, .val (.double v109_7), .second, .val (.ref b32), .unset, .unset, .unset, .unset] []))
        refine go (fun _ k => XS.aload X33.here hx rfl (hb hby at_131) rfl rfl  k) ?_
        show Go p e below _ (T33.setTop (mkF m 133 #[.val (.int p1), .val (.int p2), .val (.int p3), .val (.int p4), .val (.long q5), .second, .val (.int p6), .val (.int (2 : Int32)), .val (.int sp), .val (.int lo), .val (.int hi), .val (.int mid), .val (.double s0), .second, .val (.double s1), .second, .val (.double v109_7), .second, .val (.ref b32), .unset, .unset, .unset, .unset] [(.ref b32)]))
        refine go (fun _ k => XS.iload X33.here hx rfl (hb hby at_133) rfl  k) ?_
        show Go p e below _ (T33.setTop (mkF m 135 #[.val (.int p1), .val (.int p2), .val (.int p3), .val (.int p4), .val (.long q5), .second, .val (.int p6), .val (.int (2 : Int32)), .val (.int sp), .val (.int lo), .val (.int hi), .val (.int mid), .val (.double s0), .second, .val (.double s1), .second, .val (.double v109_7), .second, .val (.ref b32), .unset, .unset, .unset, .unset] [(.int lo), (.ref b32)]))
        refine go (fun _ k => XS.dload X33.here hx rfl (hb hby at_135) rfl  k) ?_
        show Go p e below _ (T33.setTop (mkF m 137 #[.val (.int p1), .val (.int p2), .val (.int p3), .val (.int p4), .val (.long q5), .second, .val (.int p6), .val (.int (2 : Int32)), .val (.int sp), .val (.int lo), .val (.int hi), .val (.int mid), .val (.double s0), .second, .val (.double s1), .second, .val (.double v109_7), .second, .val (.ref b32), .unset, .unset, .unset, .unset] [(.double s0), (.int lo), (.ref b32)]))
        have K36 : Keep h0 T33.heap [] := (K34.trans r33_0 (allS (Or.inr sz_b32) all0))
        obtain ⟨cq35, kq35, q35a, q35b, q35c⟩ := isOf hZ rfl r33_4
        obtain ⟨_, _, ⟨T35, L35, k35, n35⟩, -, X35, ⟨Lc35, hQ35, l35, y35, z35⟩, st35⟩ := X33.virtualBack hx (y := (⟨"com/example/drienerlo/drienerlo/retrieval/Scored$Builder", "add", "(ID)V"⟩ : MethodName)) (z := (⟨"com/example/drienerlo/drienerlo/retrieval/Scored$Builder", "add", "(ID)V"⟩ : MethodName)) hown (mvT hZ (hw _ (List.mem_of_getElem? (i := 73) rfl))) (mvT hZ (hw _ (List.mem_of_getElem? (i := 74) rfl))) (notFace_of_selects (args := #[]) (mvT hZ (hw _ (List.mem_of_getElem? (i := 76) rfl)))) (mvT hZ (hw _ (List.mem_of_getElem? (i := 76) rfl))) (mvT hZ (hw _ (List.mem_of_getElem? (i := 75) rfl))) (by decide) (backOf (W := 0) (rm11 l Z a0 hw [] b32 lo s0 be_33 ke_33 bd_33 kd_33 n ([(.int (0 : Int32)), (.int (0 : Int32)), (.int (0 : Int32)), (.int (0 : Int32))]) ([(.double (0 : UInt64)), (.double (0 : UInt64)), (.double (0 : UInt64)), (.double (0 : UInt64))]) (0 : Int32) 0 (1 : Int32) T33.heap n0 (Nat.le_trans Z0 K36.1) r33_4 r33_5 r33_6 r33_7 r33_8 r33_9 g_b32 g_be_33 g_bd_33 (Nat.ne_of_lt (Nat.lt_of_lt_of_le A32.lt r33_1)) (Nat.ne_of_lt (Nat.lt_of_lt_of_le A32.lt r33_2)) r33_3 (own_idx hn (by decide) (by decide) : ¬ (0 : Int32) < 0 ∧ (0 : Int32) < n) (by decide : (0 : Int32).toNatClampNeg = 0) (by simp : 0 < ([(.int (0 : Int32)), (.int (0 : Int32)), (.int (0 : Int32)), (.int (0 : Int32))]).length) (by simp : 0 < ([(.double (0 : UInt64)), (.double (0 : UInt64)), (.double (0 : UInt64)), (.double (0 : UInt64))]).length) (by decide : (0 : Int32) + (1 : Int32) = (1 : Int32))) hZ (hw _ (List.mem_of_getElem? (i := 77) rfl)) (hw _ (List.mem_of_getElem? (i := 9) rfl)) (by decide) (by decide)) q35a q35c (g := (mkF m 137 #[.val (.int p1), .val (.int p2), .val (.int p3), .val (.int p4), .val (.long q5), .second, .val (.int p6), .val (.int (2 : Int32)), .val (.int sp), .val (.int lo), .val (.int hi), .val (.int mid), .val (.double s0), .second, .val (.double s1), .second, .val (.double v109_7), .second, .val (.ref b32), .unset, .unset, .unset, .unset] [(.double s0), (.int lo), (.ref b32)])) rfl (by rw [hml]; rfl) (Steps.refl _) (argsL := [(.int lo), (.double s0)]) (rest := []) (lenOf pd_8 rfl) rfl (by show 2 * 0 + _ ≤ _; exact Nat.le_of_eq rfl) (hb hby at_137) (fun _ _ => ⟨rfl, rfl, (by decide : 3 + 0 ≤ _), (by decide : 11 + 0 ≤ _)⟩)
        dsimp only [Pt.U, Pt.locs, Pt.cells, Pt.slots] at X35 l35 y35 z35 st35 hQ35
        subst l35 y35 z35
        obtain ⟨rfl, N35q, r35_0, r35_1, r35_2, r35_3, r35_4, r35_5, r35_6⟩ := hQ35
        have N35 := Fr.app N33 N35q
        refine go (fun _ k => st35.trans k) ?_
        show Go p e below _ (T35.setTop (mkF m 140 #[.val (.int p1), .val (.int p2), .val (.int p3), .val (.int p4), .val (.long q5), .second, .val (.int p6), .val (.int (2 : Int32)), .val (.int sp), .val (.int lo), .val (.int hi), .val (.int mid), .val (.double s0), .second, .val (.double s1), .second, .val (.double v109_7), .second, .val (.ref b32), .unset, .unset, .unset, .unset] []))
        refine go (fun _ k => XS.iload X35.here hx rfl (hb hby at_140) rfl  k) ?_
        show Go p e below _ (T35.setTop (mkF m 142 #[.val (.int p1), .val (.int p2), .val (.int p3), .val (.int p4), .val (.long q5), .second, .val (.int p6), .val (.int (2 : Int32)), .val (.int sp), .val (.int lo), .val (.int hi), .val (.int mid), .val (.double s0), .second, .val (.double s1), .second, .val (.double v109_7), .second, .val (.ref b32), .unset, .unset, .unset, .unset] [(.int (2 : Int32))]))
        refine go (fun _ k => XS.iconst X35.here hx rfl (hb hby at_142) k) ?_
        show Go p e below _ (T35.setTop (mkF m 143 #[.val (.int p1), .val (.int p2), .val (.int p3), .val (.int p4), .val (.long q5), .second, .val (.int p6), .val (.int (2 : Int32)), .val (.int sp), .val (.int lo), .val (.int hi), .val (.int mid), .val (.double s0), .second, .val (.double s1), .second, .val (.double v109_7), .second, .val (.ref b32), .unset, .unset, .unset, .unset] [(.int (2 : Int32)), (.int (2 : Int32))]))
        refine go (fun _ k => XS.icmpNo X35.here hx rfl (hb hby at_143) rfl (flt (by decide : ¬ ((2 : Int32) < (2 : Int32)))).1 k) ?_
        show Go p e below _ (T35.setTop (mkF m 146 #[.val (.int p1), .val (.int p2), .val (.int p3), .val (.int p4), .val (.long q5), .second, .val (.int p6), .val (.int (2 : Int32)), .val (.int sp), .val (.int lo), .val (.int hi), .val (.int mid), .val (.double s0), .second, .val (.double s1), .second, .val (.double v109_7), .second, .val (.ref b32), .unset, .unset, .unset, .unset] []))
        refine go (fun _ k => XS.aload X35.here hx rfl (hb hby at_146) rfl rfl  k) ?_
        show Go p e below _ (T35.setTop (mkF m 148 #[.val (.int p1), .val (.int p2), .val (.int p3), .val (.int p4), .val (.long q5), .second, .val (.int p6), .val (.int (2 : Int32)), .val (.int sp), .val (.int lo), .val (.int hi), .val (.int mid), .val (.double s0), .second, .val (.double s1), .second, .val (.double v109_7), .second, .val (.ref b32), .unset, .unset, .unset, .unset] [(.ref b32)]))
        refine go (fun _ k => XS.iload X35.here hx rfl (hb hby at_148) rfl  k) ?_
        show Go p e below _ (T35.setTop (mkF m 150 #[.val (.int p1), .val (.int p2), .val (.int p3), .val (.int p4), .val (.long q5), .second, .val (.int p6), .val (.int (2 : Int32)), .val (.int sp), .val (.int lo), .val (.int hi), .val (.int mid), .val (.double s0), .second, .val (.double s1), .second, .val (.double v109_7), .second, .val (.ref b32), .unset, .unset, .unset, .unset] [(.int mid), (.ref b32)]))
        refine go (fun _ k => XS.dload X35.here hx rfl (hb hby at_150) rfl  k) ?_
        show Go p e below _ (T35.setTop (mkF m 152 #[.val (.int p1), .val (.int p2), .val (.int p3), .val (.int p4), .val (.long q5), .second, .val (.int p6), .val (.int (2 : Int32)), .val (.int sp), .val (.int lo), .val (.int hi), .val (.int mid), .val (.double s0), .second, .val (.double s1), .second, .val (.double v109_7), .second, .val (.ref b32), .unset, .unset, .unset, .unset] [(.double s1), (.int mid), (.ref b32)]))
        have K38 : Keep h0 T35.heap [] := (K36.trans r35_0 (allS (Or.inr sz_b32) (allS (Or.inr sz_be_33) (allS (Or.inr sz_bd_33) all0))))
        obtain ⟨cq37, kq37, q37a, q37b, q37c⟩ := isOf hZ rfl r35_1
        obtain ⟨_, _, ⟨T37, L37, k37, n37⟩, -, X37, ⟨Lc37, hQ37, l37, y37, z37⟩, st37⟩ := X35.virtualBack hx (y := (⟨"com/example/drienerlo/drienerlo/retrieval/Scored$Builder", "add", "(ID)V"⟩ : MethodName)) (z := (⟨"com/example/drienerlo/drienerlo/retrieval/Scored$Builder", "add", "(ID)V"⟩ : MethodName)) hown (mvT hZ (hw _ (List.mem_of_getElem? (i := 73) rfl))) (mvT hZ (hw _ (List.mem_of_getElem? (i := 74) rfl))) (notFace_of_selects (args := #[]) (mvT hZ (hw _ (List.mem_of_getElem? (i := 76) rfl)))) (mvT hZ (hw _ (List.mem_of_getElem? (i := 76) rfl))) (mvT hZ (hw _ (List.mem_of_getElem? (i := 75) rfl))) (by decide) (backOf (W := 0) (rm11 l Z a0 hw [] b32 mid s1 be_33 ke_33 bd_33 kd_33 n (([(.int (0 : Int32)), (.int (0 : Int32)), (.int (0 : Int32)), (.int (0 : Int32))]).set 0 (.int lo)) (([(.double (0 : UInt64)), (.double (0 : UInt64)), (.double (0 : UInt64)), (.double (0 : UInt64))]).set 0 (.double s0)) (1 : Int32) 1 (2 : Int32) T35.heap n0 (Nat.le_trans Z0 K38.1) r35_1 r35_2 r35_3 r35_4 r35_5 r35_6 g_b32 g_be_33 g_bd_33 (Nat.ne_of_lt (Nat.lt_of_lt_of_le A32.lt r33_1)) (Nat.ne_of_lt (Nat.lt_of_lt_of_le A32.lt r33_2)) r33_3 (own_idx hn (by decide) (by decide) : ¬ (1 : Int32) < 0 ∧ (1 : Int32) < n) (by decide : (1 : Int32).toNatClampNeg = 1) (by simp : 1 < (([(.int (0 : Int32)), (.int (0 : Int32)), (.int (0 : Int32)), (.int (0 : Int32))]).set 0 (.int lo)).length) (by simp : 1 < (([(.double (0 : UInt64)), (.double (0 : UInt64)), (.double (0 : UInt64)), (.double (0 : UInt64))]).set 0 (.double s0)).length) (by decide : (1 : Int32) + (1 : Int32) = (2 : Int32))) hZ (hw _ (List.mem_of_getElem? (i := 77) rfl)) (hw _ (List.mem_of_getElem? (i := 9) rfl)) (by decide) (by decide)) q37a q37c (g := (mkF m 152 #[.val (.int p1), .val (.int p2), .val (.int p3), .val (.int p4), .val (.long q5), .second, .val (.int p6), .val (.int (2 : Int32)), .val (.int sp), .val (.int lo), .val (.int hi), .val (.int mid), .val (.double s0), .second, .val (.double s1), .second, .val (.double v109_7), .second, .val (.ref b32), .unset, .unset, .unset, .unset] [(.double s1), (.int mid), (.ref b32)])) rfl (by rw [hml]; rfl) (Steps.refl _) (argsL := [(.int mid), (.double s1)]) (rest := []) (lenOf pd_8 rfl) rfl (by show 2 * 0 + _ ≤ _; exact Nat.le_of_eq rfl) (hb hby at_152) (fun _ _ => ⟨rfl, rfl, (by decide : 3 + 0 ≤ _), (by decide : 11 + 0 ≤ _)⟩)
        dsimp only [Pt.U, Pt.locs, Pt.cells, Pt.slots] at X37 l37 y37 z37 st37 hQ37
        subst l37 y37 z37
        obtain ⟨rfl, N37q, r37_0, r37_1, r37_2, r37_3, r37_4, r37_5, r37_6⟩ := hQ37
        have N37 := Fr.app N35 N37q
        refine go (fun _ k => st37.trans k) ?_
        show Go p e below _ (T37.setTop (mkF m 155 #[.val (.int p1), .val (.int p2), .val (.int p3), .val (.int p4), .val (.long q5), .second, .val (.int p6), .val (.int (2 : Int32)), .val (.int sp), .val (.int lo), .val (.int hi), .val (.int mid), .val (.double s0), .second, .val (.double s1), .second, .val (.double v109_7), .second, .val (.ref b32), .unset, .unset, .unset, .unset] []))
        refine go (fun _ k => XS.iload X37.here hx rfl (hb hby at_155) rfl  k) ?_
        show Go p e below _ (T37.setTop (mkF m 157 #[.val (.int p1), .val (.int p2), .val (.int p3), .val (.int p4), .val (.long q5), .second, .val (.int p6), .val (.int (2 : Int32)), .val (.int sp), .val (.int lo), .val (.int hi), .val (.int mid), .val (.double s0), .second, .val (.double s1), .second, .val (.double v109_7), .second, .val (.ref b32), .unset, .unset, .unset, .unset] [(.int (2 : Int32))]))
        refine go (fun _ k => XS.iconst X37.here hx rfl (hb hby at_157) k) ?_
        show Go p e below _ (T37.setTop (mkF m 158 #[.val (.int p1), .val (.int p2), .val (.int p3), .val (.int p4), .val (.long q5), .second, .val (.int p6), .val (.int (2 : Int32)), .val (.int sp), .val (.int lo), .val (.int hi), .val (.int mid), .val (.double s0), .second, .val (.double s1), .second, .val (.double v109_7), .second, .val (.ref b32), .unset, .unset, .unset, .unset] [(.int (3 : Int32)), (.int (2 : Int32))]))
        refine go (fun _ k => XS.icmpYes X37.here hx rfl (pc0 := 158) (pc' := 170) rfl (hb hby at_158) rfl (tlt (by decide : (2 : Int32) < (3 : Int32))).1 (by decide) (by decide) k) ?_
        show Go p e below _ (T37.setTop (mkF m 170 #[.val (.int p1), .val (.int p2), .val (.int p3), .val (.int p4), .val (.long q5), .second, .val (.int p6), .val (.int (2 : Int32)), .val (.int sp), .val (.int lo), .val (.int hi), .val (.int mid), .val (.double s0), .second, .val (.double s1), .second, .val (.double v109_7), .second, .val (.ref b32), .unset, .unset, .unset, .unset] []))
        refine go (fun _ k => XS.aload X37.here hx rfl (hb hby at_170) rfl rfl  k) ?_
        show Go p e below _ (T37.setTop (mkF m 172 #[.val (.int p1), .val (.int p2), .val (.int p3), .val (.int p4), .val (.long q5), .second, .val (.int p6), .val (.int (2 : Int32)), .val (.int sp), .val (.int lo), .val (.int hi), .val (.int mid), .val (.double s0), .second, .val (.double s1), .second, .val (.double v109_7), .second, .val (.ref b32), .unset, .unset, .unset, .unset] [(.ref b32)]))
        have K40 : Keep h0 T37.heap [] := (K38.trans r37_0 (allS (Or.inr sz_b32) (allS (Or.inr sz_be_33) (allS (Or.inr sz_bd_33) all0))))
        obtain ⟨cq39, kq39, q39a, q39b, q39c⟩ := isOf hZ rfl r37_1
        obtain ⟨_, _, ⟨T39, L39, k39, n39⟩, -, X39, ⟨Lc39, hQ39, l39, y39, z39⟩, st39⟩ := X37.virtualBack hx (y := (⟨"com/example/drienerlo/drienerlo/retrieval/Scored$Builder", "build", "()Lcom/example/drienerlo/drienerlo/retrieval/Scored;"⟩ : MethodName)) (z := (⟨"com/example/drienerlo/drienerlo/retrieval/Scored$Builder", "build", "()Lcom/example/drienerlo/drienerlo/retrieval/Scored;"⟩ : MethodName)) hown (mvT hZ (hw _ (List.mem_of_getElem? (i := 22) rfl))) (mvT hZ (hw _ (List.mem_of_getElem? (i := 23) rfl))) (notFace_of_selects (args := #[]) (mvT hZ (hw _ (List.mem_of_getElem? (i := 25) rfl)))) (mvT hZ (hw _ (List.mem_of_getElem? (i := 25) rfl))) (mvT hZ (hw _ (List.mem_of_getElem? (i := 24) rfl))) (by decide) (backOf (W := 0) (rm5 l Z a0 hw [] b32 be_33 ke_33 bd_33 kd_33 n ((([(.int (0 : Int32)), (.int (0 : Int32)), (.int (0 : Int32)), (.int (0 : Int32))]).set 0 (.int lo)).set 1 (.int mid)) ((([(.double (0 : UInt64)), (.double (0 : UInt64)), (.double (0 : UInt64)), (.double (0 : UInt64))]).set 0 (.double s0)).set 1 (.double s1)) (2 : Int32) T37.heap n0 (Nat.le_trans Z0 K40.1) r37_1 r37_2 r37_3 r37_4 r37_5 r37_6 ((r33_10.keep r35_0).keep r37_0) ((r33_11.keep r35_0).keep r37_0) (own_idz hn (by decide) (by decide) : ¬ (2 : Int32) < 0 ∧ ¬ n < (2 : Int32)) (hn.2 : n.toInt ≤ 4)) hZ (hw _ (List.mem_of_getElem? (i := 26) rfl)) (hw _ (List.mem_of_getElem? (i := 9) rfl)) (by decide) (by decide)) q39a q39c (g := (mkF m 172 #[.val (.int p1), .val (.int p2), .val (.int p3), .val (.int p4), .val (.long q5), .second, .val (.int p6), .val (.int (2 : Int32)), .val (.int sp), .val (.int lo), .val (.int hi), .val (.int mid), .val (.double s0), .second, .val (.double s1), .second, .val (.double v109_7), .second, .val (.ref b32), .unset, .unset, .unset, .unset] [(.ref b32)])) rfl (by rw [hml]; rfl) (Steps.refl _) (argsL := []) (rest := []) (lenOf pd_5 rfl) rfl (by show 2 * 0 + _ ≤ _; exact Nat.le_of_eq rfl) (hb hby at_172) (fun _ _ => ⟨rfl, rfl, (by decide : 3 + 3 ≤ _), (by decide : 11 + 10 ≤ _)⟩)
        dsimp only [Pt.U, Pt.locs, Pt.cells, Pt.slots] at X39 l39 y39 z39 st39 hQ39
        subst l39 y39 z39
        obtain ⟨r_39, e1_39, k1_39, d1_39, k2_39, rfl, N39q, r39_0, r39_1, r39_2, r39_3, r39_4, r39_5, r39_6⟩ := hQ39
        have N39 := Fr.app N37 N39q
        have sz_r_39 : h0.size ≤ r_39 := Nat.le_trans K40.1 r39_1
        have g_r_39 : n0 ≤ r_39 := Nat.le_trans Z0 sz_r_39
        skip
        refine go (fun _ k => st39.trans k) ?_
        show Go p e below _ (T39.setTop (mkF m 175 #[.val (.int p1), .val (.int p2), .val (.int p3), .val (.int p4), .val (.long q5), .second, .val (.int p6), .val (.int (2 : Int32)), .val (.int sp), .val (.int lo), .val (.int hi), .val (.int mid), .val (.double s0), .second, .val (.double s1), .second, .val (.double v109_7), .second, .val (.ref b32), .unset, .unset, .unset, .unset] [(.ref r_39)]))
        refine go (fun _ k => XS.astore X39.here hx rfl (hb hby at_175) rfl rfl (l' := #[.val (.int p1), .val (.int p2), .val (.int p3), .val (.int p4), .val (.long q5), .second, .val (.int p6), .val (.int (2 : Int32)), .val (.int sp), .val (.int lo), .val (.int hi), .val (.int mid), .val (.double s0), .second, .val (.double s1), .second, .val (.double v109_7), .second, .val (.ref b32), .val (.ref r_39), .unset, .unset, .unset]) rfl k) ?_
        show Go p e below _ (T39.setTop (mkF m 177 #[.val (.int p1), .val (.int p2), .val (.int p3), .val (.int p4), .val (.long q5), .second, .val (.int p6), .val (.int (2 : Int32)), .val (.int sp), .val (.int lo), .val (.int hi), .val (.int mid), .val (.double s0), .second, .val (.double s1), .second, .val (.double v109_7), .second, .val (.ref b32), .val (.ref r_39), .unset, .unset, .unset] []))
        refine go (fun _ k => XS.aload X39.here hx rfl (hb hby at_177) rfl rfl  k) ?_
        show Go p e below _ (T39.setTop (mkF m 179 #[.val (.int p1), .val (.int p2), .val (.int p3), .val (.int p4), .val (.long q5), .second, .val (.int p6), .val (.int (2 : Int32)), .val (.int sp), .val (.int lo), .val (.int hi), .val (.int mid), .val (.double s0), .second, .val (.double s1), .second, .val (.double v109_7), .second, .val (.ref b32), .val (.ref r_39), .unset, .unset, .unset] [(.ref r_39)]))
        have K42 : Keep h0 T39.heap [] := (K40.trans r39_0 all0)
        obtain ⟨cq41, kq41, q41a, q41b, q41c⟩ := isOf hZ rfl r39_2
        obtain ⟨_, _, ⟨T41, L41, k41, n41⟩, -, X41, ⟨Lc41, hQ41, l41, y41, z41⟩, st41⟩ := X39.virtualBack hx (y := (⟨"com/example/drienerlo/drienerlo/retrieval/Scored", "elements", "()[I"⟩ : MethodName)) (z := (⟨"com/example/drienerlo/drienerlo/retrieval/Scored", "elements", "()[I"⟩ : MethodName)) hown (mvT hZ (hw _ (List.mem_of_getElem? (i := 62) rfl))) (mvT hZ (hw _ (List.mem_of_getElem? (i := 63) rfl))) (notFace_of_selects (args := #[]) (mvT hZ (hw _ (List.mem_of_getElem? (i := 65) rfl)))) (mvT hZ (hw _ (List.mem_of_getElem? (i := 65) rfl))) (mvT hZ (hw _ (List.mem_of_getElem? (i := 64) rfl))) (by decide) (backOf (W := 0) (rm9 l Z a0 hw [] r_39 e1_39 T39.heap n0 (Nat.le_trans Z0 K42.1) r39_2 r39_3) hZ (hw _ (List.mem_of_getElem? (i := 66) rfl)) (hw _ (List.mem_of_getElem? (i := 29) rfl)) (by decide) (by decide)) q41a q41c (g := (mkF m 179 #[.val (.int p1), .val (.int p2), .val (.int p3), .val (.int p4), .val (.long q5), .second, .val (.int p6), .val (.int (2 : Int32)), .val (.int sp), .val (.int lo), .val (.int hi), .val (.int mid), .val (.double s0), .second, .val (.double s1), .second, .val (.double v109_7), .second, .val (.ref b32), .val (.ref r_39), .unset, .unset, .unset] [(.ref r_39)])) rfl (by rw [hml]; rfl) (Steps.refl _) (argsL := []) (rest := []) (lenOf pd_6 rfl) rfl (by show 2 * 0 + _ ≤ _; exact Nat.le_of_eq rfl) (hb hby at_179) (fun _ _ => ⟨rfl, rfl, (by decide : 6 + 0 ≤ _), (by decide : 21 + 0 ≤ _)⟩)
        dsimp only [Pt.U, Pt.locs, Pt.cells, Pt.slots] at X41 l41 y41 z41 st41 hQ41
        subst l41 y41 z41
        obtain ⟨rfl, N41q, e41⟩ := hQ41
        have N41 := Fr.app N39 N41q
        skip
        refine go (fun _ k => st41.trans k) ?_
        show Go p e below _ (T41.setTop (mkF m 182 #[.val (.int p1), .val (.int p2), .val (.int p3), .val (.int p4), .val (.long q5), .second, .val (.int p6), .val (.int (2 : Int32)), .val (.int sp), .val (.int lo), .val (.int hi), .val (.int mid), .val (.double s0), .second, .val (.double s1), .second, .val (.double v109_7), .second, .val (.ref b32), .val (.ref r_39), .unset, .unset, .unset] [(.ref e1_39)]))
        refine go (fun _ k => XS.astore X41.here hx rfl (hb hby at_182) rfl rfl (l' := #[.val (.int p1), .val (.int p2), .val (.int p3), .val (.int p4), .val (.long q5), .second, .val (.int p6), .val (.int (2 : Int32)), .val (.int sp), .val (.int lo), .val (.int hi), .val (.int mid), .val (.double s0), .second, .val (.double s1), .second, .val (.double v109_7), .second, .val (.ref b32), .val (.ref r_39), .val (.ref e1_39), .unset, .unset]) rfl k) ?_
        show Go p e below _ (T41.setTop (mkF m 184 #[.val (.int p1), .val (.int p2), .val (.int p3), .val (.int p4), .val (.long q5), .second, .val (.int p6), .val (.int (2 : Int32)), .val (.int sp), .val (.int lo), .val (.int hi), .val (.int mid), .val (.double s0), .second, .val (.double s1), .second, .val (.double v109_7), .second, .val (.ref b32), .val (.ref r_39), .val (.ref e1_39), .unset, .unset] []))
        refine go (fun _ k => XS.aload X41.here hx rfl (hb hby at_184) rfl rfl  k) ?_
        show Go p e below _ (T41.setTop (mkF m 186 #[.val (.int p1), .val (.int p2), .val (.int p3), .val (.int p4), .val (.long q5), .second, .val (.int p6), .val (.int (2 : Int32)), .val (.int sp), .val (.int lo), .val (.int hi), .val (.int mid), .val (.double s0), .second, .val (.double s1), .second, .val (.double v109_7), .second, .val (.ref b32), .val (.ref r_39), .val (.ref e1_39), .unset, .unset] [(.ref r_39)]))
        obtain ⟨cq43, kq43, q43a, q43b, q43c⟩ := isOf hZ e41 r39_2
        obtain ⟨_, _, ⟨T43, L43, k43, n43⟩, -, X43, ⟨Lc43, hQ43, l43, y43, z43⟩, st43⟩ := X41.virtualBack hx (y := (⟨"com/example/drienerlo/drienerlo/retrieval/Scored", "scores", "()[D"⟩ : MethodName)) (z := (⟨"com/example/drienerlo/drienerlo/retrieval/Scored", "scores", "()[D"⟩ : MethodName)) hown (mvT hZ (hw _ (List.mem_of_getElem? (i := 67) rfl))) (mvT hZ (hw _ (List.mem_of_getElem? (i := 68) rfl))) (notFace_of_selects (args := #[]) (mvT hZ (hw _ (List.mem_of_getElem? (i := 70) rfl)))) (mvT hZ (hw _ (List.mem_of_getElem? (i := 70) rfl))) (mvT hZ (hw _ (List.mem_of_getElem? (i := 69) rfl))) (by decide) (backOf (W := 0) (rm10 l Z a0 hw [] r_39 d1_39 T39.heap n0 (Nat.le_trans Z0 K42.1) r39_2 r39_4) hZ (hw _ (List.mem_of_getElem? (i := 71) rfl)) (hw _ (List.mem_of_getElem? (i := 29) rfl)) (by decide) (by decide)) q43a q43c (g := (mkF m 186 #[.val (.int p1), .val (.int p2), .val (.int p3), .val (.int p4), .val (.long q5), .second, .val (.int p6), .val (.int (2 : Int32)), .val (.int sp), .val (.int lo), .val (.int hi), .val (.int mid), .val (.double s0), .second, .val (.double s1), .second, .val (.double v109_7), .second, .val (.ref b32), .val (.ref r_39), .val (.ref e1_39), .unset, .unset] [(.ref r_39)])) rfl (by rw [hml]; rfl) (Steps.refl _) (argsL := []) (rest := []) (lenOf pd_7 rfl) rfl (by show 2 * 0 + _ ≤ _; exact Nat.le_of_eq rfl) (hb hby at_186) (fun _ _ => ⟨rfl, e41, (by decide : 6 + 0 ≤ _), (by decide : 21 + 0 ≤ _)⟩)
        dsimp only [Pt.U, Pt.locs, Pt.cells, Pt.slots] at X43 l43 y43 z43 st43 hQ43
        subst l43 y43 z43
        obtain ⟨rfl, N43q, e43⟩ := hQ43
        have N43 := Fr.app N41 N43q
        skip
        refine go (fun _ k => st43.trans k) ?_
        show Go p e below _ (T43.setTop (mkF m 189 #[.val (.int p1), .val (.int p2), .val (.int p3), .val (.int p4), .val (.long q5), .second, .val (.int p6), .val (.int (2 : Int32)), .val (.int sp), .val (.int lo), .val (.int hi), .val (.int mid), .val (.double s0), .second, .val (.double s1), .second, .val (.double v109_7), .second, .val (.ref b32), .val (.ref r_39), .val (.ref e1_39), .unset, .unset] [(.ref d1_39)]))
        refine go (fun _ k => XS.astore X43.here hx rfl (hb hby at_189) rfl rfl (l' := #[.val (.int p1), .val (.int p2), .val (.int p3), .val (.int p4), .val (.long q5), .second, .val (.int p6), .val (.int (2 : Int32)), .val (.int sp), .val (.int lo), .val (.int hi), .val (.int mid), .val (.double s0), .second, .val (.double s1), .second, .val (.double v109_7), .second, .val (.ref b32), .val (.ref r_39), .val (.ref e1_39), .val (.ref d1_39), .unset]) rfl k) ?_
        show Go p e below _ (T43.setTop (mkF m 191 #[.val (.int p1), .val (.int p2), .val (.int p3), .val (.int p4), .val (.long q5), .second, .val (.int p6), .val (.int (2 : Int32)), .val (.int sp), .val (.int lo), .val (.int hi), .val (.int mid), .val (.double s0), .second, .val (.double s1), .second, .val (.double v109_7), .second, .val (.ref b32), .val (.ref r_39), .val (.ref e1_39), .val (.ref d1_39), .unset] []))
        refine go (fun _ k => XS.aload X43.here hx rfl (hb hby at_191) rfl rfl  k) ?_
        show Go p e below _ (T43.setTop (mkF m 193 #[.val (.int p1), .val (.int p2), .val (.int p3), .val (.int p4), .val (.long q5), .second, .val (.int p6), .val (.int (2 : Int32)), .val (.int sp), .val (.int lo), .val (.int hi), .val (.int mid), .val (.double s0), .second, .val (.double s1), .second, .val (.double v109_7), .second, .val (.ref b32), .val (.ref r_39), .val (.ref e1_39), .val (.ref d1_39), .unset] [(.ref e1_39)]))
        obtain ⟨cl44, Ar44, -, S44, M44, -, -⟩ := id r39_5
        refine go (X43.arraylength hx (by rw [e43]; exact Ar44.1) (State.isArrayOf_alike hZ.alike Ar44.2.1) (g := (mkF m 193 #[.val (.int p1), .val (.int p2), .val (.int p3), .val (.int p4), .val (.long q5), .second, .val (.int p6), .val (.int (2 : Int32)), .val (.int sp), .val (.int lo), .val (.int hi), .val (.int mid), .val (.double s0), .second, .val (.double s1), .second, .val (.double v109_7), .second, .val (.ref b32), .val (.ref r_39), .val (.ref e1_39), .val (.ref d1_39), .unset] [(.ref e1_39)])) rfl rfl (hb hby at_193)) ?_
        rw [len_of S44 M44]
        show Go p e below _ (T43.setTop (mkF m 194 #[.val (.int p1), .val (.int p2), .val (.int p3), .val (.int p4), .val (.long q5), .second, .val (.int p6), .val (.int (2 : Int32)), .val (.int sp), .val (.int lo), .val (.int hi), .val (.int mid), .val (.double s0), .second, .val (.double s1), .second, .val (.double v109_7), .second, .val (.ref b32), .val (.ref r_39), .val (.ref e1_39), .val (.ref d1_39), .unset] [(.int (2 : Int32))]))
        refine go (fun _ k => XS.iload X43.here hx rfl (hb hby at_194) rfl  k) ?_
        show Go p e below _ (T43.setTop (mkF m 196 #[.val (.int p1), .val (.int p2), .val (.int p3), .val (.int p4), .val (.long q5), .second, .val (.int p6), .val (.int (2 : Int32)), .val (.int sp), .val (.int lo), .val (.int hi), .val (.int mid), .val (.double s0), .second, .val (.double s1), .second, .val (.double v109_7), .second, .val (.ref b32), .val (.ref r_39), .val (.ref e1_39), .val (.ref d1_39), .unset] [(.int (2 : Int32)), (.int (2 : Int32))]))
        refine go (fun _ k => XS.icmpNo X43.here hx rfl (hb hby at_196) rfl (teq (by decide : (2 : Int32) = (2 : Int32))).2 k) ?_
        show Go p e below _ (T43.setTop (mkF m 199 #[.val (.int p1), .val (.int p2), .val (.int p3), .val (.int p4), .val (.long q5), .second, .val (.int p6), .val (.int (2 : Int32)), .val (.int sp), .val (.int lo), .val (.int hi), .val (.int mid), .val (.double s0), .second, .val (.double s1), .second, .val (.double v109_7), .second, .val (.ref b32), .val (.ref r_39), .val (.ref e1_39), .val (.ref d1_39), .unset] []))
        refine go (fun _ k => XS.aload X43.here hx rfl (hb hby at_199) rfl rfl  k) ?_
        show Go p e below _ (T43.setTop (mkF m 201 #[.val (.int p1), .val (.int p2), .val (.int p3), .val (.int p4), .val (.long q5), .second, .val (.int p6), .val (.int (2 : Int32)), .val (.int sp), .val (.int lo), .val (.int hi), .val (.int mid), .val (.double s0), .second, .val (.double s1), .second, .val (.double v109_7), .second, .val (.ref b32), .val (.ref r_39), .val (.ref e1_39), .val (.ref d1_39), .unset] [(.ref d1_39)]))
        obtain ⟨cl45, Ar45, -, S45, M45, -, -⟩ := id r39_6
        refine go (X43.arraylength hx (by rw [e43]; exact Ar45.1) (State.isArrayOf_alike hZ.alike Ar45.2.1) (g := (mkF m 201 #[.val (.int p1), .val (.int p2), .val (.int p3), .val (.int p4), .val (.long q5), .second, .val (.int p6), .val (.int (2 : Int32)), .val (.int sp), .val (.int lo), .val (.int hi), .val (.int mid), .val (.double s0), .second, .val (.double s1), .second, .val (.double v109_7), .second, .val (.ref b32), .val (.ref r_39), .val (.ref e1_39), .val (.ref d1_39), .unset] [(.ref d1_39)])) rfl rfl (hb hby at_201)) ?_
        rw [len_of S45 M45]
        show Go p e below _ (T43.setTop (mkF m 202 #[.val (.int p1), .val (.int p2), .val (.int p3), .val (.int p4), .val (.long q5), .second, .val (.int p6), .val (.int (2 : Int32)), .val (.int sp), .val (.int lo), .val (.int hi), .val (.int mid), .val (.double s0), .second, .val (.double s1), .second, .val (.double v109_7), .second, .val (.ref b32), .val (.ref r_39), .val (.ref e1_39), .val (.ref d1_39), .unset] [(.int (2 : Int32))]))
        refine go (fun _ k => XS.iload X43.here hx rfl (hb hby at_202) rfl  k) ?_
        show Go p e below _ (T43.setTop (mkF m 204 #[.val (.int p1), .val (.int p2), .val (.int p3), .val (.int p4), .val (.long q5), .second, .val (.int p6), .val (.int (2 : Int32)), .val (.int sp), .val (.int lo), .val (.int hi), .val (.int mid), .val (.double s0), .second, .val (.double s1), .second, .val (.double v109_7), .second, .val (.ref b32), .val (.ref r_39), .val (.ref e1_39), .val (.ref d1_39), .unset] [(.int (2 : Int32)), (.int (2 : Int32))]))
        refine go (fun _ k => XS.icmpYes X43.here hx rfl (pc0 := 204) (pc' := 209) rfl (hb hby at_204) rfl (teq (by decide : (2 : Int32) = (2 : Int32))).1 (by decide) (by decide) k) ?_
        show Go p e below _ (T43.setTop (mkF m 209 #[.val (.int p1), .val (.int p2), .val (.int p3), .val (.int p4), .val (.long q5), .second, .val (.int p6), .val (.int (2 : Int32)), .val (.int sp), .val (.int lo), .val (.int hi), .val (.int mid), .val (.double s0), .second, .val (.double s1), .second, .val (.double v109_7), .second, .val (.ref b32), .val (.ref r_39), .val (.ref e1_39), .val (.ref d1_39), .unset] []))
        refine go (fun _ k => XS.iconst X43.here hx rfl (hb hby at_209) k) ?_
        show Go p e below _ (T43.setTop (mkF m 210 #[.val (.int p1), .val (.int p2), .val (.int p3), .val (.int p4), .val (.long q5), .second, .val (.int p6), .val (.int (2 : Int32)), .val (.int sp), .val (.int lo), .val (.int hi), .val (.int mid), .val (.double s0), .second, .val (.double s1), .second, .val (.double v109_7), .second, .val (.ref b32), .val (.ref r_39), .val (.ref e1_39), .val (.ref d1_39), .unset] [(.int (1 : Int32))]))
        refine go (fun _ k => XS.istore X43.here hx rfl (hb hby at_210) rfl (l' := #[.val (.int p1), .val (.int p2), .val (.int p3), .val (.int p4), .val (.long q5), .second, .val (.int p6), .val (.int (2 : Int32)), .val (.int sp), .val (.int lo), .val (.int hi), .val (.int mid), .val (.double s0), .second, .val (.double s1), .second, .val (.double v109_7), .second, .val (.ref b32), .val (.ref r_39), .val (.ref e1_39), .val (.ref d1_39), .val (.int (1 : Int32))]) rfl k) ?_
        show Go p e below _ (T43.setTop (mkF m 212 #[.val (.int p1), .val (.int p2), .val (.int p3), .val (.int p4), .val (.long q5), .second, .val (.int p6), .val (.int (2 : Int32)), .val (.int sp), .val (.int lo), .val (.int hi), .val (.int mid), .val (.double s0), .second, .val (.double s1), .second, .val (.double v109_7), .second, .val (.ref b32), .val (.ref r_39), .val (.ref e1_39), .val (.ref d1_39), .val (.int (1 : Int32))] []))
        refine go (fun _ k => XS.iload X43.here hx rfl (hb hby at_212) rfl  k) ?_
        show Go p e below _ (T43.setTop (mkF m 214 #[.val (.int p1), .val (.int p2), .val (.int p3), .val (.int p4), .val (.long q5), .second, .val (.int p6), .val (.int (2 : Int32)), .val (.int sp), .val (.int lo), .val (.int hi), .val (.int mid), .val (.double s0), .second, .val (.double s1), .second, .val (.double v109_7), .second, .val (.ref b32), .val (.ref r_39), .val (.ref e1_39), .val (.ref d1_39), .val (.int (1 : Int32))] [(.int (2 : Int32))]))
        refine go (fun _ k => XS.iconst X43.here hx rfl (hb hby at_214) k) ?_
        show Go p e below _ (T43.setTop (mkF m 215 #[.val (.int p1), .val (.int p2), .val (.int p3), .val (.int p4), .val (.long q5), .second, .val (.int p6), .val (.int (2 : Int32)), .val (.int sp), .val (.int lo), .val (.int hi), .val (.int mid), .val (.double s0), .second, .val (.double s1), .second, .val (.double v109_7), .second, .val (.ref b32), .val (.ref r_39), .val (.ref e1_39), .val (.ref d1_39), .val (.int (1 : Int32))] [(.int (1 : Int32)), (.int (2 : Int32))]))
        refine go (fun _ k => XS.icmpNo X43.here hx rfl (hb hby at_215) rfl (flt (by decide : ¬ ((2 : Int32) < (1 : Int32)))).1 k) ?_
        show Go p e below _ (T43.setTop (mkF m 218 #[.val (.int p1), .val (.int p2), .val (.int p3), .val (.int p4), .val (.long q5), .second, .val (.int p6), .val (.int (2 : Int32)), .val (.int sp), .val (.int lo), .val (.int hi), .val (.int mid), .val (.double s0), .second, .val (.double s1), .second, .val (.double v109_7), .second, .val (.ref b32), .val (.ref r_39), .val (.ref e1_39), .val (.ref d1_39), .val (.int (1 : Int32))] []))
        refine go (fun _ k => XS.iload X43.here hx rfl (hb hby at_218) rfl  k) ?_
        show Go p e below _ (T43.setTop (mkF m 220 #[.val (.int p1), .val (.int p2), .val (.int p3), .val (.int p4), .val (.long q5), .second, .val (.int p6), .val (.int (2 : Int32)), .val (.int sp), .val (.int lo), .val (.int hi), .val (.int mid), .val (.double s0), .second, .val (.double s1), .second, .val (.double v109_7), .second, .val (.ref b32), .val (.ref r_39), .val (.ref e1_39), .val (.ref d1_39), .val (.int (1 : Int32))] [(.int (1 : Int32))]))
        refine go (fun _ k => XS.ifNo X43.here hx rfl (hb hby at_220) rfl ((if0 _ _).trans (feq (by decide : ¬ ((1 : Int32) = (0 : Int32)))).1) k) ?_
        show Go p e below _ (T43.setTop (mkF m 223 #[.val (.int p1), .val (.int p2), .val (.int p3), .val (.int p4), .val (.long q5), .second, .val (.int p6), .val (.int (2 : Int32)), .val (.int sp), .val (.int lo), .val (.int hi), .val (.int mid), .val (.double s0), .second, .val (.double s1), .second, .val (.double v109_7), .second, .val (.ref b32), .val (.ref r_39), .val (.ref e1_39), .val (.ref d1_39), .val (.int (1 : Int32))] []))
        refine go (fun _ k => XS.aload X43.here hx rfl (hb hby at_223) rfl rfl  k) ?_
        show Go p e below _ (T43.setTop (mkF m 225 #[.val (.int p1), .val (.int p2), .val (.int p3), .val (.int p4), .val (.long q5), .second, .val (.int p6), .val (.int (2 : Int32)), .val (.int sp), .val (.int lo), .val (.int hi), .val (.int mid), .val (.double s0), .second, .val (.double s1), .second, .val (.double v109_7), .second, .val (.ref b32), .val (.ref r_39), .val (.ref e1_39), .val (.ref d1_39), .val (.int (1 : Int32))] [(.ref e1_39)]))
        refine go (fun _ k => XS.iconst X43.here hx rfl (hb hby at_225) k) ?_
        show Go p e below _ (T43.setTop (mkF m 226 #[.val (.int p1), .val (.int p2), .val (.int p3), .val (.int p4), .val (.long q5), .second, .val (.int p6), .val (.int (2 : Int32)), .val (.int sp), .val (.int lo), .val (.int hi), .val (.int mid), .val (.double s0), .second, .val (.double s1), .second, .val (.double v109_7), .second, .val (.ref b32), .val (.ref r_39), .val (.ref e1_39), .val (.ref d1_39), .val (.int (1 : Int32))] [(.int (0 : Int32)), (.ref e1_39)]))
        obtain ⟨cl46, Ar46, q46, S46, M46, H46, G46⟩ := id r39_5
        have hin46 : ¬ ((0 : Int32) < 0 ∨ cl46.slots.size ≤ ((0 : Int32)).toNatClampNeg) := inb_of S46 ⟨by decide, by decide⟩
        have hat46 : cl46.slots[((0 : Int32)).toNatClampNeg]? = some (.int lo) := Has.at H46 hin46 rfl
        refine go (X43.iaload hx (j := (0 : Int32)) (v := (.int lo)) (by rw [e43]; exact Ar46.1) (State.isArrayOf_alike hZ.alike Ar46.2.1) Ar46.2.2 hin46 hat46 (g := (mkF m 226 #[.val (.int p1), .val (.int p2), .val (.int p3), .val (.int p4), .val (.long q5), .second, .val (.int p6), .val (.int (2 : Int32)), .val (.int sp), .val (.int lo), .val (.int hi), .val (.int mid), .val (.double s0), .second, .val (.double s1), .second, .val (.double v109_7), .second, .val (.ref b32), .val (.ref r_39), .val (.ref e1_39), .val (.ref d1_39), .val (.int (1 : Int32))] [(.int (0 : Int32)), (.ref e1_39)])) rfl rfl (hb hby at_226)) ?_
        show Go p e below _ (T43.setTop (mkF m 227 #[.val (.int p1), .val (.int p2), .val (.int p3), .val (.int p4), .val (.long q5), .second, .val (.int p6), .val (.int (2 : Int32)), .val (.int sp), .val (.int lo), .val (.int hi), .val (.int mid), .val (.double s0), .second, .val (.double s1), .second, .val (.double v109_7), .second, .val (.ref b32), .val (.ref r_39), .val (.ref e1_39), .val (.ref d1_39), .val (.int (1 : Int32))] [(.int lo)]))
        refine go (fun _ k => XS.iload X43.here hx rfl (hb hby at_227) rfl  k) ?_
        show Go p e below _ (T43.setTop (mkF m 229 #[.val (.int p1), .val (.int p2), .val (.int p3), .val (.int p4), .val (.long q5), .second, .val (.int p6), .val (.int (2 : Int32)), .val (.int sp), .val (.int lo), .val (.int hi), .val (.int mid), .val (.double s0), .second, .val (.double s1), .second, .val (.double v109_7), .second, .val (.ref b32), .val (.ref r_39), .val (.ref e1_39), .val (.ref d1_39), .val (.int (1 : Int32))] [(.int lo), (.int lo)]))
        refine go (fun _ k => XS.icmpNo X43.here hx rfl (hb hby at_229) rfl (teq rfl).2 k) ?_
        show Go p e below _ (T43.setTop (mkF m 232 #[.val (.int p1), .val (.int p2), .val (.int p3), .val (.int p4), .val (.long q5), .second, .val (.int p6), .val (.int (2 : Int32)), .val (.int sp), .val (.int lo), .val (.int hi), .val (.int mid), .val (.double s0), .second, .val (.double s1), .second, .val (.double v109_7), .second, .val (.ref b32), .val (.ref r_39), .val (.ref e1_39), .val (.ref d1_39), .val (.int (1 : Int32))] []))
        refine go (fun _ k => XS.aload X43.here hx rfl (hb hby at_232) rfl rfl  k) ?_
        show Go p e below _ (T43.setTop (mkF m 234 #[.val (.int p1), .val (.int p2), .val (.int p3), .val (.int p4), .val (.long q5), .second, .val (.int p6), .val (.int (2 : Int32)), .val (.int sp), .val (.int lo), .val (.int hi), .val (.int mid), .val (.double s0), .second, .val (.double s1), .second, .val (.double v109_7), .second, .val (.ref b32), .val (.ref r_39), .val (.ref e1_39), .val (.ref d1_39), .val (.int (1 : Int32))] [(.ref d1_39)]))
        refine go (fun _ k => XS.iconst X43.here hx rfl (hb hby at_234) k) ?_
        show Go p e below _ (T43.setTop (mkF m 235 #[.val (.int p1), .val (.int p2), .val (.int p3), .val (.int p4), .val (.long q5), .second, .val (.int p6), .val (.int (2 : Int32)), .val (.int sp), .val (.int lo), .val (.int hi), .val (.int mid), .val (.double s0), .second, .val (.double s1), .second, .val (.double v109_7), .second, .val (.ref b32), .val (.ref r_39), .val (.ref e1_39), .val (.ref d1_39), .val (.int (1 : Int32))] [(.int (0 : Int32)), (.ref d1_39)]))
        obtain ⟨cl47, Ar47, q47, S47, M47, H47, G47⟩ := id r39_6
        have hin47 : ¬ ((0 : Int32) < 0 ∨ cl47.slots.size ≤ ((0 : Int32)).toNatClampNeg) := inb_of S47 ⟨by decide, by decide⟩
        have hat47 : cl47.slots[((0 : Int32)).toNatClampNeg]? = some (.double s0) := Has.at H47 hin47 rfl
        refine go (X43.daload hx (j := (0 : Int32)) (v := (.double s0)) (by rw [e43]; exact Ar47.1) (State.isArrayOf_alike hZ.alike Ar47.2.1) Ar47.2.2 hin47 hat47 (g := (mkF m 235 #[.val (.int p1), .val (.int p2), .val (.int p3), .val (.int p4), .val (.long q5), .second, .val (.int p6), .val (.int (2 : Int32)), .val (.int sp), .val (.int lo), .val (.int hi), .val (.int mid), .val (.double s0), .second, .val (.double s1), .second, .val (.double v109_7), .second, .val (.ref b32), .val (.ref r_39), .val (.ref e1_39), .val (.ref d1_39), .val (.int (1 : Int32))] [(.int (0 : Int32)), (.ref d1_39)])) rfl rfl (hb hby at_235)) ?_
        show Go p e below _ (T43.setTop (mkF m 236 #[.val (.int p1), .val (.int p2), .val (.int p3), .val (.int p4), .val (.long q5), .second, .val (.int p6), .val (.int (2 : Int32)), .val (.int sp), .val (.int lo), .val (.int hi), .val (.int mid), .val (.double s0), .second, .val (.double s1), .second, .val (.double v109_7), .second, .val (.ref b32), .val (.ref r_39), .val (.ref e1_39), .val (.ref d1_39), .val (.int (1 : Int32))] [(.double s0)]))
        refine go (fun _ k => XS.dload X43.here hx rfl (hb hby at_236) rfl  k) ?_
        show Go p e below _ (T43.setTop (mkF m 238 #[.val (.int p1), .val (.int p2), .val (.int p3), .val (.int p4), .val (.long q5), .second, .val (.int p6), .val (.int (2 : Int32)), .val (.int sp), .val (.int lo), .val (.int hi), .val (.int mid), .val (.double s0), .second, .val (.double s1), .second, .val (.double v109_7), .second, .val (.ref b32), .val (.ref r_39), .val (.ref e1_39), .val (.ref d1_39), .val (.int (1 : Int32))] [(.double s0), (.double s0)]))
        refine go (fun _ k => XS.dcmpS X43.here hx rfl (hb hby at_238) rfl (dcmpV_self nn0 .l) k) ?_
        show Go p e below _ (T43.setTop (mkF m 239 #[.val (.int p1), .val (.int p2), .val (.int p3), .val (.int p4), .val (.long q5), .second, .val (.int p6), .val (.int (2 : Int32)), .val (.int sp), .val (.int lo), .val (.int hi), .val (.int mid), .val (.double s0), .second, .val (.double s1), .second, .val (.double v109_7), .second, .val (.ref b32), .val (.ref r_39), .val (.ref e1_39), .val (.ref d1_39), .val (.int (1 : Int32))] [(.int (0 : Int32))]))
        refine go (fun _ k => XS.ifNo X43.here hx rfl (hb hby at_239) rfl ((if0 _ _).trans (teq (by decide : (0 : Int32) = (0 : Int32))).2) k) ?_
        show Go p e below _ (T43.setTop (mkF m 242 #[.val (.int p1), .val (.int p2), .val (.int p3), .val (.int p4), .val (.long q5), .second, .val (.int p6), .val (.int (2 : Int32)), .val (.int sp), .val (.int lo), .val (.int hi), .val (.int mid), .val (.double s0), .second, .val (.double s1), .second, .val (.double v109_7), .second, .val (.ref b32), .val (.ref r_39), .val (.ref e1_39), .val (.ref d1_39), .val (.int (1 : Int32))] []))
        refine go (fun _ k => XS.iconst X43.here hx rfl (hb hby at_242) k) ?_
        show Go p e below _ (T43.setTop (mkF m 243 #[.val (.int p1), .val (.int p2), .val (.int p3), .val (.int p4), .val (.long q5), .second, .val (.int p6), .val (.int (2 : Int32)), .val (.int sp), .val (.int lo), .val (.int hi), .val (.int mid), .val (.double s0), .second, .val (.double s1), .second, .val (.double v109_7), .second, .val (.ref b32), .val (.ref r_39), .val (.ref e1_39), .val (.ref d1_39), .val (.int (1 : Int32))] [(.int (1 : Int32))]))
        refine go (fun _ k => XS.goto X43.here hx rfl (pc0 := 243) (pc' := 247) rfl (hb hby at_243) (by decide) (by decide) k) ?_
        show Go p e below _ (T43.setTop (mkF m 247 #[.val (.int p1), .val (.int p2), .val (.int p3), .val (.int p4), .val (.long q5), .second, .val (.int p6), .val (.int (2 : Int32)), .val (.int sp), .val (.int lo), .val (.int hi), .val (.int mid), .val (.double s0), .second, .val (.double s1), .second, .val (.double v109_7), .second, .val (.ref b32), .val (.ref r_39), .val (.ref e1_39), .val (.ref d1_39), .val (.int (1 : Int32))] [(.int (1 : Int32))]))
        refine go (fun _ k => XS.istore X43.here hx rfl (hb hby at_247) rfl (l' := #[.val (.int p1), .val (.int p2), .val (.int p3), .val (.int p4), .val (.long q5), .second, .val (.int p6), .val (.int (2 : Int32)), .val (.int sp), .val (.int lo), .val (.int hi), .val (.int mid), .val (.double s0), .second, .val (.double s1), .second, .val (.double v109_7), .second, .val (.ref b32), .val (.ref r_39), .val (.ref e1_39), .val (.ref d1_39), .val (.int (1 : Int32))]) rfl k) ?_
        show Go p e below _ (T43.setTop (mkF m 249 #[.val (.int p1), .val (.int p2), .val (.int p3), .val (.int p4), .val (.long q5), .second, .val (.int p6), .val (.int (2 : Int32)), .val (.int sp), .val (.int lo), .val (.int hi), .val (.int mid), .val (.double s0), .second, .val (.double s1), .second, .val (.double v109_7), .second, .val (.ref b32), .val (.ref r_39), .val (.ref e1_39), .val (.ref d1_39), .val (.int (1 : Int32))] []))
        refine go (fun _ k => XS.iload X43.here hx rfl (hb hby at_249) rfl  k) ?_
        show Go p e below _ (T43.setTop (mkF m 251 #[.val (.int p1), .val (.int p2), .val (.int p3), .val (.int p4), .val (.long q5), .second, .val (.int p6), .val (.int (2 : Int32)), .val (.int sp), .val (.int lo), .val (.int hi), .val (.int mid), .val (.double s0), .second, .val (.double s1), .second, .val (.double v109_7), .second, .val (.ref b32), .val (.ref r_39), .val (.ref e1_39), .val (.ref d1_39), .val (.int (1 : Int32))] [(.int (2 : Int32))]))
        refine go (fun _ k => XS.iconst X43.here hx rfl (hb hby at_251) k) ?_
        show Go p e below _ (T43.setTop (mkF m 252 #[.val (.int p1), .val (.int p2), .val (.int p3), .val (.int p4), .val (.long q5), .second, .val (.int p6), .val (.int (2 : Int32)), .val (.int sp), .val (.int lo), .val (.int hi), .val (.int mid), .val (.double s0), .second, .val (.double s1), .second, .val (.double v109_7), .second, .val (.ref b32), .val (.ref r_39), .val (.ref e1_39), .val (.ref d1_39), .val (.int (1 : Int32))] [(.int (2 : Int32)), (.int (2 : Int32))]))
        refine go (fun _ k => XS.icmpNo X43.here hx rfl (hb hby at_252) rfl (flt (by decide : ¬ ((2 : Int32) < (2 : Int32)))).1 k) ?_
        show Go p e below _ (T43.setTop (mkF m 255 #[.val (.int p1), .val (.int p2), .val (.int p3), .val (.int p4), .val (.long q5), .second, .val (.int p6), .val (.int (2 : Int32)), .val (.int sp), .val (.int lo), .val (.int hi), .val (.int mid), .val (.double s0), .second, .val (.double s1), .second, .val (.double v109_7), .second, .val (.ref b32), .val (.ref r_39), .val (.ref e1_39), .val (.ref d1_39), .val (.int (1 : Int32))] []))
        refine go (fun _ k => XS.iload X43.here hx rfl (hb hby at_255) rfl  k) ?_
        show Go p e below _ (T43.setTop (mkF m 257 #[.val (.int p1), .val (.int p2), .val (.int p3), .val (.int p4), .val (.long q5), .second, .val (.int p6), .val (.int (2 : Int32)), .val (.int sp), .val (.int lo), .val (.int hi), .val (.int mid), .val (.double s0), .second, .val (.double s1), .second, .val (.double v109_7), .second, .val (.ref b32), .val (.ref r_39), .val (.ref e1_39), .val (.ref d1_39), .val (.int (1 : Int32))] [(.int (1 : Int32))]))
        refine go (fun _ k => XS.ifNo X43.here hx rfl (hb hby at_257) rfl ((if0 _ _).trans (feq (by decide : ¬ ((1 : Int32) = (0 : Int32)))).1) k) ?_
        show Go p e below _ (T43.setTop (mkF m 260 #[.val (.int p1), .val (.int p2), .val (.int p3), .val (.int p4), .val (.long q5), .second, .val (.int p6), .val (.int (2 : Int32)), .val (.int sp), .val (.int lo), .val (.int hi), .val (.int mid), .val (.double s0), .second, .val (.double s1), .second, .val (.double v109_7), .second, .val (.ref b32), .val (.ref r_39), .val (.ref e1_39), .val (.ref d1_39), .val (.int (1 : Int32))] []))
        refine go (fun _ k => XS.aload X43.here hx rfl (hb hby at_260) rfl rfl  k) ?_
        show Go p e below _ (T43.setTop (mkF m 262 #[.val (.int p1), .val (.int p2), .val (.int p3), .val (.int p4), .val (.long q5), .second, .val (.int p6), .val (.int (2 : Int32)), .val (.int sp), .val (.int lo), .val (.int hi), .val (.int mid), .val (.double s0), .second, .val (.double s1), .second, .val (.double v109_7), .second, .val (.ref b32), .val (.ref r_39), .val (.ref e1_39), .val (.ref d1_39), .val (.int (1 : Int32))] [(.ref e1_39)]))
        refine go (fun _ k => XS.iconst X43.here hx rfl (hb hby at_262) k) ?_
        show Go p e below _ (T43.setTop (mkF m 263 #[.val (.int p1), .val (.int p2), .val (.int p3), .val (.int p4), .val (.long q5), .second, .val (.int p6), .val (.int (2 : Int32)), .val (.int sp), .val (.int lo), .val (.int hi), .val (.int mid), .val (.double s0), .second, .val (.double s1), .second, .val (.double v109_7), .second, .val (.ref b32), .val (.ref r_39), .val (.ref e1_39), .val (.ref d1_39), .val (.int (1 : Int32))] [(.int (1 : Int32)), (.ref e1_39)]))
        obtain ⟨cl48, Ar48, q48, S48, M48, H48, G48⟩ := id r39_5
        have hin48 : ¬ ((1 : Int32) < 0 ∨ cl48.slots.size ≤ ((1 : Int32)).toNatClampNeg) := inb_of S48 ⟨by decide, by decide⟩
        have hat48 : cl48.slots[((1 : Int32)).toNatClampNeg]? = some (.int mid) := Has.at H48 hin48 rfl
        refine go (X43.iaload hx (j := (1 : Int32)) (v := (.int mid)) (by rw [e43]; exact Ar48.1) (State.isArrayOf_alike hZ.alike Ar48.2.1) Ar48.2.2 hin48 hat48 (g := (mkF m 263 #[.val (.int p1), .val (.int p2), .val (.int p3), .val (.int p4), .val (.long q5), .second, .val (.int p6), .val (.int (2 : Int32)), .val (.int sp), .val (.int lo), .val (.int hi), .val (.int mid), .val (.double s0), .second, .val (.double s1), .second, .val (.double v109_7), .second, .val (.ref b32), .val (.ref r_39), .val (.ref e1_39), .val (.ref d1_39), .val (.int (1 : Int32))] [(.int (1 : Int32)), (.ref e1_39)])) rfl rfl (hb hby at_263)) ?_
        show Go p e below _ (T43.setTop (mkF m 264 #[.val (.int p1), .val (.int p2), .val (.int p3), .val (.int p4), .val (.long q5), .second, .val (.int p6), .val (.int (2 : Int32)), .val (.int sp), .val (.int lo), .val (.int hi), .val (.int mid), .val (.double s0), .second, .val (.double s1), .second, .val (.double v109_7), .second, .val (.ref b32), .val (.ref r_39), .val (.ref e1_39), .val (.ref d1_39), .val (.int (1 : Int32))] [(.int mid)]))
        refine go (fun _ k => XS.iload X43.here hx rfl (hb hby at_264) rfl  k) ?_
        show Go p e below _ (T43.setTop (mkF m 266 #[.val (.int p1), .val (.int p2), .val (.int p3), .val (.int p4), .val (.long q5), .second, .val (.int p6), .val (.int (2 : Int32)), .val (.int sp), .val (.int lo), .val (.int hi), .val (.int mid), .val (.double s0), .second, .val (.double s1), .second, .val (.double v109_7), .second, .val (.ref b32), .val (.ref r_39), .val (.ref e1_39), .val (.ref d1_39), .val (.int (1 : Int32))] [(.int mid), (.int mid)]))
        refine go (fun _ k => XS.icmpNo X43.here hx rfl (hb hby at_266) rfl (teq rfl).2 k) ?_
        show Go p e below _ (T43.setTop (mkF m 269 #[.val (.int p1), .val (.int p2), .val (.int p3), .val (.int p4), .val (.long q5), .second, .val (.int p6), .val (.int (2 : Int32)), .val (.int sp), .val (.int lo), .val (.int hi), .val (.int mid), .val (.double s0), .second, .val (.double s1), .second, .val (.double v109_7), .second, .val (.ref b32), .val (.ref r_39), .val (.ref e1_39), .val (.ref d1_39), .val (.int (1 : Int32))] []))
        refine go (fun _ k => XS.aload X43.here hx rfl (hb hby at_269) rfl rfl  k) ?_
        show Go p e below _ (T43.setTop (mkF m 271 #[.val (.int p1), .val (.int p2), .val (.int p3), .val (.int p4), .val (.long q5), .second, .val (.int p6), .val (.int (2 : Int32)), .val (.int sp), .val (.int lo), .val (.int hi), .val (.int mid), .val (.double s0), .second, .val (.double s1), .second, .val (.double v109_7), .second, .val (.ref b32), .val (.ref r_39), .val (.ref e1_39), .val (.ref d1_39), .val (.int (1 : Int32))] [(.ref d1_39)]))
        refine go (fun _ k => XS.iconst X43.here hx rfl (hb hby at_271) k) ?_
        show Go p e below _ (T43.setTop (mkF m 272 #[.val (.int p1), .val (.int p2), .val (.int p3), .val (.int p4), .val (.long q5), .second, .val (.int p6), .val (.int (2 : Int32)), .val (.int sp), .val (.int lo), .val (.int hi), .val (.int mid), .val (.double s0), .second, .val (.double s1), .second, .val (.double v109_7), .second, .val (.ref b32), .val (.ref r_39), .val (.ref e1_39), .val (.ref d1_39), .val (.int (1 : Int32))] [(.int (1 : Int32)), (.ref d1_39)]))
        obtain ⟨cl49, Ar49, q49, S49, M49, H49, G49⟩ := id r39_6
        have hin49 : ¬ ((1 : Int32) < 0 ∨ cl49.slots.size ≤ ((1 : Int32)).toNatClampNeg) := inb_of S49 ⟨by decide, by decide⟩
        have hat49 : cl49.slots[((1 : Int32)).toNatClampNeg]? = some (.double s1) := Has.at H49 hin49 rfl
        refine go (X43.daload hx (j := (1 : Int32)) (v := (.double s1)) (by rw [e43]; exact Ar49.1) (State.isArrayOf_alike hZ.alike Ar49.2.1) Ar49.2.2 hin49 hat49 (g := (mkF m 272 #[.val (.int p1), .val (.int p2), .val (.int p3), .val (.int p4), .val (.long q5), .second, .val (.int p6), .val (.int (2 : Int32)), .val (.int sp), .val (.int lo), .val (.int hi), .val (.int mid), .val (.double s0), .second, .val (.double s1), .second, .val (.double v109_7), .second, .val (.ref b32), .val (.ref r_39), .val (.ref e1_39), .val (.ref d1_39), .val (.int (1 : Int32))] [(.int (1 : Int32)), (.ref d1_39)])) rfl rfl (hb hby at_272)) ?_
        show Go p e below _ (T43.setTop (mkF m 273 #[.val (.int p1), .val (.int p2), .val (.int p3), .val (.int p4), .val (.long q5), .second, .val (.int p6), .val (.int (2 : Int32)), .val (.int sp), .val (.int lo), .val (.int hi), .val (.int mid), .val (.double s0), .second, .val (.double s1), .second, .val (.double v109_7), .second, .val (.ref b32), .val (.ref r_39), .val (.ref e1_39), .val (.ref d1_39), .val (.int (1 : Int32))] [(.double s1)]))
        refine go (fun _ k => XS.dload X43.here hx rfl (hb hby at_273) rfl  k) ?_
        show Go p e below _ (T43.setTop (mkF m 275 #[.val (.int p1), .val (.int p2), .val (.int p3), .val (.int p4), .val (.long q5), .second, .val (.int p6), .val (.int (2 : Int32)), .val (.int sp), .val (.int lo), .val (.int hi), .val (.int mid), .val (.double s0), .second, .val (.double s1), .second, .val (.double v109_7), .second, .val (.ref b32), .val (.ref r_39), .val (.ref e1_39), .val (.ref d1_39), .val (.int (1 : Int32))] [(.double s1), (.double s1)]))
        refine go (fun _ k => XS.dcmpS X43.here hx rfl (hb hby at_275) rfl (dcmpV_self nn1 .l) k) ?_
        show Go p e below _ (T43.setTop (mkF m 276 #[.val (.int p1), .val (.int p2), .val (.int p3), .val (.int p4), .val (.long q5), .second, .val (.int p6), .val (.int (2 : Int32)), .val (.int sp), .val (.int lo), .val (.int hi), .val (.int mid), .val (.double s0), .second, .val (.double s1), .second, .val (.double v109_7), .second, .val (.ref b32), .val (.ref r_39), .val (.ref e1_39), .val (.ref d1_39), .val (.int (1 : Int32))] [(.int (0 : Int32))]))
        refine go (fun _ k => XS.ifNo X43.here hx rfl (hb hby at_276) rfl ((if0 _ _).trans (teq (by decide : (0 : Int32) = (0 : Int32))).2) k) ?_
        show Go p e below _ (T43.setTop (mkF m 279 #[.val (.int p1), .val (.int p2), .val (.int p3), .val (.int p4), .val (.long q5), .second, .val (.int p6), .val (.int (2 : Int32)), .val (.int sp), .val (.int lo), .val (.int hi), .val (.int mid), .val (.double s0), .second, .val (.double s1), .second, .val (.double v109_7), .second, .val (.ref b32), .val (.ref r_39), .val (.ref e1_39), .val (.ref d1_39), .val (.int (1 : Int32))] []))
        refine go (fun _ k => XS.iconst X43.here hx rfl (hb hby at_279) k) ?_
        show Go p e below _ (T43.setTop (mkF m 280 #[.val (.int p1), .val (.int p2), .val (.int p3), .val (.int p4), .val (.long q5), .second, .val (.int p6), .val (.int (2 : Int32)), .val (.int sp), .val (.int lo), .val (.int hi), .val (.int mid), .val (.double s0), .second, .val (.double s1), .second, .val (.double v109_7), .second, .val (.ref b32), .val (.ref r_39), .val (.ref e1_39), .val (.ref d1_39), .val (.int (1 : Int32))] [(.int (1 : Int32))]))
        refine go (fun _ k => XS.goto X43.here hx rfl (pc0 := 280) (pc' := 284) rfl (hb hby at_280) (by decide) (by decide) k) ?_
        show Go p e below _ (T43.setTop (mkF m 284 #[.val (.int p1), .val (.int p2), .val (.int p3), .val (.int p4), .val (.long q5), .second, .val (.int p6), .val (.int (2 : Int32)), .val (.int sp), .val (.int lo), .val (.int hi), .val (.int mid), .val (.double s0), .second, .val (.double s1), .second, .val (.double v109_7), .second, .val (.ref b32), .val (.ref r_39), .val (.ref e1_39), .val (.ref d1_39), .val (.int (1 : Int32))] [(.int (1 : Int32))]))
        refine go (fun _ k => XS.istore X43.here hx rfl (hb hby at_284) rfl (l' := #[.val (.int p1), .val (.int p2), .val (.int p3), .val (.int p4), .val (.long q5), .second, .val (.int p6), .val (.int (2 : Int32)), .val (.int sp), .val (.int lo), .val (.int hi), .val (.int mid), .val (.double s0), .second, .val (.double s1), .second, .val (.double v109_7), .second, .val (.ref b32), .val (.ref r_39), .val (.ref e1_39), .val (.ref d1_39), .val (.int (1 : Int32))]) rfl k) ?_
        show Go p e below _ (T43.setTop (mkF m 286 #[.val (.int p1), .val (.int p2), .val (.int p3), .val (.int p4), .val (.long q5), .second, .val (.int p6), .val (.int (2 : Int32)), .val (.int sp), .val (.int lo), .val (.int hi), .val (.int mid), .val (.double s0), .second, .val (.double s1), .second, .val (.double v109_7), .second, .val (.ref b32), .val (.ref r_39), .val (.ref e1_39), .val (.ref d1_39), .val (.int (1 : Int32))] []))
        refine go (fun _ k => XS.iload X43.here hx rfl (hb hby at_286) rfl  k) ?_
        show Go p e below _ (T43.setTop (mkF m 288 #[.val (.int p1), .val (.int p2), .val (.int p3), .val (.int p4), .val (.long q5), .second, .val (.int p6), .val (.int (2 : Int32)), .val (.int sp), .val (.int lo), .val (.int hi), .val (.int mid), .val (.double s0), .second, .val (.double s1), .second, .val (.double v109_7), .second, .val (.ref b32), .val (.ref r_39), .val (.ref e1_39), .val (.ref d1_39), .val (.int (1 : Int32))] [(.int (2 : Int32))]))
        refine go (fun _ k => XS.iconst X43.here hx rfl (hb hby at_288) k) ?_
        show Go p e below _ (T43.setTop (mkF m 289 #[.val (.int p1), .val (.int p2), .val (.int p3), .val (.int p4), .val (.long q5), .second, .val (.int p6), .val (.int (2 : Int32)), .val (.int sp), .val (.int lo), .val (.int hi), .val (.int mid), .val (.double s0), .second, .val (.double s1), .second, .val (.double v109_7), .second, .val (.ref b32), .val (.ref r_39), .val (.ref e1_39), .val (.ref d1_39), .val (.int (1 : Int32))] [(.int (3 : Int32)), (.int (2 : Int32))]))
        refine go (fun _ k => XS.icmpYes X43.here hx rfl (pc0 := 289) (pc' := 323) rfl (hb hby at_289) rfl (tlt (by decide : (2 : Int32) < (3 : Int32))).1 (by decide) (by decide) k) ?_
        show Go p e below _ (T43.setTop (mkF m 323 #[.val (.int p1), .val (.int p2), .val (.int p3), .val (.int p4), .val (.long q5), .second, .val (.int p6), .val (.int (2 : Int32)), .val (.int sp), .val (.int lo), .val (.int hi), .val (.int mid), .val (.double s0), .second, .val (.double s1), .second, .val (.double v109_7), .second, .val (.ref b32), .val (.ref r_39), .val (.ref e1_39), .val (.ref d1_39), .val (.int (1 : Int32))] []))
        refine go (fun _ k => XS.iload X43.here hx rfl (hb hby at_323) rfl  k) ?_
        show Go p e below _ (T43.setTop (mkF m 325 #[.val (.int p1), .val (.int p2), .val (.int p3), .val (.int p4), .val (.long q5), .second, .val (.int p6), .val (.int (2 : Int32)), .val (.int sp), .val (.int lo), .val (.int hi), .val (.int mid), .val (.double s0), .second, .val (.double s1), .second, .val (.double v109_7), .second, .val (.ref b32), .val (.ref r_39), .val (.ref e1_39), .val (.ref d1_39), .val (.int (1 : Int32))] [(.int (1 : Int32))]))
        obtain ⟨fs, hr, hrun, hended, hW, hsame⟩ := X43.leave (v := some (.int (1 : Int32))) (fun h => by rw [Bd.returns] at h; cases h)
        refine leaf (T := T43) ⟨fs, retN X43 hx (t := .boolean) Bd.returns (by simp) (hb hby at_325) hr, hrun, hended, hW, hsame⟩ ?_ (by decide) (by decide)
        show Q0 Z p1 p2 p3 p4 q5 p6 h0 n0 _ T43.heap _
        rw [e43]
        exact ⟨rfl, N43⟩
      by_cases hc97_6 : (((p1.toUInt32 >>> ((3 : Int32) &&& 31).toUInt32).toInt32) &&& (1 : Int32)) = (0 : Int32)
      · skip
        refine go (fun _ k => XS.ifYes X4.here hx rfl (pc0 := 97) (pc' := 106) rfl (hb hby at_97) rfl ((if0 _ _).trans (teq hc97_6).1) (by decide) (by decide) k) ?_
        show Go p e below _ (T4.setTop (mkF m 106 #[.val (.int p1), .val (.int p2), .val (.int p3), .val (.int p4), .val (.long q5), .second, .val (.int p6), .val (.int (2 : Int32)), .val (.int sp), .val (.int lo), .val (.int hi), .val (.int mid), .val (.double s0), .second, .val (.double s1), .second, .unset, .unset, .unset, .unset, .unset, .unset, .unset] []))
        refine go (fun _ k => XS.iload X4.here hx rfl (hb hby at_106) rfl  k) ?_
        show Go p e below _ (T4.setTop (mkF m 108 #[.val (.int p1), .val (.int p2), .val (.int p3), .val (.int p4), .val (.long q5), .second, .val (.int p6), .val (.int (2 : Int32)), .val (.int sp), .val (.int lo), .val (.int hi), .val (.int mid), .val (.double s0), .second, .val (.double s1), .second, .unset, .unset, .unset, .unset, .unset, .unset, .unset] [(.int p6)]))
        refine go (fun _ k => XS.i2dS X4.here hx rfl (hb hby at_108) rfl rfl k) ?_
        show Go p e below _ (T4.setTop (mkF m 109 #[.val (.int p1), .val (.int p2), .val (.int p3), .val (.int p4), .val (.long q5), .second, .val (.int p6), .val (.int (2 : Int32)), .val (.int sp), .val (.int lo), .val (.int hi), .val (.int mid), .val (.double s0), .second, .val (.double s1), .second, .unset, .unset, .unset, .unset, .unset, .unset, .unset] [(.double (FP.i2d p6))]))
        exact J109_31 _ (by simp only [if_pos hc97_6, bz_t hc97_6, bz_f (fun q => q hc97_6 : ¬ ¬ ((((p1.toUInt32 >>> ((3 : Int32) &&& 31).toUInt32).toInt32) &&& (1 : Int32)) = (0 : Int32)))])
      · skip
        refine go (fun _ k => XS.ifNo X4.here hx rfl (hb hby at_97) rfl ((if0 _ _).trans (feq hc97_6).1) k) ?_
        show Go p e below _ (T4.setTop (mkF m 100 #[.val (.int p1), .val (.int p2), .val (.int p3), .val (.int p4), .val (.long q5), .second, .val (.int p6), .val (.int (2 : Int32)), .val (.int sp), .val (.int lo), .val (.int hi), .val (.int mid), .val (.double s0), .second, .val (.double s1), .second, .unset, .unset, .unset, .unset, .unset, .unset, .unset] []))
        refine go (X4.ldc2DoubleC hx hown (mvT hZ (hw _ (List.mem_of_getElem? (i := 72) rfl))) (g := (mkF m 100 #[.val (.int p1), .val (.int p2), .val (.int p3), .val (.int p4), .val (.long q5), .second, .val (.int p6), .val (.int (2 : Int32)), .val (.int sp), .val (.int lo), .val (.int hi), .val (.int mid), .val (.double s0), .second, .val (.double s1), .second, .unset, .unset, .unset, .unset, .unset, .unset, .unset] [])) rfl (hb hby at_100)) ?_
        show Go p e below _ (T4.setTop (mkF m 103 #[.val (.int p1), .val (.int p2), .val (.int p3), .val (.int p4), .val (.long q5), .second, .val (.int p6), .val (.int (2 : Int32)), .val (.int sp), .val (.int lo), .val (.int hi), .val (.int mid), .val (.double s0), .second, .val (.double s1), .second, .unset, .unset, .unset, .unset, .unset, .unset, .unset] [(.double (18442240474082181120 : UInt64))]))
        refine go (fun _ k => XS.goto X4.here hx rfl (pc0 := 103) (pc' := 109) rfl (hb hby at_103) (by decide) (by decide) k) ?_
        show Go p e below _ (T4.setTop (mkF m 109 #[.val (.int p1), .val (.int p2), .val (.int p3), .val (.int p4), .val (.long q5), .second, .val (.int p6), .val (.int (2 : Int32)), .val (.int sp), .val (.int lo), .val (.int hi), .val (.int mid), .val (.double s0), .second, .val (.double s1), .second, .unset, .unset, .unset, .unset, .unset, .unset, .unset] [(.double (18442240474082181120 : UInt64))]))
        exact J109_31 _ (by simp only [if_neg hc97_6, bz_f hc97_6, bz_t hc97_6])
  · skip
    rw [hk]
    show Go p e below _ (T4.setTop (mkF m 47 #[.val (.int p1), .val (.int p2), .val (.int p3), .val (.int p4), .val (.long q5), .second, .val (.int p6), .val (.int (3 : Int32)), .val (.int sp), .val (.int lo), .val (.int hi), .val (.int mid), .unset, .unset, .unset, .unset, .unset, .unset, .unset, .unset, .unset, .unset, .unset] []))
    refine go (fun _ k => XS.iload X4.here hx rfl (hb hby at_47) rfl  k) ?_
    show Go p e below _ (T4.setTop (mkF m 49 #[.val (.int p1), .val (.int p2), .val (.int p3), .val (.int p4), .val (.long q5), .second, .val (.int p6), .val (.int (3 : Int32)), .val (.int sp), .val (.int lo), .val (.int hi), .val (.int mid), .unset, .unset, .unset, .unset, .unset, .unset, .unset, .unset, .unset, .unset, .unset] [(.int (3 : Int32))]))
    refine go (fun _ k => XS.iconst X4.here hx rfl (hb hby at_49) k) ?_
    show Go p e below _ (T4.setTop (mkF m 50 #[.val (.int p1), .val (.int p2), .val (.int p3), .val (.int p4), .val (.long q5), .second, .val (.int p6), .val (.int (3 : Int32)), .val (.int sp), .val (.int lo), .val (.int hi), .val (.int mid), .unset, .unset, .unset, .unset, .unset, .unset, .unset, .unset, .unset, .unset, .unset] [(.int (2 : Int32)), (.int (3 : Int32))]))
    refine go (fun _ k => XS.icmpNo X4.here hx rfl (hb hby at_50) rfl (flt (by decide : ¬ ((3 : Int32) < (2 : Int32)))).1 k) ?_
    show Go p e below _ (T4.setTop (mkF m 53 #[.val (.int p1), .val (.int p2), .val (.int p3), .val (.int p4), .val (.long q5), .second, .val (.int p6), .val (.int (3 : Int32)), .val (.int sp), .val (.int lo), .val (.int hi), .val (.int mid), .unset, .unset, .unset, .unset, .unset, .unset, .unset, .unset, .unset, .unset, .unset] []))
    refine go (fun _ k => XS.iload X4.here hx rfl (hb hby at_53) rfl  k) ?_
    show Go p e below _ (T4.setTop (mkF m 55 #[.val (.int p1), .val (.int p2), .val (.int p3), .val (.int p4), .val (.long q5), .second, .val (.int p6), .val (.int (3 : Int32)), .val (.int sp), .val (.int lo), .val (.int hi), .val (.int mid), .unset, .unset, .unset, .unset, .unset, .unset, .unset, .unset, .unset, .unset, .unset] [(.int lo)]))
    refine go (fun _ k => XS.iload X4.here hx rfl (hb hby at_55) rfl  k) ?_
    show Go p e below _ (T4.setTop (mkF m 57 #[.val (.int p1), .val (.int p2), .val (.int p3), .val (.int p4), .val (.long q5), .second, .val (.int p6), .val (.int (3 : Int32)), .val (.int sp), .val (.int lo), .val (.int hi), .val (.int mid), .unset, .unset, .unset, .unset, .unset, .unset, .unset, .unset, .unset, .unset, .unset] [(.int mid), (.int lo)]))
    by_cases hc57_8 : lo = mid
    · skip
      refine go (fun _ k => XS.icmpNo X4.here hx rfl (hb hby at_57) rfl (teq hc57_8).2 k) ?_
      show Go p e below _ (T4.setTop (mkF m 60 #[.val (.int p1), .val (.int p2), .val (.int p3), .val (.int p4), .val (.long q5), .second, .val (.int p6), .val (.int (3 : Int32)), .val (.int sp), .val (.int lo), .val (.int hi), .val (.int mid), .unset, .unset, .unset, .unset, .unset, .unset, .unset, .unset, .unset, .unset, .unset] []))
      refine go (fun _ k => XS.iconst X4.here hx rfl (hb hby at_60) k) ?_
      show Go p e below _ (T4.setTop (mkF m 61 #[.val (.int p1), .val (.int p2), .val (.int p3), .val (.int p4), .val (.long q5), .second, .val (.int p6), .val (.int (3 : Int32)), .val (.int sp), .val (.int lo), .val (.int hi), .val (.int mid), .unset, .unset, .unset, .unset, .unset, .unset, .unset, .unset, .unset, .unset, .unset] [(.int (1 : Int32))]))
      obtain ⟨fs, hr, hrun, hended, hW, hsame⟩ := X4.leave (v := some (.int (1 : Int32))) (fun h => by rw [Bd.returns] at h; cases h)
      refine leaf (T := T4) ⟨fs, retN X4 hx (t := .boolean) Bd.returns (by simp) (hb hby at_61) hr, hrun, hended, hW, hsame⟩ ?_ (by decide) (by decide)
      show Q0 Z p1 p2 p3 p4 q5 p6 h0 n0 _ T4.heap _
      rw [e4]
      exact ⟨rfl, N4⟩
    · skip
      refine go (fun _ k => XS.icmpYes X4.here hx rfl (pc0 := 57) (pc' := 62) rfl (hb hby at_57) rfl (feq hc57_8).2 (by decide) (by decide) k) ?_
      show Go p e below _ (T4.setTop (mkF m 62 #[.val (.int p1), .val (.int p2), .val (.int p3), .val (.int p4), .val (.long q5), .second, .val (.int p6), .val (.int (3 : Int32)), .val (.int sp), .val (.int lo), .val (.int hi), .val (.int mid), .unset, .unset, .unset, .unset, .unset, .unset, .unset, .unset, .unset, .unset, .unset] []))
      refine go (fun _ k => XS.iload X4.here hx rfl (hb hby at_62) rfl  k) ?_
      show Go p e below _ (T4.setTop (mkF m 64 #[.val (.int p1), .val (.int p2), .val (.int p3), .val (.int p4), .val (.long q5), .second, .val (.int p6), .val (.int (3 : Int32)), .val (.int sp), .val (.int lo), .val (.int hi), .val (.int mid), .unset, .unset, .unset, .unset, .unset, .unset, .unset, .unset, .unset, .unset, .unset] [(.int (3 : Int32))]))
      refine go (fun _ k => XS.iconst X4.here hx rfl (hb hby at_64) k) ?_
      show Go p e below _ (T4.setTop (mkF m 65 #[.val (.int p1), .val (.int p2), .val (.int p3), .val (.int p4), .val (.long q5), .second, .val (.int p6), .val (.int (3 : Int32)), .val (.int sp), .val (.int lo), .val (.int hi), .val (.int mid), .unset, .unset, .unset, .unset, .unset, .unset, .unset, .unset, .unset, .unset, .unset] [(.int (3 : Int32)), (.int (3 : Int32))]))
      refine go (fun _ k => XS.icmpNo X4.here hx rfl (hb hby at_65) rfl (teq (by decide : (3 : Int32) = (3 : Int32))).2 k) ?_
      show Go p e below _ (T4.setTop (mkF m 68 #[.val (.int p1), .val (.int p2), .val (.int p3), .val (.int p4), .val (.long q5), .second, .val (.int p6), .val (.int (3 : Int32)), .val (.int sp), .val (.int lo), .val (.int hi), .val (.int mid), .unset, .unset, .unset, .unset, .unset, .unset, .unset, .unset, .unset, .unset, .unset] []))
      refine go (fun _ k => XS.iload X4.here hx rfl (hb hby at_68) rfl  k) ?_
      show Go p e below _ (T4.setTop (mkF m 70 #[.val (.int p1), .val (.int p2), .val (.int p3), .val (.int p4), .val (.long q5), .second, .val (.int p6), .val (.int (3 : Int32)), .val (.int sp), .val (.int lo), .val (.int hi), .val (.int mid), .unset, .unset, .unset, .unset, .unset, .unset, .unset, .unset, .unset, .unset, .unset] [(.int mid)]))
      refine go (fun _ k => XS.iload X4.here hx rfl (hb hby at_70) rfl  k) ?_
      show Go p e below _ (T4.setTop (mkF m 72 #[.val (.int p1), .val (.int p2), .val (.int p3), .val (.int p4), .val (.long q5), .second, .val (.int p6), .val (.int (3 : Int32)), .val (.int sp), .val (.int lo), .val (.int hi), .val (.int mid), .unset, .unset, .unset, .unset, .unset, .unset, .unset, .unset, .unset, .unset, .unset] [(.int hi), (.int mid)]))
      by_cases hc72_9 : mid = hi
      · skip
        refine go (fun _ k => XS.icmpNo X4.here hx rfl (hb hby at_72) rfl (teq hc72_9).2 k) ?_
        show Go p e below _ (T4.setTop (mkF m 75 #[.val (.int p1), .val (.int p2), .val (.int p3), .val (.int p4), .val (.long q5), .second, .val (.int p6), .val (.int (3 : Int32)), .val (.int sp), .val (.int lo), .val (.int hi), .val (.int mid), .unset, .unset, .unset, .unset, .unset, .unset, .unset, .unset, .unset, .unset, .unset] []))
        refine go (fun _ k => XS.iconst X4.here hx rfl (hb hby at_75) k) ?_
        show Go p e below _ (T4.setTop (mkF m 76 #[.val (.int p1), .val (.int p2), .val (.int p3), .val (.int p4), .val (.long q5), .second, .val (.int p6), .val (.int (3 : Int32)), .val (.int sp), .val (.int lo), .val (.int hi), .val (.int mid), .unset, .unset, .unset, .unset, .unset, .unset, .unset, .unset, .unset, .unset, .unset] [(.int (1 : Int32))]))
        obtain ⟨fs, hr, hrun, hended, hW, hsame⟩ := X4.leave (v := some (.int (1 : Int32))) (fun h => by rw [Bd.returns] at h; cases h)
        refine leaf (T := T4) ⟨fs, retN X4 hx (t := .boolean) Bd.returns (by simp) (hb hby at_76) hr, hrun, hended, hW, hsame⟩ ?_ (by decide) (by decide)
        show Q0 Z p1 p2 p3 p4 q5 p6 h0 n0 _ T4.heap _
        rw [e4]
        exact ⟨rfl, N4⟩
      · skip
        refine go (fun _ k => XS.icmpYes X4.here hx rfl (pc0 := 72) (pc' := 77) rfl (hb hby at_72) rfl (feq hc72_9).2 (by decide) (by decide) k) ?_
        show Go p e below _ (T4.setTop (mkF m 77 #[.val (.int p1), .val (.int p2), .val (.int p3), .val (.int p4), .val (.long q5), .second, .val (.int p6), .val (.int (3 : Int32)), .val (.int sp), .val (.int lo), .val (.int hi), .val (.int mid), .unset, .unset, .unset, .unset, .unset, .unset, .unset, .unset, .unset, .unset, .unset] []))
        refine go (fun _ k => XS.lload X4.here hx rfl (hb hby at_77) rfl  k) ?_
        show Go p e below _ (T4.setTop (mkF m 79 #[.val (.int p1), .val (.int p2), .val (.int p3), .val (.int p4), .val (.long q5), .second, .val (.int p6), .val (.int (3 : Int32)), .val (.int sp), .val (.int lo), .val (.int hi), .val (.int mid), .unset, .unset, .unset, .unset, .unset, .unset, .unset, .unset, .unset, .unset, .unset] [(.long q5)]))
        refine go (fun _ k => XS.l2i X4.here hx rfl (hb hby at_79) rfl k) ?_
        show Go p e below _ (T4.setTop (mkF m 80 #[.val (.int p1), .val (.int p2), .val (.int p3), .val (.int p4), .val (.long q5), .second, .val (.int p6), .val (.int (3 : Int32)), .val (.int sp), .val (.int lo), .val (.int hi), .val (.int mid), .unset, .unset, .unset, .unset, .unset, .unset, .unset, .unset, .unset, .unset, .unset] [(.int (q5.toInt32))]))
        refine go (fun _ k => XS.i2dS X4.here hx rfl (hb hby at_80) rfl rfl k) ?_
        show Go p e below _ (T4.setTop (mkF m 81 #[.val (.int p1), .val (.int p2), .val (.int p3), .val (.int p4), .val (.long q5), .second, .val (.int p6), .val (.int (3 : Int32)), .val (.int sp), .val (.int lo), .val (.int hi), .val (.int mid), .unset, .unset, .unset, .unset, .unset, .unset, .unset, .unset, .unset, .unset, .unset] [(.double (FP.i2d (q5.toInt32)))]))
        refine go (fun _ k => XS.dstore X4.here hx rfl (hb hby at_81) rfl (l' := #[.val (.int p1), .val (.int p2), .val (.int p3), .val (.int p4), .val (.long q5), .second, .val (.int p6), .val (.int (3 : Int32)), .val (.int sp), .val (.int lo), .val (.int hi), .val (.int mid), .val (.double (FP.i2d (q5.toInt32))), .second, .unset, .unset, .unset, .unset, .unset, .unset, .unset, .unset, .unset]) rfl k) ?_
        show Go p e below _ (T4.setTop (mkF m 83 #[.val (.int p1), .val (.int p2), .val (.int p3), .val (.int p4), .val (.long q5), .second, .val (.int p6), .val (.int (3 : Int32)), .val (.int sp), .val (.int lo), .val (.int hi), .val (.int mid), .val (.double (FP.i2d (q5.toInt32))), .second, .unset, .unset, .unset, .unset, .unset, .unset, .unset, .unset, .unset] []))
        have nn0 := own_nan (q5.toInt32)
        generalize hs0 : (FP.i2d (q5.toInt32)) = s0 at nn0 ⊢
        show Go p e below _ (T4.setTop (mkF m 83 #[.val (.int p1), .val (.int p2), .val (.int p3), .val (.int p4), .val (.long q5), .second, .val (.int p6), .val (.int (3 : Int32)), .val (.int sp), .val (.int lo), .val (.int hi), .val (.int mid), .val (.double s0), .second, .unset, .unset, .unset, .unset, .unset, .unset, .unset, .unset, .unset] []))
        refine go (fun _ k => XS.lload X4.here hx rfl (hb hby at_83) rfl  k) ?_
        show Go p e below _ (T4.setTop (mkF m 85 #[.val (.int p1), .val (.int p2), .val (.int p3), .val (.int p4), .val (.long q5), .second, .val (.int p6), .val (.int (3 : Int32)), .val (.int sp), .val (.int lo), .val (.int hi), .val (.int mid), .val (.double s0), .second, .unset, .unset, .unset, .unset, .unset, .unset, .unset, .unset, .unset] [(.long q5)]))
        refine go (fun _ k => XS.bipush X4.here hx rfl (hb hby at_85) k) ?_
        show Go p e below _ (T4.setTop (mkF m 87 #[.val (.int p1), .val (.int p2), .val (.int p3), .val (.int p4), .val (.long q5), .second, .val (.int p6), .val (.int (3 : Int32)), .val (.int sp), .val (.int lo), .val (.int hi), .val (.int mid), .val (.double s0), .second, .unset, .unset, .unset, .unset, .unset, .unset, .unset, .unset, .unset] [(.int (32 : Int32)), (.long q5)]))
        refine go (fun _ k => XS.lshr X4.here hx rfl (hb hby at_87) rfl k) ?_
        show Go p e below _ (T4.setTop (mkF m 88 #[.val (.int p1), .val (.int p2), .val (.int p3), .val (.int p4), .val (.long q5), .second, .val (.int p6), .val (.int (3 : Int32)), .val (.int sp), .val (.int lo), .val (.int hi), .val (.int mid), .val (.double s0), .second, .unset, .unset, .unset, .unset, .unset, .unset, .unset, .unset, .unset] [(.long (q5 >>> ((32 : Int32) &&& 0x3f).toInt64))]))
        refine go (fun _ k => XS.l2i X4.here hx rfl (hb hby at_88) rfl k) ?_
        show Go p e below _ (T4.setTop (mkF m 89 #[.val (.int p1), .val (.int p2), .val (.int p3), .val (.int p4), .val (.long q5), .second, .val (.int p6), .val (.int (3 : Int32)), .val (.int sp), .val (.int lo), .val (.int hi), .val (.int mid), .val (.double s0), .second, .unset, .unset, .unset, .unset, .unset, .unset, .unset, .unset, .unset] [(.int ((q5 >>> ((32 : Int32) &&& 0x3f).toInt64).toInt32))]))
        refine go (fun _ k => XS.i2dS X4.here hx rfl (hb hby at_89) rfl rfl k) ?_
        show Go p e below _ (T4.setTop (mkF m 90 #[.val (.int p1), .val (.int p2), .val (.int p3), .val (.int p4), .val (.long q5), .second, .val (.int p6), .val (.int (3 : Int32)), .val (.int sp), .val (.int lo), .val (.int hi), .val (.int mid), .val (.double s0), .second, .unset, .unset, .unset, .unset, .unset, .unset, .unset, .unset, .unset] [(.double (FP.i2d ((q5 >>> ((32 : Int32) &&& 0x3f).toInt64).toInt32)))]))
        refine go (fun _ k => XS.dstore X4.here hx rfl (hb hby at_90) rfl (l' := #[.val (.int p1), .val (.int p2), .val (.int p3), .val (.int p4), .val (.long q5), .second, .val (.int p6), .val (.int (3 : Int32)), .val (.int sp), .val (.int lo), .val (.int hi), .val (.int mid), .val (.double s0), .second, .val (.double (FP.i2d ((q5 >>> ((32 : Int32) &&& 0x3f).toInt64).toInt32))), .second, .unset, .unset, .unset, .unset, .unset, .unset, .unset]) rfl k) ?_
        show Go p e below _ (T4.setTop (mkF m 92 #[.val (.int p1), .val (.int p2), .val (.int p3), .val (.int p4), .val (.long q5), .second, .val (.int p6), .val (.int (3 : Int32)), .val (.int sp), .val (.int lo), .val (.int hi), .val (.int mid), .val (.double s0), .second, .val (.double (FP.i2d ((q5 >>> ((32 : Int32) &&& 0x3f).toInt64).toInt32))), .second, .unset, .unset, .unset, .unset, .unset, .unset, .unset] []))
        have nn1 := own_nan ((q5 >>> ((32 : Int32) &&& 0x3f).toInt64).toInt32)
        generalize hs1 : (FP.i2d ((q5 >>> ((32 : Int32) &&& 0x3f).toInt64).toInt32)) = s1 at nn1 ⊢
        show Go p e below _ (T4.setTop (mkF m 92 #[.val (.int p1), .val (.int p2), .val (.int p3), .val (.int p4), .val (.long q5), .second, .val (.int p6), .val (.int (3 : Int32)), .val (.int sp), .val (.int lo), .val (.int hi), .val (.int mid), .val (.double s0), .second, .val (.double s1), .second, .unset, .unset, .unset, .unset, .unset, .unset, .unset] []))
        refine go (fun _ k => XS.iloadN X4.here hx rfl (hb hby at_92) rfl  k) ?_
        show Go p e below _ (T4.setTop (mkF m 93 #[.val (.int p1), .val (.int p2), .val (.int p3), .val (.int p4), .val (.long q5), .second, .val (.int p6), .val (.int (3 : Int32)), .val (.int sp), .val (.int lo), .val (.int hi), .val (.int mid), .val (.double s0), .second, .val (.double s1), .second, .unset, .unset, .unset, .unset, .unset, .unset, .unset] [(.int p1)]))
        refine go (fun _ k => XS.iconst X4.here hx rfl (hb hby at_93) k) ?_
        show Go p e below _ (T4.setTop (mkF m 94 #[.val (.int p1), .val (.int p2), .val (.int p3), .val (.int p4), .val (.long q5), .second, .val (.int p6), .val (.int (3 : Int32)), .val (.int sp), .val (.int lo), .val (.int hi), .val (.int mid), .val (.double s0), .second, .val (.double s1), .second, .unset, .unset, .unset, .unset, .unset, .unset, .unset] [(.int (3 : Int32)), (.int p1)]))
        refine go (fun _ k => XS.iushr X4.here hx rfl (hb hby at_94) rfl k) ?_
        show Go p e below _ (T4.setTop (mkF m 95 #[.val (.int p1), .val (.int p2), .val (.int p3), .val (.int p4), .val (.long q5), .second, .val (.int p6), .val (.int (3 : Int32)), .val (.int sp), .val (.int lo), .val (.int hi), .val (.int mid), .val (.double s0), .second, .val (.double s1), .second, .unset, .unset, .unset, .unset, .unset, .unset, .unset] [(.int ((p1.toUInt32 >>> ((3 : Int32) &&& 31).toUInt32).toInt32))]))
        refine go (fun _ k => XS.iconst X4.here hx rfl (hb hby at_95) k) ?_
        show Go p e below _ (T4.setTop (mkF m 96 #[.val (.int p1), .val (.int p2), .val (.int p3), .val (.int p4), .val (.long q5), .second, .val (.int p6), .val (.int (3 : Int32)), .val (.int sp), .val (.int lo), .val (.int hi), .val (.int mid), .val (.double s0), .second, .val (.double s1), .second, .unset, .unset, .unset, .unset, .unset, .unset, .unset] [(.int (1 : Int32)), (.int ((p1.toUInt32 >>> ((3 : Int32) &&& 31).toUInt32).toInt32))]))
        refine go (fun _ k => XS.iand X4.here hx rfl (hb hby at_96) rfl k) ?_
        show Go p e below _ (T4.setTop (mkF m 97 #[.val (.int p1), .val (.int p2), .val (.int p3), .val (.int p4), .val (.long q5), .second, .val (.int p6), .val (.int (3 : Int32)), .val (.int sp), .val (.int lo), .val (.int hi), .val (.int mid), .val (.double s0), .second, .val (.double s1), .second, .unset, .unset, .unset, .unset, .unset, .unset, .unset] [(.int (((p1.toUInt32 >>> ((3 : Int32) &&& 31).toUInt32).toInt32) &&& (1 : Int32)))]))
        have J109_50 : ∀ (v109_11 : UInt64), v109_11 = (if (((p1.toUInt32 >>> ((3 : Int32) &&& 31).toUInt32).toInt32) &&& (1 : Int32)) = (0 : Int32) then (FP.i2d p6) else (18442240474082181120 : UInt64)) → Go p e below (PP s below (Q0 Z p1 p2 p3 p4 q5 p6 h0 n0) room_1.cells room_1.slots) (T4.setTop (mkF m 109 #[.val (.int p1), .val (.int p2), .val (.int p3), .val (.int p4), .val (.long q5), .second, .val (.int p6), .val (.int (3 : Int32)), .val (.int sp), .val (.int lo), .val (.int hi), .val (.int mid), .val (.double s0), .second, .val (.double s1), .second, .unset, .unset, .unset, .unset, .unset, .unset, .unset] [(.double v109_11)])) := by
          intro v109_11 hv109_11
          show Go p e below _ (T4.setTop (mkF m 109 #[.val (.int p1), .val (.int p2), .val (.int p3), .val (.int p4), .val (.long q5), .second, .val (.int p6), .val (.int (3 : Int32)), .val (.int sp), .val (.int lo), .val (.int hi), .val (.int mid), .val (.double s0), .second, .val (.double s1), .second, .unset, .unset, .unset, .unset, .unset, .unset, .unset] [(.double v109_11)]))
          refine go (fun _ k => XS.dstore X4.here hx rfl (hb hby at_109) rfl (l' := #[.val (.int p1), .val (.int p2), .val (.int p3), .val (.int p4), .val (.long q5), .second, .val (.int p6), .val (.int (3 : Int32)), .val (.int sp), .val (.int lo), .val (.int hi), .val (.int mid), .val (.double s0), .second, .val (.double s1), .second, .val (.double v109_11), .second, .unset, .unset, .unset, .unset, .unset]) rfl k) ?_
          show Go p e below _ (T4.setTop (mkF m 111 #[.val (.int p1), .val (.int p2), .val (.int p3), .val (.int p4), .val (.long q5), .second, .val (.int p6), .val (.int (3 : Int32)), .val (.int sp), .val (.int lo), .val (.int hi), .val (.int mid), .val (.double s0), .second, .val (.double s1), .second, .val (.double v109_11), .second, .unset, .unset, .unset, .unset, .unset] []))
          have nn2 : Jvm.Free.Fl.NoNaN64 v109_11 := by rw [hv109_11]; split; exact own_nan _; exact own_ninf
          obtain ⟨T51, h51, X51, e51, E51, A51, D51, -, st51⟩ := newO X4 hx hZ hown (hw _ (List.mem_of_getElem? (i := 7) rfl)) (hw _ (List.mem_of_getElem? (i := 8) rfl)) (hw _ (List.mem_of_getElem? (i := 9) rfl)) e4 (g := (mkF m 111 #[.val (.int p1), .val (.int p2), .val (.int p3), .val (.int p4), .val (.long q5), .second, .val (.int p6), .val (.int (3 : Int32)), .val (.int sp), .val (.int lo), .val (.int hi), .val (.int mid), .val (.double s0), .second, .val (.double s1), .second, .val (.double v109_11), .second, .unset, .unset, .unset, .unset, .unset] [])) rfl (hb hby at_111) (by decide) (by decide)
          obtain ⟨b51, g51⟩ : ∃ z, z = h0.size := ⟨_, rfl⟩
          rw [← g51] at A51 D51 st51
          have sz_b51 : h0.size ≤ b51 := Nat.le_trans (Keep.refl h0 []).1 (Nat.le_of_eq g51.symm)
          have g_b51 : n0 ≤ b51 := Nat.le_trans Z0 sz_b51
          have F_elements_b51 : Fld Z h51 b51 "com/example/drienerlo/drienerlo/retrieval/Scored$Builder" "elements" "[I" .null := D51 (Or.inr (hw _ (List.mem_of_getElem? (i := 18) rfl))) (ty := (.array .int)) (by decide)
          have F_scores_b51 : Fld Z h51 b51 "com/example/drienerlo/drienerlo/retrieval/Scored$Builder" "scores" "[D" .null := D51 (Or.inr (hw _ (List.mem_of_getElem? (i := 21) rfl))) (ty := (.array .double)) (by decide)
          have F_size_b51 : Fld Z h51 b51 "com/example/drienerlo/drienerlo/retrieval/Scored$Builder" "size" "I" (.int (0 : Int32)) := D51 (Or.inl (hw _ (List.mem_of_getElem? (i := 31) rfl))) (ty := .int) (by decide)
          refine go st51 ?_
          show Go p e below _ (T51.setTop (mkF m 114 #[.val (.int p1), .val (.int p2), .val (.int p3), .val (.int p4), .val (.long q5), .second, .val (.int p6), .val (.int (3 : Int32)), .val (.int sp), .val (.int lo), .val (.int hi), .val (.int mid), .val (.double s0), .second, .val (.double s1), .second, .val (.double v109_11), .second, .unset, .unset, .unset, .unset, .unset] [(.ref b51)]))
          refine go (fun _ k => XS.dup X51.here hx rfl (hb hby at_114) rfl rfl k) ?_
          show Go p e below _ (T51.setTop (mkF m 115 #[.val (.int p1), .val (.int p2), .val (.int p3), .val (.int p4), .val (.long q5), .second, .val (.int p6), .val (.int (3 : Int32)), .val (.int sp), .val (.int lo), .val (.int hi), .val (.int mid), .val (.double s0), .second, .val (.double s1), .second, .val (.double v109_11), .second, .unset, .unset, .unset, .unset, .unset] [(.ref b51), (.ref b51)]))
          refine go (fun _ k => XS.iload X51.here hx rfl (hb hby at_115) rfl  k) ?_
          show Go p e below _ (T51.setTop (mkF m 117 #[.val (.int p1), .val (.int p2), .val (.int p3), .val (.int p4), .val (.long q5), .second, .val (.int p6), .val (.int (3 : Int32)), .val (.int sp), .val (.int lo), .val (.int hi), .val (.int mid), .val (.double s0), .second, .val (.double s1), .second, .val (.double v109_11), .second, .unset, .unset, .unset, .unset, .unset] [(.int (3 : Int32)), (.ref b51), (.ref b51)]))
          refine go (fun _ k => XS.iload X51.here hx rfl (hb hby at_117) rfl  k) ?_
          show Go p e below _ (T51.setTop (mkF m 119 #[.val (.int p1), .val (.int p2), .val (.int p3), .val (.int p4), .val (.long q5), .second, .val (.int p6), .val (.int (3 : Int32)), .val (.int sp), .val (.int lo), .val (.int hi), .val (.int mid), .val (.double s0), .second, .val (.double s1), .second, .val (.double v109_11), .second, .unset, .unset, .unset, .unset, .unset] [(.int sp), (.int (3 : Int32)), (.ref b51), (.ref b51)]))
          refine go (fun _ k => XS.iadd X51.here hx rfl (hb hby at_119) rfl k) ?_
          show Go p e below _ (T51.setTop (mkF m 120 #[.val (.int p1), .val (.int p2), .val (.int p3), .val (.int p4), .val (.long q5), .second, .val (.int p6), .val (.int (3 : Int32)), .val (.int sp), .val (.int lo), .val (.int hi), .val (.int mid), .val (.double s0), .second, .val (.double s1), .second, .val (.double v109_11), .second, .unset, .unset, .unset, .unset, .unset] [(.int ((3 : Int32) + sp)), (.ref b51), (.ref b51)]))
          have hn := own_cap (K := 3) (k := (3 : Int32)) (by decide) (by decide) (by decide) hsp
          generalize hN : ((3 : Int32) + sp) = n at hn ⊢
          show Go p e below _ (T51.setTop (mkF m 120 #[.val (.int p1), .val (.int p2), .val (.int p3), .val (.int p4), .val (.long q5), .second, .val (.int p6), .val (.int (3 : Int32)), .val (.int sp), .val (.int lo), .val (.int hi), .val (.int mid), .val (.double s0), .second, .val (.double s1), .second, .val (.double v109_11), .second, .unset, .unset, .unset, .unset, .unset] [(.int n), (.ref b51), (.ref b51)]))
          have K53 : Keep h0 h51 [] := ((Keep.refl h0 []).ext E51)
          obtain ⟨_, _, ⟨T52, L52, k52, n52⟩, -, X52, ⟨Lc52, hQ52, l52, y52, z52⟩, st52⟩ := X51.specialBack hx (y := (⟨"com/example/drienerlo/drienerlo/retrieval/Scored$Builder", "<init>", "(I)V"⟩ : MethodName)) rfl hown (mvT hZ (hw _ (List.mem_of_getElem? (i := 10) rfl))) (mvT hZ (hw _ (List.mem_of_getElem? (i := 11) rfl))) (mvT hZ (hw _ (List.mem_of_getElem? (i := 12) rfl))) (by decide) (backOf (W := 1) (rm3 l Z a0 hw [] b51 n .null .null (0 : Int32) h51 n0 (Nat.le_trans Z0 K53.1) A51 g_b51 F_elements_b51 F_scores_b51 F_size_b51 (⟨by omega, hn.2⟩ : 0 ≤ n.toInt ∧ n.toInt ≤ 4)) hZ (hw _ (List.mem_of_getElem? (i := 12) rfl)) (hw _ (List.mem_of_getElem? (i := 9) rfl)) (by decide) (by decide)) (g := (mkF m 120 #[.val (.int p1), .val (.int p2), .val (.int p3), .val (.int p4), .val (.long q5), .second, .val (.int p6), .val (.int (3 : Int32)), .val (.int sp), .val (.int lo), .val (.int hi), .val (.int mid), .val (.double s0), .second, .val (.double s1), .second, .val (.double v109_11), .second, .unset, .unset, .unset, .unset, .unset] [(.int n), (.ref b51), (.ref b51)])) rfl (by rw [hml]; rfl) (Steps.refl _) (a := b51) (argsL := [(.int n)]) (rest := [(.ref b51)]) (lenOf pd_4 rfl) rfl (by show 2 * 0 + _ ≤ _; exact Nat.le_of_eq rfl) (hb hby at_120) (fun _ _ => ⟨rfl, e51, (by decide : 1 + 2 ≤ _), (by decide : 3 + 8 ≤ _)⟩)
          dsimp only [Pt.U, Pt.locs, Pt.cells, Pt.slots] at X52 l52 y52 z52 st52 hQ52
          subst l52 y52 z52
          obtain ⟨be_52, ke_52, bd_52, kd_52, rfl, N52q, r52_0, r52_1, r52_2, r52_3, r52_4, r52_5, r52_6, r52_7, r52_8, r52_9, r52_10, r52_11⟩ := hQ52
          have N52 := Fr.app N4 N52q
          have sz_be_52 : h0.size ≤ be_52 := Nat.le_trans K53.1 r52_1
          have g_be_52 : n0 ≤ be_52 := Nat.le_trans Z0 sz_be_52
          have sz_bd_52 : h0.size ≤ bd_52 := Nat.le_trans K53.1 r52_2
          have g_bd_52 : n0 ≤ bd_52 := Nat.le_trans Z0 sz_bd_52
          refine go (fun _ k => st52.trans k) ?_
          show Go p e below _ (T52.setTop (mkF m 123 #[.val (.int p1), .val (.int p2), .val (.int p3), .val (.int p4), .val (.long q5), .second, .val (.int p6), .val (.int (3 : Int32)), .val (.int sp), .val (.int lo), .val (.int hi), .val (.int mid), .val (.double s0), .second, .val (.double s1), .second, .val (.double v109_11), .second, .unset, .unset, .unset, .unset, .unset] [(.ref b51)]))
          refine go (fun _ k => XS.astore X52.here hx rfl (hb hby at_123) rfl rfl (l' := #[.val (.int p1), .val (.int p2), .val (.int p3), .val (.int p4), .val (.long q5), .second, .val (.int p6), .val (.int (3 : Int32)), .val (.int sp), .val (.int lo), .val (.int hi), .val (.int mid), .val (.double s0), .second, .val (.double s1), .second, .val (.double v109_11), .second, .val (.ref b51), .unset, .unset, .unset, .unset]) rfl k) ?_
          show Go p e below _ (T52.setTop (mkF m 125 #[.val (.int p1), .val (.int p2), .val (.int p3), .val (.int p4), .val (.long q5), .second, .val (.int p6), .val (.int (3 : Int32)), .val (.int sp), .val (.int lo), .val (.int hi), .val (.int mid), .val (.double s0), .second, .val (.double s1), .second, .val (.double v109_11), .second, .val (.ref b51), .unset, .unset, .unset, .unset] []))
          refine go (fun _ k => XS.iload X52.here hx rfl (hb hby at_125) rfl  k) ?_
          show Go p e below _ (T52.setTop (mkF m 127 #[.val (.int p1), .val (.int p2), .val (.int p3), .val (.int p4), .val (.long q5), .second, .val (.int p6), .val (.int (3 : Int32)), .val (.int sp), .val (.int lo), .val (.int hi), .val (.int mid), .val (.double s0), .second, .val (.double s1), .second, .val (.double v109_11), .second, .val (.ref b51), .unset, .unset, .unset, .unset] [(.int (3 : Int32))]))
          refine go (fun _ k => XS.iconst X52.here hx rfl (hb hby at_127) k) ?_
          show Go p e below _ (T52.setTop (mkF m 128 #[.val (.int p1), .val (.int p2), .val (.int p3), .val (.int p4), .val (.long q5), .second, .val (.int p6), .val (.int (3 : Int32)), .val (.int sp), .val (.int lo), .val (.int hi), .val (.int mid), .val (.double s0), .second, .val (.double s1), .second, .val (.double v109_11), .second, .val (.ref b51), .unset, .unset, .unset, .unset] [(.int (1 : Int32)), (.int (3 : Int32))]))
          refine go (fun _ k => XS.icmpNo X52.here hx rfl (hb hby at_128) rfl (flt (by decide : ¬ ((3 : Int32) < (1 : Int32)))).1 k) ?_
          show Go p e below _ (T52.setTop (mkF m 131 #[.val (.int p1), .val (.int p2), .val (.int p3), .val (.int p4), .val (.long q5), .second, .val (.int p6), .val (.int (3 : Int32)), .val (.int sp), .val (.int lo), .val (.int hi), .val (.int mid), .val (.double s0), .second, .val (.double s1), .second, .val (.double v109_11), .second, .val (.ref b51), .unset, .unset, .unset, .unset] []))
          refine go (fun _ k => XS.aload X52.here hx rfl (hb hby at_131) rfl rfl  k) ?_
          show Go p e below _ (T52.setTop (mkF m 133 #[.val (.int p1), .val (.int p2), .val (.int p3), .val (.int p4), .val (.long q5), .second, .val (.int p6), .val (.int (3 : Int32)), .val (.int sp), .val (.int lo), .val (.int hi), .val (.int mid), .val (.double s0), .second, .val (.double s1), .second, .val (.double v109_11), .second, .val (.ref b51), .unset, .unset, .unset, .unset] [(.ref b51)]))
          refine go (fun _ k => XS.iload X52.here hx rfl (hb hby at_133) rfl  k) ?_
          show Go p e below _ (T52.setTop (mkF m 135 #[.val (.int p1), .val (.int p2), .val (.int p3), .val (.int p4), .val (.long q5), .second, .val (.int p6), .val (.int (3 : Int32)), .val (.int sp), .val (.int lo), .val (.int hi), .val (.int mid), .val (.double s0), .second, .val (.double s1), .second, .val (.double v109_11), .second, .val (.ref b51), .unset, .unset, .unset, .unset] [(.int lo), (.ref b51)]))
          refine go (fun _ k => XS.dload X52.here hx rfl (hb hby at_135) rfl  k) ?_
          show Go p e below _ (T52.setTop (mkF m 137 #[.val (.int p1), .val (.int p2), .val (.int p3), .val (.int p4), .val (.long q5), .second, .val (.int p6), .val (.int (3 : Int32)), .val (.int sp), .val (.int lo), .val (.int hi), .val (.int mid), .val (.double s0), .second, .val (.double s1), .second, .val (.double v109_11), .second, .val (.ref b51), .unset, .unset, .unset, .unset] [(.double s0), (.int lo), (.ref b51)]))
          have K55 : Keep h0 T52.heap [] := (K53.trans r52_0 (allS (Or.inr sz_b51) all0))
          obtain ⟨cq54, kq54, q54a, q54b, q54c⟩ := isOf hZ rfl r52_4
          obtain ⟨_, _, ⟨T54, L54, k54, n54⟩, -, X54, ⟨Lc54, hQ54, l54, y54, z54⟩, st54⟩ := X52.virtualBack hx (y := (⟨"com/example/drienerlo/drienerlo/retrieval/Scored$Builder", "add", "(ID)V"⟩ : MethodName)) (z := (⟨"com/example/drienerlo/drienerlo/retrieval/Scored$Builder", "add", "(ID)V"⟩ : MethodName)) hown (mvT hZ (hw _ (List.mem_of_getElem? (i := 73) rfl))) (mvT hZ (hw _ (List.mem_of_getElem? (i := 74) rfl))) (notFace_of_selects (args := #[]) (mvT hZ (hw _ (List.mem_of_getElem? (i := 76) rfl)))) (mvT hZ (hw _ (List.mem_of_getElem? (i := 76) rfl))) (mvT hZ (hw _ (List.mem_of_getElem? (i := 75) rfl))) (by decide) (backOf (W := 0) (rm11 l Z a0 hw [] b51 lo s0 be_52 ke_52 bd_52 kd_52 n ([(.int (0 : Int32)), (.int (0 : Int32)), (.int (0 : Int32)), (.int (0 : Int32))]) ([(.double (0 : UInt64)), (.double (0 : UInt64)), (.double (0 : UInt64)), (.double (0 : UInt64))]) (0 : Int32) 0 (1 : Int32) T52.heap n0 (Nat.le_trans Z0 K55.1) r52_4 r52_5 r52_6 r52_7 r52_8 r52_9 g_b51 g_be_52 g_bd_52 (Nat.ne_of_lt (Nat.lt_of_lt_of_le A51.lt r52_1)) (Nat.ne_of_lt (Nat.lt_of_lt_of_le A51.lt r52_2)) r52_3 (own_idx hn (by decide) (by decide) : ¬ (0 : Int32) < 0 ∧ (0 : Int32) < n) (by decide : (0 : Int32).toNatClampNeg = 0) (by simp : 0 < ([(.int (0 : Int32)), (.int (0 : Int32)), (.int (0 : Int32)), (.int (0 : Int32))]).length) (by simp : 0 < ([(.double (0 : UInt64)), (.double (0 : UInt64)), (.double (0 : UInt64)), (.double (0 : UInt64))]).length) (by decide : (0 : Int32) + (1 : Int32) = (1 : Int32))) hZ (hw _ (List.mem_of_getElem? (i := 77) rfl)) (hw _ (List.mem_of_getElem? (i := 9) rfl)) (by decide) (by decide)) q54a q54c (g := (mkF m 137 #[.val (.int p1), .val (.int p2), .val (.int p3), .val (.int p4), .val (.long q5), .second, .val (.int p6), .val (.int (3 : Int32)), .val (.int sp), .val (.int lo), .val (.int hi), .val (.int mid), .val (.double s0), .second, .val (.double s1), .second, .val (.double v109_11), .second, .val (.ref b51), .unset, .unset, .unset, .unset] [(.double s0), (.int lo), (.ref b51)])) rfl (by rw [hml]; rfl) (Steps.refl _) (argsL := [(.int lo), (.double s0)]) (rest := []) (lenOf pd_8 rfl) rfl (by show 2 * 0 + _ ≤ _; exact Nat.le_of_eq rfl) (hb hby at_137) (fun _ _ => ⟨rfl, rfl, (by decide : 3 + 0 ≤ _), (by decide : 11 + 0 ≤ _)⟩)
          dsimp only [Pt.U, Pt.locs, Pt.cells, Pt.slots] at X54 l54 y54 z54 st54 hQ54
          subst l54 y54 z54
          obtain ⟨rfl, N54q, r54_0, r54_1, r54_2, r54_3, r54_4, r54_5, r54_6⟩ := hQ54
          have N54 := Fr.app N52 N54q
          refine go (fun _ k => st54.trans k) ?_
          show Go p e below _ (T54.setTop (mkF m 140 #[.val (.int p1), .val (.int p2), .val (.int p3), .val (.int p4), .val (.long q5), .second, .val (.int p6), .val (.int (3 : Int32)), .val (.int sp), .val (.int lo), .val (.int hi), .val (.int mid), .val (.double s0), .second, .val (.double s1), .second, .val (.double v109_11), .second, .val (.ref b51), .unset, .unset, .unset, .unset] []))
          refine go (fun _ k => XS.iload X54.here hx rfl (hb hby at_140) rfl  k) ?_
          show Go p e below _ (T54.setTop (mkF m 142 #[.val (.int p1), .val (.int p2), .val (.int p3), .val (.int p4), .val (.long q5), .second, .val (.int p6), .val (.int (3 : Int32)), .val (.int sp), .val (.int lo), .val (.int hi), .val (.int mid), .val (.double s0), .second, .val (.double s1), .second, .val (.double v109_11), .second, .val (.ref b51), .unset, .unset, .unset, .unset] [(.int (3 : Int32))]))
          refine go (fun _ k => XS.iconst X54.here hx rfl (hb hby at_142) k) ?_
          show Go p e below _ (T54.setTop (mkF m 143 #[.val (.int p1), .val (.int p2), .val (.int p3), .val (.int p4), .val (.long q5), .second, .val (.int p6), .val (.int (3 : Int32)), .val (.int sp), .val (.int lo), .val (.int hi), .val (.int mid), .val (.double s0), .second, .val (.double s1), .second, .val (.double v109_11), .second, .val (.ref b51), .unset, .unset, .unset, .unset] [(.int (2 : Int32)), (.int (3 : Int32))]))
          refine go (fun _ k => XS.icmpNo X54.here hx rfl (hb hby at_143) rfl (flt (by decide : ¬ ((3 : Int32) < (2 : Int32)))).1 k) ?_
          show Go p e below _ (T54.setTop (mkF m 146 #[.val (.int p1), .val (.int p2), .val (.int p3), .val (.int p4), .val (.long q5), .second, .val (.int p6), .val (.int (3 : Int32)), .val (.int sp), .val (.int lo), .val (.int hi), .val (.int mid), .val (.double s0), .second, .val (.double s1), .second, .val (.double v109_11), .second, .val (.ref b51), .unset, .unset, .unset, .unset] []))
          refine go (fun _ k => XS.aload X54.here hx rfl (hb hby at_146) rfl rfl  k) ?_
          show Go p e below _ (T54.setTop (mkF m 148 #[.val (.int p1), .val (.int p2), .val (.int p3), .val (.int p4), .val (.long q5), .second, .val (.int p6), .val (.int (3 : Int32)), .val (.int sp), .val (.int lo), .val (.int hi), .val (.int mid), .val (.double s0), .second, .val (.double s1), .second, .val (.double v109_11), .second, .val (.ref b51), .unset, .unset, .unset, .unset] [(.ref b51)]))
          refine go (fun _ k => XS.iload X54.here hx rfl (hb hby at_148) rfl  k) ?_
          show Go p e below _ (T54.setTop (mkF m 150 #[.val (.int p1), .val (.int p2), .val (.int p3), .val (.int p4), .val (.long q5), .second, .val (.int p6), .val (.int (3 : Int32)), .val (.int sp), .val (.int lo), .val (.int hi), .val (.int mid), .val (.double s0), .second, .val (.double s1), .second, .val (.double v109_11), .second, .val (.ref b51), .unset, .unset, .unset, .unset] [(.int mid), (.ref b51)]))
          refine go (fun _ k => XS.dload X54.here hx rfl (hb hby at_150) rfl  k) ?_
          show Go p e below _ (T54.setTop (mkF m 152 #[.val (.int p1), .val (.int p2), .val (.int p3), .val (.int p4), .val (.long q5), .second, .val (.int p6), .val (.int (3 : Int32)), .val (.int sp), .val (.int lo), .val (.int hi), .val (.int mid), .val (.double s0), .second, .val (.double s1), .second, .val (.double v109_11), .second, .val (.ref b51), .unset, .unset, .unset, .unset] [(.double s1), (.int mid), (.ref b51)]))
          have K57 : Keep h0 T54.heap [] := (K55.trans r54_0 (allS (Or.inr sz_b51) (allS (Or.inr sz_be_52) (allS (Or.inr sz_bd_52) all0))))
          obtain ⟨cq56, kq56, q56a, q56b, q56c⟩ := isOf hZ rfl r54_1
          obtain ⟨_, _, ⟨T56, L56, k56, n56⟩, -, X56, ⟨Lc56, hQ56, l56, y56, z56⟩, st56⟩ := X54.virtualBack hx (y := (⟨"com/example/drienerlo/drienerlo/retrieval/Scored$Builder", "add", "(ID)V"⟩ : MethodName)) (z := (⟨"com/example/drienerlo/drienerlo/retrieval/Scored$Builder", "add", "(ID)V"⟩ : MethodName)) hown (mvT hZ (hw _ (List.mem_of_getElem? (i := 73) rfl))) (mvT hZ (hw _ (List.mem_of_getElem? (i := 74) rfl))) (notFace_of_selects (args := #[]) (mvT hZ (hw _ (List.mem_of_getElem? (i := 76) rfl)))) (mvT hZ (hw _ (List.mem_of_getElem? (i := 76) rfl))) (mvT hZ (hw _ (List.mem_of_getElem? (i := 75) rfl))) (by decide) (backOf (W := 0) (rm11 l Z a0 hw [] b51 mid s1 be_52 ke_52 bd_52 kd_52 n (([(.int (0 : Int32)), (.int (0 : Int32)), (.int (0 : Int32)), (.int (0 : Int32))]).set 0 (.int lo)) (([(.double (0 : UInt64)), (.double (0 : UInt64)), (.double (0 : UInt64)), (.double (0 : UInt64))]).set 0 (.double s0)) (1 : Int32) 1 (2 : Int32) T54.heap n0 (Nat.le_trans Z0 K57.1) r54_1 r54_2 r54_3 r54_4 r54_5 r54_6 g_b51 g_be_52 g_bd_52 (Nat.ne_of_lt (Nat.lt_of_lt_of_le A51.lt r52_1)) (Nat.ne_of_lt (Nat.lt_of_lt_of_le A51.lt r52_2)) r52_3 (own_idx hn (by decide) (by decide) : ¬ (1 : Int32) < 0 ∧ (1 : Int32) < n) (by decide : (1 : Int32).toNatClampNeg = 1) (by simp : 1 < (([(.int (0 : Int32)), (.int (0 : Int32)), (.int (0 : Int32)), (.int (0 : Int32))]).set 0 (.int lo)).length) (by simp : 1 < (([(.double (0 : UInt64)), (.double (0 : UInt64)), (.double (0 : UInt64)), (.double (0 : UInt64))]).set 0 (.double s0)).length) (by decide : (1 : Int32) + (1 : Int32) = (2 : Int32))) hZ (hw _ (List.mem_of_getElem? (i := 77) rfl)) (hw _ (List.mem_of_getElem? (i := 9) rfl)) (by decide) (by decide)) q56a q56c (g := (mkF m 152 #[.val (.int p1), .val (.int p2), .val (.int p3), .val (.int p4), .val (.long q5), .second, .val (.int p6), .val (.int (3 : Int32)), .val (.int sp), .val (.int lo), .val (.int hi), .val (.int mid), .val (.double s0), .second, .val (.double s1), .second, .val (.double v109_11), .second, .val (.ref b51), .unset, .unset, .unset, .unset] [(.double s1), (.int mid), (.ref b51)])) rfl (by rw [hml]; rfl) (Steps.refl _) (argsL := [(.int mid), (.double s1)]) (rest := []) (lenOf pd_8 rfl) rfl (by show 2 * 0 + _ ≤ _; exact Nat.le_of_eq rfl) (hb hby at_152) (fun _ _ => ⟨rfl, rfl, (by decide : 3 + 0 ≤ _), (by decide : 11 + 0 ≤ _)⟩)
          dsimp only [Pt.U, Pt.locs, Pt.cells, Pt.slots] at X56 l56 y56 z56 st56 hQ56
          subst l56 y56 z56
          obtain ⟨rfl, N56q, r56_0, r56_1, r56_2, r56_3, r56_4, r56_5, r56_6⟩ := hQ56
          have N56 := Fr.app N54 N56q
          refine go (fun _ k => st56.trans k) ?_
          show Go p e below _ (T56.setTop (mkF m 155 #[.val (.int p1), .val (.int p2), .val (.int p3), .val (.int p4), .val (.long q5), .second, .val (.int p6), .val (.int (3 : Int32)), .val (.int sp), .val (.int lo), .val (.int hi), .val (.int mid), .val (.double s0), .second, .val (.double s1), .second, .val (.double v109_11), .second, .val (.ref b51), .unset, .unset, .unset, .unset] []))
          refine go (fun _ k => XS.iload X56.here hx rfl (hb hby at_155) rfl  k) ?_
          show Go p e below _ (T56.setTop (mkF m 157 #[.val (.int p1), .val (.int p2), .val (.int p3), .val (.int p4), .val (.long q5), .second, .val (.int p6), .val (.int (3 : Int32)), .val (.int sp), .val (.int lo), .val (.int hi), .val (.int mid), .val (.double s0), .second, .val (.double s1), .second, .val (.double v109_11), .second, .val (.ref b51), .unset, .unset, .unset, .unset] [(.int (3 : Int32))]))
          refine go (fun _ k => XS.iconst X56.here hx rfl (hb hby at_157) k) ?_
          show Go p e below _ (T56.setTop (mkF m 158 #[.val (.int p1), .val (.int p2), .val (.int p3), .val (.int p4), .val (.long q5), .second, .val (.int p6), .val (.int (3 : Int32)), .val (.int sp), .val (.int lo), .val (.int hi), .val (.int mid), .val (.double s0), .second, .val (.double s1), .second, .val (.double v109_11), .second, .val (.ref b51), .unset, .unset, .unset, .unset] [(.int (3 : Int32)), (.int (3 : Int32))]))
          refine go (fun _ k => XS.icmpNo X56.here hx rfl (hb hby at_158) rfl (flt (by decide : ¬ ((3 : Int32) < (3 : Int32)))).1 k) ?_
          show Go p e below _ (T56.setTop (mkF m 161 #[.val (.int p1), .val (.int p2), .val (.int p3), .val (.int p4), .val (.long q5), .second, .val (.int p6), .val (.int (3 : Int32)), .val (.int sp), .val (.int lo), .val (.int hi), .val (.int mid), .val (.double s0), .second, .val (.double s1), .second, .val (.double v109_11), .second, .val (.ref b51), .unset, .unset, .unset, .unset] []))
          refine go (fun _ k => XS.aload X56.here hx rfl (hb hby at_161) rfl rfl  k) ?_
          show Go p e below _ (T56.setTop (mkF m 163 #[.val (.int p1), .val (.int p2), .val (.int p3), .val (.int p4), .val (.long q5), .second, .val (.int p6), .val (.int (3 : Int32)), .val (.int sp), .val (.int lo), .val (.int hi), .val (.int mid), .val (.double s0), .second, .val (.double s1), .second, .val (.double v109_11), .second, .val (.ref b51), .unset, .unset, .unset, .unset] [(.ref b51)]))
          refine go (fun _ k => XS.iload X56.here hx rfl (hb hby at_163) rfl  k) ?_
          show Go p e below _ (T56.setTop (mkF m 165 #[.val (.int p1), .val (.int p2), .val (.int p3), .val (.int p4), .val (.long q5), .second, .val (.int p6), .val (.int (3 : Int32)), .val (.int sp), .val (.int lo), .val (.int hi), .val (.int mid), .val (.double s0), .second, .val (.double s1), .second, .val (.double v109_11), .second, .val (.ref b51), .unset, .unset, .unset, .unset] [(.int hi), (.ref b51)]))
          refine go (fun _ k => XS.dload X56.here hx rfl (hb hby at_165) rfl  k) ?_
          show Go p e below _ (T56.setTop (mkF m 167 #[.val (.int p1), .val (.int p2), .val (.int p3), .val (.int p4), .val (.long q5), .second, .val (.int p6), .val (.int (3 : Int32)), .val (.int sp), .val (.int lo), .val (.int hi), .val (.int mid), .val (.double s0), .second, .val (.double s1), .second, .val (.double v109_11), .second, .val (.ref b51), .unset, .unset, .unset, .unset] [(.double v109_11), (.int hi), (.ref b51)]))
          have K59 : Keep h0 T56.heap [] := (K57.trans r56_0 (allS (Or.inr sz_b51) (allS (Or.inr sz_be_52) (allS (Or.inr sz_bd_52) all0))))
          obtain ⟨cq58, kq58, q58a, q58b, q58c⟩ := isOf hZ rfl r56_1
          obtain ⟨_, _, ⟨T58, L58, k58, n58⟩, -, X58, ⟨Lc58, hQ58, l58, y58, z58⟩, st58⟩ := X56.virtualBack hx (y := (⟨"com/example/drienerlo/drienerlo/retrieval/Scored$Builder", "add", "(ID)V"⟩ : MethodName)) (z := (⟨"com/example/drienerlo/drienerlo/retrieval/Scored$Builder", "add", "(ID)V"⟩ : MethodName)) hown (mvT hZ (hw _ (List.mem_of_getElem? (i := 73) rfl))) (mvT hZ (hw _ (List.mem_of_getElem? (i := 74) rfl))) (notFace_of_selects (args := #[]) (mvT hZ (hw _ (List.mem_of_getElem? (i := 76) rfl)))) (mvT hZ (hw _ (List.mem_of_getElem? (i := 76) rfl))) (mvT hZ (hw _ (List.mem_of_getElem? (i := 75) rfl))) (by decide) (backOf (W := 0) (rm11 l Z a0 hw [] b51 hi v109_11 be_52 ke_52 bd_52 kd_52 n ((([(.int (0 : Int32)), (.int (0 : Int32)), (.int (0 : Int32)), (.int (0 : Int32))]).set 0 (.int lo)).set 1 (.int mid)) ((([(.double (0 : UInt64)), (.double (0 : UInt64)), (.double (0 : UInt64)), (.double (0 : UInt64))]).set 0 (.double s0)).set 1 (.double s1)) (2 : Int32) 2 (3 : Int32) T56.heap n0 (Nat.le_trans Z0 K59.1) r56_1 r56_2 r56_3 r56_4 r56_5 r56_6 g_b51 g_be_52 g_bd_52 (Nat.ne_of_lt (Nat.lt_of_lt_of_le A51.lt r52_1)) (Nat.ne_of_lt (Nat.lt_of_lt_of_le A51.lt r52_2)) r52_3 (own_idx hn (by decide) (by decide) : ¬ (2 : Int32) < 0 ∧ (2 : Int32) < n) (by decide : (2 : Int32).toNatClampNeg = 2) (by simp : 2 < ((([(.int (0 : Int32)), (.int (0 : Int32)), (.int (0 : Int32)), (.int (0 : Int32))]).set 0 (.int lo)).set 1 (.int mid)).length) (by simp : 2 < ((([(.double (0 : UInt64)), (.double (0 : UInt64)), (.double (0 : UInt64)), (.double (0 : UInt64))]).set 0 (.double s0)).set 1 (.double s1)).length) (by decide : (2 : Int32) + (1 : Int32) = (3 : Int32))) hZ (hw _ (List.mem_of_getElem? (i := 77) rfl)) (hw _ (List.mem_of_getElem? (i := 9) rfl)) (by decide) (by decide)) q58a q58c (g := (mkF m 167 #[.val (.int p1), .val (.int p2), .val (.int p3), .val (.int p4), .val (.long q5), .second, .val (.int p6), .val (.int (3 : Int32)), .val (.int sp), .val (.int lo), .val (.int hi), .val (.int mid), .val (.double s0), .second, .val (.double s1), .second, .val (.double v109_11), .second, .val (.ref b51), .unset, .unset, .unset, .unset] [(.double v109_11), (.int hi), (.ref b51)])) rfl (by rw [hml]; rfl) (Steps.refl _) (argsL := [(.int hi), (.double v109_11)]) (rest := []) (lenOf pd_8 rfl) rfl (by show 2 * 0 + _ ≤ _; exact Nat.le_of_eq rfl) (hb hby at_167) (fun _ _ => ⟨rfl, rfl, (by decide : 3 + 0 ≤ _), (by decide : 11 + 0 ≤ _)⟩)
          dsimp only [Pt.U, Pt.locs, Pt.cells, Pt.slots] at X58 l58 y58 z58 st58 hQ58
          subst l58 y58 z58
          obtain ⟨rfl, N58q, r58_0, r58_1, r58_2, r58_3, r58_4, r58_5, r58_6⟩ := hQ58
          have N58 := Fr.app N56 N58q
          refine go (fun _ k => st58.trans k) ?_
          show Go p e below _ (T58.setTop (mkF m 170 #[.val (.int p1), .val (.int p2), .val (.int p3), .val (.int p4), .val (.long q5), .second, .val (.int p6), .val (.int (3 : Int32)), .val (.int sp), .val (.int lo), .val (.int hi), .val (.int mid), .val (.double s0), .second, .val (.double s1), .second, .val (.double v109_11), .second, .val (.ref b51), .unset, .unset, .unset, .unset] []))
          refine go (fun _ k => XS.aload X58.here hx rfl (hb hby at_170) rfl rfl  k) ?_
          show Go p e below _ (T58.setTop (mkF m 172 #[.val (.int p1), .val (.int p2), .val (.int p3), .val (.int p4), .val (.long q5), .second, .val (.int p6), .val (.int (3 : Int32)), .val (.int sp), .val (.int lo), .val (.int hi), .val (.int mid), .val (.double s0), .second, .val (.double s1), .second, .val (.double v109_11), .second, .val (.ref b51), .unset, .unset, .unset, .unset] [(.ref b51)]))
          have K61 : Keep h0 T58.heap [] := (K59.trans r58_0 (allS (Or.inr sz_b51) (allS (Or.inr sz_be_52) (allS (Or.inr sz_bd_52) all0))))
          obtain ⟨cq60, kq60, q60a, q60b, q60c⟩ := isOf hZ rfl r58_1
          obtain ⟨_, _, ⟨T60, L60, k60, n60⟩, -, X60, ⟨Lc60, hQ60, l60, y60, z60⟩, st60⟩ := X58.virtualBack hx (y := (⟨"com/example/drienerlo/drienerlo/retrieval/Scored$Builder", "build", "()Lcom/example/drienerlo/drienerlo/retrieval/Scored;"⟩ : MethodName)) (z := (⟨"com/example/drienerlo/drienerlo/retrieval/Scored$Builder", "build", "()Lcom/example/drienerlo/drienerlo/retrieval/Scored;"⟩ : MethodName)) hown (mvT hZ (hw _ (List.mem_of_getElem? (i := 22) rfl))) (mvT hZ (hw _ (List.mem_of_getElem? (i := 23) rfl))) (notFace_of_selects (args := #[]) (mvT hZ (hw _ (List.mem_of_getElem? (i := 25) rfl)))) (mvT hZ (hw _ (List.mem_of_getElem? (i := 25) rfl))) (mvT hZ (hw _ (List.mem_of_getElem? (i := 24) rfl))) (by decide) (backOf (W := 0) (rm5 l Z a0 hw [] b51 be_52 ke_52 bd_52 kd_52 n (((([(.int (0 : Int32)), (.int (0 : Int32)), (.int (0 : Int32)), (.int (0 : Int32))]).set 0 (.int lo)).set 1 (.int mid)).set 2 (.int hi)) (((([(.double (0 : UInt64)), (.double (0 : UInt64)), (.double (0 : UInt64)), (.double (0 : UInt64))]).set 0 (.double s0)).set 1 (.double s1)).set 2 (.double v109_11)) (3 : Int32) T58.heap n0 (Nat.le_trans Z0 K61.1) r58_1 r58_2 r58_3 r58_4 r58_5 r58_6 (((r52_10.keep r54_0).keep r56_0).keep r58_0) (((r52_11.keep r54_0).keep r56_0).keep r58_0) (own_idz hn (by decide) (by decide) : ¬ (3 : Int32) < 0 ∧ ¬ n < (3 : Int32)) (hn.2 : n.toInt ≤ 4)) hZ (hw _ (List.mem_of_getElem? (i := 26) rfl)) (hw _ (List.mem_of_getElem? (i := 9) rfl)) (by decide) (by decide)) q60a q60c (g := (mkF m 172 #[.val (.int p1), .val (.int p2), .val (.int p3), .val (.int p4), .val (.long q5), .second, .val (.int p6), .val (.int (3 : Int32)), .val (.int sp), .val (.int lo), .val (.int hi), .val (.int mid), .val (.double s0), .second, .val (.double s1), .second, .val (.double v109_11), .second, .val (.ref b51), .unset, .unset, .unset, .unset] [(.ref b51)])) rfl (by rw [hml]; rfl) (Steps.refl _) (argsL := []) (rest := []) (lenOf pd_5 rfl) rfl (by show 2 * 0 + _ ≤ _; exact Nat.le_of_eq rfl) (hb hby at_172) (fun _ _ => ⟨rfl, rfl, (by decide : 3 + 3 ≤ _), (by decide : 11 + 10 ≤ _)⟩)
          dsimp only [Pt.U, Pt.locs, Pt.cells, Pt.slots] at X60 l60 y60 z60 st60 hQ60
          subst l60 y60 z60
          obtain ⟨r_60, e1_60, k1_60, d1_60, k2_60, rfl, N60q, r60_0, r60_1, r60_2, r60_3, r60_4, r60_5, r60_6⟩ := hQ60
          have N60 := Fr.app N58 N60q
          have sz_r_60 : h0.size ≤ r_60 := Nat.le_trans K61.1 r60_1
          have g_r_60 : n0 ≤ r_60 := Nat.le_trans Z0 sz_r_60
          skip
          refine go (fun _ k => st60.trans k) ?_
          show Go p e below _ (T60.setTop (mkF m 175 #[.val (.int p1), .val (.int p2), .val (.int p3), .val (.int p4), .val (.long q5), .second, .val (.int p6), .val (.int (3 : Int32)), .val (.int sp), .val (.int lo), .val (.int hi), .val (.int mid), .val (.double s0), .second, .val (.double s1), .second, .val (.double v109_11), .second, .val (.ref b51), .unset, .unset, .unset, .unset] [(.ref r_60)]))
          refine go (fun _ k => XS.astore X60.here hx rfl (hb hby at_175) rfl rfl (l' := #[.val (.int p1), .val (.int p2), .val (.int p3), .val (.int p4), .val (.long q5), .second, .val (.int p6), .val (.int (3 : Int32)), .val (.int sp), .val (.int lo), .val (.int hi), .val (.int mid), .val (.double s0), .second, .val (.double s1), .second, .val (.double v109_11), .second, .val (.ref b51), .val (.ref r_60), .unset, .unset, .unset]) rfl k) ?_
          show Go p e below _ (T60.setTop (mkF m 177 #[.val (.int p1), .val (.int p2), .val (.int p3), .val (.int p4), .val (.long q5), .second, .val (.int p6), .val (.int (3 : Int32)), .val (.int sp), .val (.int lo), .val (.int hi), .val (.int mid), .val (.double s0), .second, .val (.double s1), .second, .val (.double v109_11), .second, .val (.ref b51), .val (.ref r_60), .unset, .unset, .unset] []))
          refine go (fun _ k => XS.aload X60.here hx rfl (hb hby at_177) rfl rfl  k) ?_
          show Go p e below _ (T60.setTop (mkF m 179 #[.val (.int p1), .val (.int p2), .val (.int p3), .val (.int p4), .val (.long q5), .second, .val (.int p6), .val (.int (3 : Int32)), .val (.int sp), .val (.int lo), .val (.int hi), .val (.int mid), .val (.double s0), .second, .val (.double s1), .second, .val (.double v109_11), .second, .val (.ref b51), .val (.ref r_60), .unset, .unset, .unset] [(.ref r_60)]))
          have K63 : Keep h0 T60.heap [] := (K61.trans r60_0 all0)
          obtain ⟨cq62, kq62, q62a, q62b, q62c⟩ := isOf hZ rfl r60_2
          obtain ⟨_, _, ⟨T62, L62, k62, n62⟩, -, X62, ⟨Lc62, hQ62, l62, y62, z62⟩, st62⟩ := X60.virtualBack hx (y := (⟨"com/example/drienerlo/drienerlo/retrieval/Scored", "elements", "()[I"⟩ : MethodName)) (z := (⟨"com/example/drienerlo/drienerlo/retrieval/Scored", "elements", "()[I"⟩ : MethodName)) hown (mvT hZ (hw _ (List.mem_of_getElem? (i := 62) rfl))) (mvT hZ (hw _ (List.mem_of_getElem? (i := 63) rfl))) (notFace_of_selects (args := #[]) (mvT hZ (hw _ (List.mem_of_getElem? (i := 65) rfl)))) (mvT hZ (hw _ (List.mem_of_getElem? (i := 65) rfl))) (mvT hZ (hw _ (List.mem_of_getElem? (i := 64) rfl))) (by decide) (backOf (W := 0) (rm9 l Z a0 hw [] r_60 e1_60 T60.heap n0 (Nat.le_trans Z0 K63.1) r60_2 r60_3) hZ (hw _ (List.mem_of_getElem? (i := 66) rfl)) (hw _ (List.mem_of_getElem? (i := 29) rfl)) (by decide) (by decide)) q62a q62c (g := (mkF m 179 #[.val (.int p1), .val (.int p2), .val (.int p3), .val (.int p4), .val (.long q5), .second, .val (.int p6), .val (.int (3 : Int32)), .val (.int sp), .val (.int lo), .val (.int hi), .val (.int mid), .val (.double s0), .second, .val (.double s1), .second, .val (.double v109_11), .second, .val (.ref b51), .val (.ref r_60), .unset, .unset, .unset] [(.ref r_60)])) rfl (by rw [hml]; rfl) (Steps.refl _) (argsL := []) (rest := []) (lenOf pd_6 rfl) rfl (by show 2 * 0 + _ ≤ _; exact Nat.le_of_eq rfl) (hb hby at_179) (fun _ _ => ⟨rfl, rfl, (by decide : 6 + 0 ≤ _), (by decide : 21 + 0 ≤ _)⟩)
          dsimp only [Pt.U, Pt.locs, Pt.cells, Pt.slots] at X62 l62 y62 z62 st62 hQ62
          subst l62 y62 z62
          obtain ⟨rfl, N62q, e62⟩ := hQ62
          have N62 := Fr.app N60 N62q
          skip
          refine go (fun _ k => st62.trans k) ?_
          show Go p e below _ (T62.setTop (mkF m 182 #[.val (.int p1), .val (.int p2), .val (.int p3), .val (.int p4), .val (.long q5), .second, .val (.int p6), .val (.int (3 : Int32)), .val (.int sp), .val (.int lo), .val (.int hi), .val (.int mid), .val (.double s0), .second, .val (.double s1), .second, .val (.double v109_11), .second, .val (.ref b51), .val (.ref r_60), .unset, .unset, .unset] [(.ref e1_60)]))
          refine go (fun _ k => XS.astore X62.here hx rfl (hb hby at_182) rfl rfl (l' := #[.val (.int p1), .val (.int p2), .val (.int p3), .val (.int p4), .val (.long q5), .second, .val (.int p6), .val (.int (3 : Int32)), .val (.int sp), .val (.int lo), .val (.int hi), .val (.int mid), .val (.double s0), .second, .val (.double s1), .second, .val (.double v109_11), .second, .val (.ref b51), .val (.ref r_60), .val (.ref e1_60), .unset, .unset]) rfl k) ?_
          show Go p e below _ (T62.setTop (mkF m 184 #[.val (.int p1), .val (.int p2), .val (.int p3), .val (.int p4), .val (.long q5), .second, .val (.int p6), .val (.int (3 : Int32)), .val (.int sp), .val (.int lo), .val (.int hi), .val (.int mid), .val (.double s0), .second, .val (.double s1), .second, .val (.double v109_11), .second, .val (.ref b51), .val (.ref r_60), .val (.ref e1_60), .unset, .unset] []))
          refine go (fun _ k => XS.aload X62.here hx rfl (hb hby at_184) rfl rfl  k) ?_
          show Go p e below _ (T62.setTop (mkF m 186 #[.val (.int p1), .val (.int p2), .val (.int p3), .val (.int p4), .val (.long q5), .second, .val (.int p6), .val (.int (3 : Int32)), .val (.int sp), .val (.int lo), .val (.int hi), .val (.int mid), .val (.double s0), .second, .val (.double s1), .second, .val (.double v109_11), .second, .val (.ref b51), .val (.ref r_60), .val (.ref e1_60), .unset, .unset] [(.ref r_60)]))
          obtain ⟨cq64, kq64, q64a, q64b, q64c⟩ := isOf hZ e62 r60_2
          obtain ⟨_, _, ⟨T64, L64, k64, n64⟩, -, X64, ⟨Lc64, hQ64, l64, y64, z64⟩, st64⟩ := X62.virtualBack hx (y := (⟨"com/example/drienerlo/drienerlo/retrieval/Scored", "scores", "()[D"⟩ : MethodName)) (z := (⟨"com/example/drienerlo/drienerlo/retrieval/Scored", "scores", "()[D"⟩ : MethodName)) hown (mvT hZ (hw _ (List.mem_of_getElem? (i := 67) rfl))) (mvT hZ (hw _ (List.mem_of_getElem? (i := 68) rfl))) (notFace_of_selects (args := #[]) (mvT hZ (hw _ (List.mem_of_getElem? (i := 70) rfl)))) (mvT hZ (hw _ (List.mem_of_getElem? (i := 70) rfl))) (mvT hZ (hw _ (List.mem_of_getElem? (i := 69) rfl))) (by decide) (backOf (W := 0) (rm10 l Z a0 hw [] r_60 d1_60 T60.heap n0 (Nat.le_trans Z0 K63.1) r60_2 r60_4) hZ (hw _ (List.mem_of_getElem? (i := 71) rfl)) (hw _ (List.mem_of_getElem? (i := 29) rfl)) (by decide) (by decide)) q64a q64c (g := (mkF m 186 #[.val (.int p1), .val (.int p2), .val (.int p3), .val (.int p4), .val (.long q5), .second, .val (.int p6), .val (.int (3 : Int32)), .val (.int sp), .val (.int lo), .val (.int hi), .val (.int mid), .val (.double s0), .second, .val (.double s1), .second, .val (.double v109_11), .second, .val (.ref b51), .val (.ref r_60), .val (.ref e1_60), .unset, .unset] [(.ref r_60)])) rfl (by rw [hml]; rfl) (Steps.refl _) (argsL := []) (rest := []) (lenOf pd_7 rfl) rfl (by show 2 * 0 + _ ≤ _; exact Nat.le_of_eq rfl) (hb hby at_186) (fun _ _ => ⟨rfl, e62, (by decide : 6 + 0 ≤ _), (by decide : 21 + 0 ≤ _)⟩)
          dsimp only [Pt.U, Pt.locs, Pt.cells, Pt.slots] at X64 l64 y64 z64 st64 hQ64
          subst l64 y64 z64
          obtain ⟨rfl, N64q, e64⟩ := hQ64
          have N64 := Fr.app N62 N64q
          skip
          refine go (fun _ k => st64.trans k) ?_
          show Go p e below _ (T64.setTop (mkF m 189 #[.val (.int p1), .val (.int p2), .val (.int p3), .val (.int p4), .val (.long q5), .second, .val (.int p6), .val (.int (3 : Int32)), .val (.int sp), .val (.int lo), .val (.int hi), .val (.int mid), .val (.double s0), .second, .val (.double s1), .second, .val (.double v109_11), .second, .val (.ref b51), .val (.ref r_60), .val (.ref e1_60), .unset, .unset] [(.ref d1_60)]))
          refine go (fun _ k => XS.astore X64.here hx rfl (hb hby at_189) rfl rfl (l' := #[.val (.int p1), .val (.int p2), .val (.int p3), .val (.int p4), .val (.long q5), .second, .val (.int p6), .val (.int (3 : Int32)), .val (.int sp), .val (.int lo), .val (.int hi), .val (.int mid), .val (.double s0), .second, .val (.double s1), .second, .val (.double v109_11), .second, .val (.ref b51), .val (.ref r_60), .val (.ref e1_60), .val (.ref d1_60), .unset]) rfl k) ?_
          show Go p e below _ (T64.setTop (mkF m 191 #[.val (.int p1), .val (.int p2), .val (.int p3), .val (.int p4), .val (.long q5), .second, .val (.int p6), .val (.int (3 : Int32)), .val (.int sp), .val (.int lo), .val (.int hi), .val (.int mid), .val (.double s0), .second, .val (.double s1), .second, .val (.double v109_11), .second, .val (.ref b51), .val (.ref r_60), .val (.ref e1_60), .val (.ref d1_60), .unset] []))
          refine go (fun _ k => XS.aload X64.here hx rfl (hb hby at_191) rfl rfl  k) ?_
          show Go p e below _ (T64.setTop (mkF m 193 #[.val (.int p1), .val (.int p2), .val (.int p3), .val (.int p4), .val (.long q5), .second, .val (.int p6), .val (.int (3 : Int32)), .val (.int sp), .val (.int lo), .val (.int hi), .val (.int mid), .val (.double s0), .second, .val (.double s1), .second, .val (.double v109_11), .second, .val (.ref b51), .val (.ref r_60), .val (.ref e1_60), .val (.ref d1_60), .unset] [(.ref e1_60)]))
          obtain ⟨cl65, Ar65, -, S65, M65, -, -⟩ := id r60_5
          refine go (X64.arraylength hx (by rw [e64]; exact Ar65.1) (State.isArrayOf_alike hZ.alike Ar65.2.1) (g := (mkF m 193 #[.val (.int p1), .val (.int p2), .val (.int p3), .val (.int p4), .val (.long q5), .second, .val (.int p6), .val (.int (3 : Int32)), .val (.int sp), .val (.int lo), .val (.int hi), .val (.int mid), .val (.double s0), .second, .val (.double s1), .second, .val (.double v109_11), .second, .val (.ref b51), .val (.ref r_60), .val (.ref e1_60), .val (.ref d1_60), .unset] [(.ref e1_60)])) rfl rfl (hb hby at_193)) ?_
          rw [len_of S65 M65]
          show Go p e below _ (T64.setTop (mkF m 194 #[.val (.int p1), .val (.int p2), .val (.int p3), .val (.int p4), .val (.long q5), .second, .val (.int p6), .val (.int (3 : Int32)), .val (.int sp), .val (.int lo), .val (.int hi), .val (.int mid), .val (.double s0), .second, .val (.double s1), .second, .val (.double v109_11), .second, .val (.ref b51), .val (.ref r_60), .val (.ref e1_60), .val (.ref d1_60), .unset] [(.int (3 : Int32))]))
          refine go (fun _ k => XS.iload X64.here hx rfl (hb hby at_194) rfl  k) ?_
          show Go p e below _ (T64.setTop (mkF m 196 #[.val (.int p1), .val (.int p2), .val (.int p3), .val (.int p4), .val (.long q5), .second, .val (.int p6), .val (.int (3 : Int32)), .val (.int sp), .val (.int lo), .val (.int hi), .val (.int mid), .val (.double s0), .second, .val (.double s1), .second, .val (.double v109_11), .second, .val (.ref b51), .val (.ref r_60), .val (.ref e1_60), .val (.ref d1_60), .unset] [(.int (3 : Int32)), (.int (3 : Int32))]))
          refine go (fun _ k => XS.icmpNo X64.here hx rfl (hb hby at_196) rfl (teq (by decide : (3 : Int32) = (3 : Int32))).2 k) ?_
          show Go p e below _ (T64.setTop (mkF m 199 #[.val (.int p1), .val (.int p2), .val (.int p3), .val (.int p4), .val (.long q5), .second, .val (.int p6), .val (.int (3 : Int32)), .val (.int sp), .val (.int lo), .val (.int hi), .val (.int mid), .val (.double s0), .second, .val (.double s1), .second, .val (.double v109_11), .second, .val (.ref b51), .val (.ref r_60), .val (.ref e1_60), .val (.ref d1_60), .unset] []))
          refine go (fun _ k => XS.aload X64.here hx rfl (hb hby at_199) rfl rfl  k) ?_
          show Go p e below _ (T64.setTop (mkF m 201 #[.val (.int p1), .val (.int p2), .val (.int p3), .val (.int p4), .val (.long q5), .second, .val (.int p6), .val (.int (3 : Int32)), .val (.int sp), .val (.int lo), .val (.int hi), .val (.int mid), .val (.double s0), .second, .val (.double s1), .second, .val (.double v109_11), .second, .val (.ref b51), .val (.ref r_60), .val (.ref e1_60), .val (.ref d1_60), .unset] [(.ref d1_60)]))
          obtain ⟨cl66, Ar66, -, S66, M66, -, -⟩ := id r60_6
          refine go (X64.arraylength hx (by rw [e64]; exact Ar66.1) (State.isArrayOf_alike hZ.alike Ar66.2.1) (g := (mkF m 201 #[.val (.int p1), .val (.int p2), .val (.int p3), .val (.int p4), .val (.long q5), .second, .val (.int p6), .val (.int (3 : Int32)), .val (.int sp), .val (.int lo), .val (.int hi), .val (.int mid), .val (.double s0), .second, .val (.double s1), .second, .val (.double v109_11), .second, .val (.ref b51), .val (.ref r_60), .val (.ref e1_60), .val (.ref d1_60), .unset] [(.ref d1_60)])) rfl rfl (hb hby at_201)) ?_
          rw [len_of S66 M66]
          show Go p e below _ (T64.setTop (mkF m 202 #[.val (.int p1), .val (.int p2), .val (.int p3), .val (.int p4), .val (.long q5), .second, .val (.int p6), .val (.int (3 : Int32)), .val (.int sp), .val (.int lo), .val (.int hi), .val (.int mid), .val (.double s0), .second, .val (.double s1), .second, .val (.double v109_11), .second, .val (.ref b51), .val (.ref r_60), .val (.ref e1_60), .val (.ref d1_60), .unset] [(.int (3 : Int32))]))
          refine go (fun _ k => XS.iload X64.here hx rfl (hb hby at_202) rfl  k) ?_
          show Go p e below _ (T64.setTop (mkF m 204 #[.val (.int p1), .val (.int p2), .val (.int p3), .val (.int p4), .val (.long q5), .second, .val (.int p6), .val (.int (3 : Int32)), .val (.int sp), .val (.int lo), .val (.int hi), .val (.int mid), .val (.double s0), .second, .val (.double s1), .second, .val (.double v109_11), .second, .val (.ref b51), .val (.ref r_60), .val (.ref e1_60), .val (.ref d1_60), .unset] [(.int (3 : Int32)), (.int (3 : Int32))]))
          refine go (fun _ k => XS.icmpYes X64.here hx rfl (pc0 := 204) (pc' := 209) rfl (hb hby at_204) rfl (teq (by decide : (3 : Int32) = (3 : Int32))).1 (by decide) (by decide) k) ?_
          show Go p e below _ (T64.setTop (mkF m 209 #[.val (.int p1), .val (.int p2), .val (.int p3), .val (.int p4), .val (.long q5), .second, .val (.int p6), .val (.int (3 : Int32)), .val (.int sp), .val (.int lo), .val (.int hi), .val (.int mid), .val (.double s0), .second, .val (.double s1), .second, .val (.double v109_11), .second, .val (.ref b51), .val (.ref r_60), .val (.ref e1_60), .val (.ref d1_60), .unset] []))
          refine go (fun _ k => XS.iconst X64.here hx rfl (hb hby at_209) k) ?_
          show Go p e below _ (T64.setTop (mkF m 210 #[.val (.int p1), .val (.int p2), .val (.int p3), .val (.int p4), .val (.long q5), .second, .val (.int p6), .val (.int (3 : Int32)), .val (.int sp), .val (.int lo), .val (.int hi), .val (.int mid), .val (.double s0), .second, .val (.double s1), .second, .val (.double v109_11), .second, .val (.ref b51), .val (.ref r_60), .val (.ref e1_60), .val (.ref d1_60), .unset] [(.int (1 : Int32))]))
          refine go (fun _ k => XS.istore X64.here hx rfl (hb hby at_210) rfl (l' := #[.val (.int p1), .val (.int p2), .val (.int p3), .val (.int p4), .val (.long q5), .second, .val (.int p6), .val (.int (3 : Int32)), .val (.int sp), .val (.int lo), .val (.int hi), .val (.int mid), .val (.double s0), .second, .val (.double s1), .second, .val (.double v109_11), .second, .val (.ref b51), .val (.ref r_60), .val (.ref e1_60), .val (.ref d1_60), .val (.int (1 : Int32))]) rfl k) ?_
          show Go p e below _ (T64.setTop (mkF m 212 #[.val (.int p1), .val (.int p2), .val (.int p3), .val (.int p4), .val (.long q5), .second, .val (.int p6), .val (.int (3 : Int32)), .val (.int sp), .val (.int lo), .val (.int hi), .val (.int mid), .val (.double s0), .second, .val (.double s1), .second, .val (.double v109_11), .second, .val (.ref b51), .val (.ref r_60), .val (.ref e1_60), .val (.ref d1_60), .val (.int (1 : Int32))] []))
          refine go (fun _ k => XS.iload X64.here hx rfl (hb hby at_212) rfl  k) ?_
          show Go p e below _ (T64.setTop (mkF m 214 #[.val (.int p1), .val (.int p2), .val (.int p3), .val (.int p4), .val (.long q5), .second, .val (.int p6), .val (.int (3 : Int32)), .val (.int sp), .val (.int lo), .val (.int hi), .val (.int mid), .val (.double s0), .second, .val (.double s1), .second, .val (.double v109_11), .second, .val (.ref b51), .val (.ref r_60), .val (.ref e1_60), .val (.ref d1_60), .val (.int (1 : Int32))] [(.int (3 : Int32))]))
          refine go (fun _ k => XS.iconst X64.here hx rfl (hb hby at_214) k) ?_
          show Go p e below _ (T64.setTop (mkF m 215 #[.val (.int p1), .val (.int p2), .val (.int p3), .val (.int p4), .val (.long q5), .second, .val (.int p6), .val (.int (3 : Int32)), .val (.int sp), .val (.int lo), .val (.int hi), .val (.int mid), .val (.double s0), .second, .val (.double s1), .second, .val (.double v109_11), .second, .val (.ref b51), .val (.ref r_60), .val (.ref e1_60), .val (.ref d1_60), .val (.int (1 : Int32))] [(.int (1 : Int32)), (.int (3 : Int32))]))
          refine go (fun _ k => XS.icmpNo X64.here hx rfl (hb hby at_215) rfl (flt (by decide : ¬ ((3 : Int32) < (1 : Int32)))).1 k) ?_
          show Go p e below _ (T64.setTop (mkF m 218 #[.val (.int p1), .val (.int p2), .val (.int p3), .val (.int p4), .val (.long q5), .second, .val (.int p6), .val (.int (3 : Int32)), .val (.int sp), .val (.int lo), .val (.int hi), .val (.int mid), .val (.double s0), .second, .val (.double s1), .second, .val (.double v109_11), .second, .val (.ref b51), .val (.ref r_60), .val (.ref e1_60), .val (.ref d1_60), .val (.int (1 : Int32))] []))
          refine go (fun _ k => XS.iload X64.here hx rfl (hb hby at_218) rfl  k) ?_
          show Go p e below _ (T64.setTop (mkF m 220 #[.val (.int p1), .val (.int p2), .val (.int p3), .val (.int p4), .val (.long q5), .second, .val (.int p6), .val (.int (3 : Int32)), .val (.int sp), .val (.int lo), .val (.int hi), .val (.int mid), .val (.double s0), .second, .val (.double s1), .second, .val (.double v109_11), .second, .val (.ref b51), .val (.ref r_60), .val (.ref e1_60), .val (.ref d1_60), .val (.int (1 : Int32))] [(.int (1 : Int32))]))
          refine go (fun _ k => XS.ifNo X64.here hx rfl (hb hby at_220) rfl ((if0 _ _).trans (feq (by decide : ¬ ((1 : Int32) = (0 : Int32)))).1) k) ?_
          show Go p e below _ (T64.setTop (mkF m 223 #[.val (.int p1), .val (.int p2), .val (.int p3), .val (.int p4), .val (.long q5), .second, .val (.int p6), .val (.int (3 : Int32)), .val (.int sp), .val (.int lo), .val (.int hi), .val (.int mid), .val (.double s0), .second, .val (.double s1), .second, .val (.double v109_11), .second, .val (.ref b51), .val (.ref r_60), .val (.ref e1_60), .val (.ref d1_60), .val (.int (1 : Int32))] []))
          refine go (fun _ k => XS.aload X64.here hx rfl (hb hby at_223) rfl rfl  k) ?_
          show Go p e below _ (T64.setTop (mkF m 225 #[.val (.int p1), .val (.int p2), .val (.int p3), .val (.int p4), .val (.long q5), .second, .val (.int p6), .val (.int (3 : Int32)), .val (.int sp), .val (.int lo), .val (.int hi), .val (.int mid), .val (.double s0), .second, .val (.double s1), .second, .val (.double v109_11), .second, .val (.ref b51), .val (.ref r_60), .val (.ref e1_60), .val (.ref d1_60), .val (.int (1 : Int32))] [(.ref e1_60)]))
          refine go (fun _ k => XS.iconst X64.here hx rfl (hb hby at_225) k) ?_
          show Go p e below _ (T64.setTop (mkF m 226 #[.val (.int p1), .val (.int p2), .val (.int p3), .val (.int p4), .val (.long q5), .second, .val (.int p6), .val (.int (3 : Int32)), .val (.int sp), .val (.int lo), .val (.int hi), .val (.int mid), .val (.double s0), .second, .val (.double s1), .second, .val (.double v109_11), .second, .val (.ref b51), .val (.ref r_60), .val (.ref e1_60), .val (.ref d1_60), .val (.int (1 : Int32))] [(.int (0 : Int32)), (.ref e1_60)]))
          obtain ⟨cl67, Ar67, q67, S67, M67, H67, G67⟩ := id r60_5
          have hin67 : ¬ ((0 : Int32) < 0 ∨ cl67.slots.size ≤ ((0 : Int32)).toNatClampNeg) := inb_of S67 ⟨by decide, by decide⟩
          have hat67 : cl67.slots[((0 : Int32)).toNatClampNeg]? = some (.int lo) := Has.at H67 hin67 rfl
          refine go (X64.iaload hx (j := (0 : Int32)) (v := (.int lo)) (by rw [e64]; exact Ar67.1) (State.isArrayOf_alike hZ.alike Ar67.2.1) Ar67.2.2 hin67 hat67 (g := (mkF m 226 #[.val (.int p1), .val (.int p2), .val (.int p3), .val (.int p4), .val (.long q5), .second, .val (.int p6), .val (.int (3 : Int32)), .val (.int sp), .val (.int lo), .val (.int hi), .val (.int mid), .val (.double s0), .second, .val (.double s1), .second, .val (.double v109_11), .second, .val (.ref b51), .val (.ref r_60), .val (.ref e1_60), .val (.ref d1_60), .val (.int (1 : Int32))] [(.int (0 : Int32)), (.ref e1_60)])) rfl rfl (hb hby at_226)) ?_
          show Go p e below _ (T64.setTop (mkF m 227 #[.val (.int p1), .val (.int p2), .val (.int p3), .val (.int p4), .val (.long q5), .second, .val (.int p6), .val (.int (3 : Int32)), .val (.int sp), .val (.int lo), .val (.int hi), .val (.int mid), .val (.double s0), .second, .val (.double s1), .second, .val (.double v109_11), .second, .val (.ref b51), .val (.ref r_60), .val (.ref e1_60), .val (.ref d1_60), .val (.int (1 : Int32))] [(.int lo)]))
          refine go (fun _ k => XS.iload X64.here hx rfl (hb hby at_227) rfl  k) ?_
          show Go p e below _ (T64.setTop (mkF m 229 #[.val (.int p1), .val (.int p2), .val (.int p3), .val (.int p4), .val (.long q5), .second, .val (.int p6), .val (.int (3 : Int32)), .val (.int sp), .val (.int lo), .val (.int hi), .val (.int mid), .val (.double s0), .second, .val (.double s1), .second, .val (.double v109_11), .second, .val (.ref b51), .val (.ref r_60), .val (.ref e1_60), .val (.ref d1_60), .val (.int (1 : Int32))] [(.int lo), (.int lo)]))
          refine go (fun _ k => XS.icmpNo X64.here hx rfl (hb hby at_229) rfl (teq rfl).2 k) ?_
          show Go p e below _ (T64.setTop (mkF m 232 #[.val (.int p1), .val (.int p2), .val (.int p3), .val (.int p4), .val (.long q5), .second, .val (.int p6), .val (.int (3 : Int32)), .val (.int sp), .val (.int lo), .val (.int hi), .val (.int mid), .val (.double s0), .second, .val (.double s1), .second, .val (.double v109_11), .second, .val (.ref b51), .val (.ref r_60), .val (.ref e1_60), .val (.ref d1_60), .val (.int (1 : Int32))] []))
          refine go (fun _ k => XS.aload X64.here hx rfl (hb hby at_232) rfl rfl  k) ?_
          show Go p e below _ (T64.setTop (mkF m 234 #[.val (.int p1), .val (.int p2), .val (.int p3), .val (.int p4), .val (.long q5), .second, .val (.int p6), .val (.int (3 : Int32)), .val (.int sp), .val (.int lo), .val (.int hi), .val (.int mid), .val (.double s0), .second, .val (.double s1), .second, .val (.double v109_11), .second, .val (.ref b51), .val (.ref r_60), .val (.ref e1_60), .val (.ref d1_60), .val (.int (1 : Int32))] [(.ref d1_60)]))
          refine go (fun _ k => XS.iconst X64.here hx rfl (hb hby at_234) k) ?_
          show Go p e below _ (T64.setTop (mkF m 235 #[.val (.int p1), .val (.int p2), .val (.int p3), .val (.int p4), .val (.long q5), .second, .val (.int p6), .val (.int (3 : Int32)), .val (.int sp), .val (.int lo), .val (.int hi), .val (.int mid), .val (.double s0), .second, .val (.double s1), .second, .val (.double v109_11), .second, .val (.ref b51), .val (.ref r_60), .val (.ref e1_60), .val (.ref d1_60), .val (.int (1 : Int32))] [(.int (0 : Int32)), (.ref d1_60)]))
          obtain ⟨cl68, Ar68, q68, S68, M68, H68, G68⟩ := id r60_6
          have hin68 : ¬ ((0 : Int32) < 0 ∨ cl68.slots.size ≤ ((0 : Int32)).toNatClampNeg) := inb_of S68 ⟨by decide, by decide⟩
          have hat68 : cl68.slots[((0 : Int32)).toNatClampNeg]? = some (.double s0) := Has.at H68 hin68 rfl
          refine go (X64.daload hx (j := (0 : Int32)) (v := (.double s0)) (by rw [e64]; exact Ar68.1) (State.isArrayOf_alike hZ.alike Ar68.2.1) Ar68.2.2 hin68 hat68 (g := (mkF m 235 #[.val (.int p1), .val (.int p2), .val (.int p3), .val (.int p4), .val (.long q5), .second, .val (.int p6), .val (.int (3 : Int32)), .val (.int sp), .val (.int lo), .val (.int hi), .val (.int mid), .val (.double s0), .second, .val (.double s1), .second, .val (.double v109_11), .second, .val (.ref b51), .val (.ref r_60), .val (.ref e1_60), .val (.ref d1_60), .val (.int (1 : Int32))] [(.int (0 : Int32)), (.ref d1_60)])) rfl rfl (hb hby at_235)) ?_
          show Go p e below _ (T64.setTop (mkF m 236 #[.val (.int p1), .val (.int p2), .val (.int p3), .val (.int p4), .val (.long q5), .second, .val (.int p6), .val (.int (3 : Int32)), .val (.int sp), .val (.int lo), .val (.int hi), .val (.int mid), .val (.double s0), .second, .val (.double s1), .second, .val (.double v109_11), .second, .val (.ref b51), .val (.ref r_60), .val (.ref e1_60), .val (.ref d1_60), .val (.int (1 : Int32))] [(.double s0)]))
          refine go (fun _ k => XS.dload X64.here hx rfl (hb hby at_236) rfl  k) ?_
          show Go p e below _ (T64.setTop (mkF m 238 #[.val (.int p1), .val (.int p2), .val (.int p3), .val (.int p4), .val (.long q5), .second, .val (.int p6), .val (.int (3 : Int32)), .val (.int sp), .val (.int lo), .val (.int hi), .val (.int mid), .val (.double s0), .second, .val (.double s1), .second, .val (.double v109_11), .second, .val (.ref b51), .val (.ref r_60), .val (.ref e1_60), .val (.ref d1_60), .val (.int (1 : Int32))] [(.double s0), (.double s0)]))
          refine go (fun _ k => XS.dcmpS X64.here hx rfl (hb hby at_238) rfl (dcmpV_self nn0 .l) k) ?_
          show Go p e below _ (T64.setTop (mkF m 239 #[.val (.int p1), .val (.int p2), .val (.int p3), .val (.int p4), .val (.long q5), .second, .val (.int p6), .val (.int (3 : Int32)), .val (.int sp), .val (.int lo), .val (.int hi), .val (.int mid), .val (.double s0), .second, .val (.double s1), .second, .val (.double v109_11), .second, .val (.ref b51), .val (.ref r_60), .val (.ref e1_60), .val (.ref d1_60), .val (.int (1 : Int32))] [(.int (0 : Int32))]))
          refine go (fun _ k => XS.ifNo X64.here hx rfl (hb hby at_239) rfl ((if0 _ _).trans (teq (by decide : (0 : Int32) = (0 : Int32))).2) k) ?_
          show Go p e below _ (T64.setTop (mkF m 242 #[.val (.int p1), .val (.int p2), .val (.int p3), .val (.int p4), .val (.long q5), .second, .val (.int p6), .val (.int (3 : Int32)), .val (.int sp), .val (.int lo), .val (.int hi), .val (.int mid), .val (.double s0), .second, .val (.double s1), .second, .val (.double v109_11), .second, .val (.ref b51), .val (.ref r_60), .val (.ref e1_60), .val (.ref d1_60), .val (.int (1 : Int32))] []))
          refine go (fun _ k => XS.iconst X64.here hx rfl (hb hby at_242) k) ?_
          show Go p e below _ (T64.setTop (mkF m 243 #[.val (.int p1), .val (.int p2), .val (.int p3), .val (.int p4), .val (.long q5), .second, .val (.int p6), .val (.int (3 : Int32)), .val (.int sp), .val (.int lo), .val (.int hi), .val (.int mid), .val (.double s0), .second, .val (.double s1), .second, .val (.double v109_11), .second, .val (.ref b51), .val (.ref r_60), .val (.ref e1_60), .val (.ref d1_60), .val (.int (1 : Int32))] [(.int (1 : Int32))]))
          refine go (fun _ k => XS.goto X64.here hx rfl (pc0 := 243) (pc' := 247) rfl (hb hby at_243) (by decide) (by decide) k) ?_
          show Go p e below _ (T64.setTop (mkF m 247 #[.val (.int p1), .val (.int p2), .val (.int p3), .val (.int p4), .val (.long q5), .second, .val (.int p6), .val (.int (3 : Int32)), .val (.int sp), .val (.int lo), .val (.int hi), .val (.int mid), .val (.double s0), .second, .val (.double s1), .second, .val (.double v109_11), .second, .val (.ref b51), .val (.ref r_60), .val (.ref e1_60), .val (.ref d1_60), .val (.int (1 : Int32))] [(.int (1 : Int32))]))
          refine go (fun _ k => XS.istore X64.here hx rfl (hb hby at_247) rfl (l' := #[.val (.int p1), .val (.int p2), .val (.int p3), .val (.int p4), .val (.long q5), .second, .val (.int p6), .val (.int (3 : Int32)), .val (.int sp), .val (.int lo), .val (.int hi), .val (.int mid), .val (.double s0), .second, .val (.double s1), .second, .val (.double v109_11), .second, .val (.ref b51), .val (.ref r_60), .val (.ref e1_60), .val (.ref d1_60), .val (.int (1 : Int32))]) rfl k) ?_
          show Go p e below _ (T64.setTop (mkF m 249 #[.val (.int p1), .val (.int p2), .val (.int p3), .val (.int p4), .val (.long q5), .second, .val (.int p6), .val (.int (3 : Int32)), .val (.int sp), .val (.int lo), .val (.int hi), .val (.int mid), .val (.double s0), .second, .val (.double s1), .second, .val (.double v109_11), .second, .val (.ref b51), .val (.ref r_60), .val (.ref e1_60), .val (.ref d1_60), .val (.int (1 : Int32))] []))
          refine go (fun _ k => XS.iload X64.here hx rfl (hb hby at_249) rfl  k) ?_
          show Go p e below _ (T64.setTop (mkF m 251 #[.val (.int p1), .val (.int p2), .val (.int p3), .val (.int p4), .val (.long q5), .second, .val (.int p6), .val (.int (3 : Int32)), .val (.int sp), .val (.int lo), .val (.int hi), .val (.int mid), .val (.double s0), .second, .val (.double s1), .second, .val (.double v109_11), .second, .val (.ref b51), .val (.ref r_60), .val (.ref e1_60), .val (.ref d1_60), .val (.int (1 : Int32))] [(.int (3 : Int32))]))
          refine go (fun _ k => XS.iconst X64.here hx rfl (hb hby at_251) k) ?_
          show Go p e below _ (T64.setTop (mkF m 252 #[.val (.int p1), .val (.int p2), .val (.int p3), .val (.int p4), .val (.long q5), .second, .val (.int p6), .val (.int (3 : Int32)), .val (.int sp), .val (.int lo), .val (.int hi), .val (.int mid), .val (.double s0), .second, .val (.double s1), .second, .val (.double v109_11), .second, .val (.ref b51), .val (.ref r_60), .val (.ref e1_60), .val (.ref d1_60), .val (.int (1 : Int32))] [(.int (2 : Int32)), (.int (3 : Int32))]))
          refine go (fun _ k => XS.icmpNo X64.here hx rfl (hb hby at_252) rfl (flt (by decide : ¬ ((3 : Int32) < (2 : Int32)))).1 k) ?_
          show Go p e below _ (T64.setTop (mkF m 255 #[.val (.int p1), .val (.int p2), .val (.int p3), .val (.int p4), .val (.long q5), .second, .val (.int p6), .val (.int (3 : Int32)), .val (.int sp), .val (.int lo), .val (.int hi), .val (.int mid), .val (.double s0), .second, .val (.double s1), .second, .val (.double v109_11), .second, .val (.ref b51), .val (.ref r_60), .val (.ref e1_60), .val (.ref d1_60), .val (.int (1 : Int32))] []))
          refine go (fun _ k => XS.iload X64.here hx rfl (hb hby at_255) rfl  k) ?_
          show Go p e below _ (T64.setTop (mkF m 257 #[.val (.int p1), .val (.int p2), .val (.int p3), .val (.int p4), .val (.long q5), .second, .val (.int p6), .val (.int (3 : Int32)), .val (.int sp), .val (.int lo), .val (.int hi), .val (.int mid), .val (.double s0), .second, .val (.double s1), .second, .val (.double v109_11), .second, .val (.ref b51), .val (.ref r_60), .val (.ref e1_60), .val (.ref d1_60), .val (.int (1 : Int32))] [(.int (1 : Int32))]))
          refine go (fun _ k => XS.ifNo X64.here hx rfl (hb hby at_257) rfl ((if0 _ _).trans (feq (by decide : ¬ ((1 : Int32) = (0 : Int32)))).1) k) ?_
          show Go p e below _ (T64.setTop (mkF m 260 #[.val (.int p1), .val (.int p2), .val (.int p3), .val (.int p4), .val (.long q5), .second, .val (.int p6), .val (.int (3 : Int32)), .val (.int sp), .val (.int lo), .val (.int hi), .val (.int mid), .val (.double s0), .second, .val (.double s1), .second, .val (.double v109_11), .second, .val (.ref b51), .val (.ref r_60), .val (.ref e1_60), .val (.ref d1_60), .val (.int (1 : Int32))] []))
          refine go (fun _ k => XS.aload X64.here hx rfl (hb hby at_260) rfl rfl  k) ?_
          show Go p e below _ (T64.setTop (mkF m 262 #[.val (.int p1), .val (.int p2), .val (.int p3), .val (.int p4), .val (.long q5), .second, .val (.int p6), .val (.int (3 : Int32)), .val (.int sp), .val (.int lo), .val (.int hi), .val (.int mid), .val (.double s0), .second, .val (.double s1), .second, .val (.double v109_11), .second, .val (.ref b51), .val (.ref r_60), .val (.ref e1_60), .val (.ref d1_60), .val (.int (1 : Int32))] [(.ref e1_60)]))
          refine go (fun _ k => XS.iconst X64.here hx rfl (hb hby at_262) k) ?_
          show Go p e below _ (T64.setTop (mkF m 263 #[.val (.int p1), .val (.int p2), .val (.int p3), .val (.int p4), .val (.long q5), .second, .val (.int p6), .val (.int (3 : Int32)), .val (.int sp), .val (.int lo), .val (.int hi), .val (.int mid), .val (.double s0), .second, .val (.double s1), .second, .val (.double v109_11), .second, .val (.ref b51), .val (.ref r_60), .val (.ref e1_60), .val (.ref d1_60), .val (.int (1 : Int32))] [(.int (1 : Int32)), (.ref e1_60)]))
          obtain ⟨cl69, Ar69, q69, S69, M69, H69, G69⟩ := id r60_5
          have hin69 : ¬ ((1 : Int32) < 0 ∨ cl69.slots.size ≤ ((1 : Int32)).toNatClampNeg) := inb_of S69 ⟨by decide, by decide⟩
          have hat69 : cl69.slots[((1 : Int32)).toNatClampNeg]? = some (.int mid) := Has.at H69 hin69 rfl
          refine go (X64.iaload hx (j := (1 : Int32)) (v := (.int mid)) (by rw [e64]; exact Ar69.1) (State.isArrayOf_alike hZ.alike Ar69.2.1) Ar69.2.2 hin69 hat69 (g := (mkF m 263 #[.val (.int p1), .val (.int p2), .val (.int p3), .val (.int p4), .val (.long q5), .second, .val (.int p6), .val (.int (3 : Int32)), .val (.int sp), .val (.int lo), .val (.int hi), .val (.int mid), .val (.double s0), .second, .val (.double s1), .second, .val (.double v109_11), .second, .val (.ref b51), .val (.ref r_60), .val (.ref e1_60), .val (.ref d1_60), .val (.int (1 : Int32))] [(.int (1 : Int32)), (.ref e1_60)])) rfl rfl (hb hby at_263)) ?_
          show Go p e below _ (T64.setTop (mkF m 264 #[.val (.int p1), .val (.int p2), .val (.int p3), .val (.int p4), .val (.long q5), .second, .val (.int p6), .val (.int (3 : Int32)), .val (.int sp), .val (.int lo), .val (.int hi), .val (.int mid), .val (.double s0), .second, .val (.double s1), .second, .val (.double v109_11), .second, .val (.ref b51), .val (.ref r_60), .val (.ref e1_60), .val (.ref d1_60), .val (.int (1 : Int32))] [(.int mid)]))
          refine go (fun _ k => XS.iload X64.here hx rfl (hb hby at_264) rfl  k) ?_
          show Go p e below _ (T64.setTop (mkF m 266 #[.val (.int p1), .val (.int p2), .val (.int p3), .val (.int p4), .val (.long q5), .second, .val (.int p6), .val (.int (3 : Int32)), .val (.int sp), .val (.int lo), .val (.int hi), .val (.int mid), .val (.double s0), .second, .val (.double s1), .second, .val (.double v109_11), .second, .val (.ref b51), .val (.ref r_60), .val (.ref e1_60), .val (.ref d1_60), .val (.int (1 : Int32))] [(.int mid), (.int mid)]))
          refine go (fun _ k => XS.icmpNo X64.here hx rfl (hb hby at_266) rfl (teq rfl).2 k) ?_
          show Go p e below _ (T64.setTop (mkF m 269 #[.val (.int p1), .val (.int p2), .val (.int p3), .val (.int p4), .val (.long q5), .second, .val (.int p6), .val (.int (3 : Int32)), .val (.int sp), .val (.int lo), .val (.int hi), .val (.int mid), .val (.double s0), .second, .val (.double s1), .second, .val (.double v109_11), .second, .val (.ref b51), .val (.ref r_60), .val (.ref e1_60), .val (.ref d1_60), .val (.int (1 : Int32))] []))
          refine go (fun _ k => XS.aload X64.here hx rfl (hb hby at_269) rfl rfl  k) ?_
          show Go p e below _ (T64.setTop (mkF m 271 #[.val (.int p1), .val (.int p2), .val (.int p3), .val (.int p4), .val (.long q5), .second, .val (.int p6), .val (.int (3 : Int32)), .val (.int sp), .val (.int lo), .val (.int hi), .val (.int mid), .val (.double s0), .second, .val (.double s1), .second, .val (.double v109_11), .second, .val (.ref b51), .val (.ref r_60), .val (.ref e1_60), .val (.ref d1_60), .val (.int (1 : Int32))] [(.ref d1_60)]))
          refine go (fun _ k => XS.iconst X64.here hx rfl (hb hby at_271) k) ?_
          show Go p e below _ (T64.setTop (mkF m 272 #[.val (.int p1), .val (.int p2), .val (.int p3), .val (.int p4), .val (.long q5), .second, .val (.int p6), .val (.int (3 : Int32)), .val (.int sp), .val (.int lo), .val (.int hi), .val (.int mid), .val (.double s0), .second, .val (.double s1), .second, .val (.double v109_11), .second, .val (.ref b51), .val (.ref r_60), .val (.ref e1_60), .val (.ref d1_60), .val (.int (1 : Int32))] [(.int (1 : Int32)), (.ref d1_60)]))
          obtain ⟨cl70, Ar70, q70, S70, M70, H70, G70⟩ := id r60_6
          have hin70 : ¬ ((1 : Int32) < 0 ∨ cl70.slots.size ≤ ((1 : Int32)).toNatClampNeg) := inb_of S70 ⟨by decide, by decide⟩
          have hat70 : cl70.slots[((1 : Int32)).toNatClampNeg]? = some (.double s1) := Has.at H70 hin70 rfl
          refine go (X64.daload hx (j := (1 : Int32)) (v := (.double s1)) (by rw [e64]; exact Ar70.1) (State.isArrayOf_alike hZ.alike Ar70.2.1) Ar70.2.2 hin70 hat70 (g := (mkF m 272 #[.val (.int p1), .val (.int p2), .val (.int p3), .val (.int p4), .val (.long q5), .second, .val (.int p6), .val (.int (3 : Int32)), .val (.int sp), .val (.int lo), .val (.int hi), .val (.int mid), .val (.double s0), .second, .val (.double s1), .second, .val (.double v109_11), .second, .val (.ref b51), .val (.ref r_60), .val (.ref e1_60), .val (.ref d1_60), .val (.int (1 : Int32))] [(.int (1 : Int32)), (.ref d1_60)])) rfl rfl (hb hby at_272)) ?_
          show Go p e below _ (T64.setTop (mkF m 273 #[.val (.int p1), .val (.int p2), .val (.int p3), .val (.int p4), .val (.long q5), .second, .val (.int p6), .val (.int (3 : Int32)), .val (.int sp), .val (.int lo), .val (.int hi), .val (.int mid), .val (.double s0), .second, .val (.double s1), .second, .val (.double v109_11), .second, .val (.ref b51), .val (.ref r_60), .val (.ref e1_60), .val (.ref d1_60), .val (.int (1 : Int32))] [(.double s1)]))
          refine go (fun _ k => XS.dload X64.here hx rfl (hb hby at_273) rfl  k) ?_
          show Go p e below _ (T64.setTop (mkF m 275 #[.val (.int p1), .val (.int p2), .val (.int p3), .val (.int p4), .val (.long q5), .second, .val (.int p6), .val (.int (3 : Int32)), .val (.int sp), .val (.int lo), .val (.int hi), .val (.int mid), .val (.double s0), .second, .val (.double s1), .second, .val (.double v109_11), .second, .val (.ref b51), .val (.ref r_60), .val (.ref e1_60), .val (.ref d1_60), .val (.int (1 : Int32))] [(.double s1), (.double s1)]))
          refine go (fun _ k => XS.dcmpS X64.here hx rfl (hb hby at_275) rfl (dcmpV_self nn1 .l) k) ?_
          show Go p e below _ (T64.setTop (mkF m 276 #[.val (.int p1), .val (.int p2), .val (.int p3), .val (.int p4), .val (.long q5), .second, .val (.int p6), .val (.int (3 : Int32)), .val (.int sp), .val (.int lo), .val (.int hi), .val (.int mid), .val (.double s0), .second, .val (.double s1), .second, .val (.double v109_11), .second, .val (.ref b51), .val (.ref r_60), .val (.ref e1_60), .val (.ref d1_60), .val (.int (1 : Int32))] [(.int (0 : Int32))]))
          refine go (fun _ k => XS.ifNo X64.here hx rfl (hb hby at_276) rfl ((if0 _ _).trans (teq (by decide : (0 : Int32) = (0 : Int32))).2) k) ?_
          show Go p e below _ (T64.setTop (mkF m 279 #[.val (.int p1), .val (.int p2), .val (.int p3), .val (.int p4), .val (.long q5), .second, .val (.int p6), .val (.int (3 : Int32)), .val (.int sp), .val (.int lo), .val (.int hi), .val (.int mid), .val (.double s0), .second, .val (.double s1), .second, .val (.double v109_11), .second, .val (.ref b51), .val (.ref r_60), .val (.ref e1_60), .val (.ref d1_60), .val (.int (1 : Int32))] []))
          refine go (fun _ k => XS.iconst X64.here hx rfl (hb hby at_279) k) ?_
          show Go p e below _ (T64.setTop (mkF m 280 #[.val (.int p1), .val (.int p2), .val (.int p3), .val (.int p4), .val (.long q5), .second, .val (.int p6), .val (.int (3 : Int32)), .val (.int sp), .val (.int lo), .val (.int hi), .val (.int mid), .val (.double s0), .second, .val (.double s1), .second, .val (.double v109_11), .second, .val (.ref b51), .val (.ref r_60), .val (.ref e1_60), .val (.ref d1_60), .val (.int (1 : Int32))] [(.int (1 : Int32))]))
          refine go (fun _ k => XS.goto X64.here hx rfl (pc0 := 280) (pc' := 284) rfl (hb hby at_280) (by decide) (by decide) k) ?_
          show Go p e below _ (T64.setTop (mkF m 284 #[.val (.int p1), .val (.int p2), .val (.int p3), .val (.int p4), .val (.long q5), .second, .val (.int p6), .val (.int (3 : Int32)), .val (.int sp), .val (.int lo), .val (.int hi), .val (.int mid), .val (.double s0), .second, .val (.double s1), .second, .val (.double v109_11), .second, .val (.ref b51), .val (.ref r_60), .val (.ref e1_60), .val (.ref d1_60), .val (.int (1 : Int32))] [(.int (1 : Int32))]))
          refine go (fun _ k => XS.istore X64.here hx rfl (hb hby at_284) rfl (l' := #[.val (.int p1), .val (.int p2), .val (.int p3), .val (.int p4), .val (.long q5), .second, .val (.int p6), .val (.int (3 : Int32)), .val (.int sp), .val (.int lo), .val (.int hi), .val (.int mid), .val (.double s0), .second, .val (.double s1), .second, .val (.double v109_11), .second, .val (.ref b51), .val (.ref r_60), .val (.ref e1_60), .val (.ref d1_60), .val (.int (1 : Int32))]) rfl k) ?_
          show Go p e below _ (T64.setTop (mkF m 286 #[.val (.int p1), .val (.int p2), .val (.int p3), .val (.int p4), .val (.long q5), .second, .val (.int p6), .val (.int (3 : Int32)), .val (.int sp), .val (.int lo), .val (.int hi), .val (.int mid), .val (.double s0), .second, .val (.double s1), .second, .val (.double v109_11), .second, .val (.ref b51), .val (.ref r_60), .val (.ref e1_60), .val (.ref d1_60), .val (.int (1 : Int32))] []))
          refine go (fun _ k => XS.iload X64.here hx rfl (hb hby at_286) rfl  k) ?_
          show Go p e below _ (T64.setTop (mkF m 288 #[.val (.int p1), .val (.int p2), .val (.int p3), .val (.int p4), .val (.long q5), .second, .val (.int p6), .val (.int (3 : Int32)), .val (.int sp), .val (.int lo), .val (.int hi), .val (.int mid), .val (.double s0), .second, .val (.double s1), .second, .val (.double v109_11), .second, .val (.ref b51), .val (.ref r_60), .val (.ref e1_60), .val (.ref d1_60), .val (.int (1 : Int32))] [(.int (3 : Int32))]))
          refine go (fun _ k => XS.iconst X64.here hx rfl (hb hby at_288) k) ?_
          show Go p e below _ (T64.setTop (mkF m 289 #[.val (.int p1), .val (.int p2), .val (.int p3), .val (.int p4), .val (.long q5), .second, .val (.int p6), .val (.int (3 : Int32)), .val (.int sp), .val (.int lo), .val (.int hi), .val (.int mid), .val (.double s0), .second, .val (.double s1), .second, .val (.double v109_11), .second, .val (.ref b51), .val (.ref r_60), .val (.ref e1_60), .val (.ref d1_60), .val (.int (1 : Int32))] [(.int (3 : Int32)), (.int (3 : Int32))]))
          refine go (fun _ k => XS.icmpNo X64.here hx rfl (hb hby at_289) rfl (flt (by decide : ¬ ((3 : Int32) < (3 : Int32)))).1 k) ?_
          show Go p e below _ (T64.setTop (mkF m 292 #[.val (.int p1), .val (.int p2), .val (.int p3), .val (.int p4), .val (.long q5), .second, .val (.int p6), .val (.int (3 : Int32)), .val (.int sp), .val (.int lo), .val (.int hi), .val (.int mid), .val (.double s0), .second, .val (.double s1), .second, .val (.double v109_11), .second, .val (.ref b51), .val (.ref r_60), .val (.ref e1_60), .val (.ref d1_60), .val (.int (1 : Int32))] []))
          refine go (fun _ k => XS.iload X64.here hx rfl (hb hby at_292) rfl  k) ?_
          show Go p e below _ (T64.setTop (mkF m 294 #[.val (.int p1), .val (.int p2), .val (.int p3), .val (.int p4), .val (.long q5), .second, .val (.int p6), .val (.int (3 : Int32)), .val (.int sp), .val (.int lo), .val (.int hi), .val (.int mid), .val (.double s0), .second, .val (.double s1), .second, .val (.double v109_11), .second, .val (.ref b51), .val (.ref r_60), .val (.ref e1_60), .val (.ref d1_60), .val (.int (1 : Int32))] [(.int (1 : Int32))]))
          refine go (fun _ k => XS.ifNo X64.here hx rfl (hb hby at_294) rfl ((if0 _ _).trans (feq (by decide : ¬ ((1 : Int32) = (0 : Int32)))).1) k) ?_
          show Go p e below _ (T64.setTop (mkF m 297 #[.val (.int p1), .val (.int p2), .val (.int p3), .val (.int p4), .val (.long q5), .second, .val (.int p6), .val (.int (3 : Int32)), .val (.int sp), .val (.int lo), .val (.int hi), .val (.int mid), .val (.double s0), .second, .val (.double s1), .second, .val (.double v109_11), .second, .val (.ref b51), .val (.ref r_60), .val (.ref e1_60), .val (.ref d1_60), .val (.int (1 : Int32))] []))
          refine go (fun _ k => XS.aload X64.here hx rfl (hb hby at_297) rfl rfl  k) ?_
          show Go p e below _ (T64.setTop (mkF m 299 #[.val (.int p1), .val (.int p2), .val (.int p3), .val (.int p4), .val (.long q5), .second, .val (.int p6), .val (.int (3 : Int32)), .val (.int sp), .val (.int lo), .val (.int hi), .val (.int mid), .val (.double s0), .second, .val (.double s1), .second, .val (.double v109_11), .second, .val (.ref b51), .val (.ref r_60), .val (.ref e1_60), .val (.ref d1_60), .val (.int (1 : Int32))] [(.ref e1_60)]))
          refine go (fun _ k => XS.iconst X64.here hx rfl (hb hby at_299) k) ?_
          show Go p e below _ (T64.setTop (mkF m 300 #[.val (.int p1), .val (.int p2), .val (.int p3), .val (.int p4), .val (.long q5), .second, .val (.int p6), .val (.int (3 : Int32)), .val (.int sp), .val (.int lo), .val (.int hi), .val (.int mid), .val (.double s0), .second, .val (.double s1), .second, .val (.double v109_11), .second, .val (.ref b51), .val (.ref r_60), .val (.ref e1_60), .val (.ref d1_60), .val (.int (1 : Int32))] [(.int (2 : Int32)), (.ref e1_60)]))
          obtain ⟨cl71, Ar71, q71, S71, M71, H71, G71⟩ := id r60_5
          have hin71 : ¬ ((2 : Int32) < 0 ∨ cl71.slots.size ≤ ((2 : Int32)).toNatClampNeg) := inb_of S71 ⟨by decide, by decide⟩
          have hat71 : cl71.slots[((2 : Int32)).toNatClampNeg]? = some (.int hi) := Has.at H71 hin71 rfl
          refine go (X64.iaload hx (j := (2 : Int32)) (v := (.int hi)) (by rw [e64]; exact Ar71.1) (State.isArrayOf_alike hZ.alike Ar71.2.1) Ar71.2.2 hin71 hat71 (g := (mkF m 300 #[.val (.int p1), .val (.int p2), .val (.int p3), .val (.int p4), .val (.long q5), .second, .val (.int p6), .val (.int (3 : Int32)), .val (.int sp), .val (.int lo), .val (.int hi), .val (.int mid), .val (.double s0), .second, .val (.double s1), .second, .val (.double v109_11), .second, .val (.ref b51), .val (.ref r_60), .val (.ref e1_60), .val (.ref d1_60), .val (.int (1 : Int32))] [(.int (2 : Int32)), (.ref e1_60)])) rfl rfl (hb hby at_300)) ?_
          show Go p e below _ (T64.setTop (mkF m 301 #[.val (.int p1), .val (.int p2), .val (.int p3), .val (.int p4), .val (.long q5), .second, .val (.int p6), .val (.int (3 : Int32)), .val (.int sp), .val (.int lo), .val (.int hi), .val (.int mid), .val (.double s0), .second, .val (.double s1), .second, .val (.double v109_11), .second, .val (.ref b51), .val (.ref r_60), .val (.ref e1_60), .val (.ref d1_60), .val (.int (1 : Int32))] [(.int hi)]))
          refine go (fun _ k => XS.iload X64.here hx rfl (hb hby at_301) rfl  k) ?_
          show Go p e below _ (T64.setTop (mkF m 303 #[.val (.int p1), .val (.int p2), .val (.int p3), .val (.int p4), .val (.long q5), .second, .val (.int p6), .val (.int (3 : Int32)), .val (.int sp), .val (.int lo), .val (.int hi), .val (.int mid), .val (.double s0), .second, .val (.double s1), .second, .val (.double v109_11), .second, .val (.ref b51), .val (.ref r_60), .val (.ref e1_60), .val (.ref d1_60), .val (.int (1 : Int32))] [(.int hi), (.int hi)]))
          refine go (fun _ k => XS.icmpNo X64.here hx rfl (hb hby at_303) rfl (teq rfl).2 k) ?_
          show Go p e below _ (T64.setTop (mkF m 306 #[.val (.int p1), .val (.int p2), .val (.int p3), .val (.int p4), .val (.long q5), .second, .val (.int p6), .val (.int (3 : Int32)), .val (.int sp), .val (.int lo), .val (.int hi), .val (.int mid), .val (.double s0), .second, .val (.double s1), .second, .val (.double v109_11), .second, .val (.ref b51), .val (.ref r_60), .val (.ref e1_60), .val (.ref d1_60), .val (.int (1 : Int32))] []))
          refine go (fun _ k => XS.aload X64.here hx rfl (hb hby at_306) rfl rfl  k) ?_
          show Go p e below _ (T64.setTop (mkF m 308 #[.val (.int p1), .val (.int p2), .val (.int p3), .val (.int p4), .val (.long q5), .second, .val (.int p6), .val (.int (3 : Int32)), .val (.int sp), .val (.int lo), .val (.int hi), .val (.int mid), .val (.double s0), .second, .val (.double s1), .second, .val (.double v109_11), .second, .val (.ref b51), .val (.ref r_60), .val (.ref e1_60), .val (.ref d1_60), .val (.int (1 : Int32))] [(.ref d1_60)]))
          refine go (fun _ k => XS.iconst X64.here hx rfl (hb hby at_308) k) ?_
          show Go p e below _ (T64.setTop (mkF m 309 #[.val (.int p1), .val (.int p2), .val (.int p3), .val (.int p4), .val (.long q5), .second, .val (.int p6), .val (.int (3 : Int32)), .val (.int sp), .val (.int lo), .val (.int hi), .val (.int mid), .val (.double s0), .second, .val (.double s1), .second, .val (.double v109_11), .second, .val (.ref b51), .val (.ref r_60), .val (.ref e1_60), .val (.ref d1_60), .val (.int (1 : Int32))] [(.int (2 : Int32)), (.ref d1_60)]))
          obtain ⟨cl72, Ar72, q72, S72, M72, H72, G72⟩ := id r60_6
          have hin72 : ¬ ((2 : Int32) < 0 ∨ cl72.slots.size ≤ ((2 : Int32)).toNatClampNeg) := inb_of S72 ⟨by decide, by decide⟩
          have hat72 : cl72.slots[((2 : Int32)).toNatClampNeg]? = some (.double v109_11) := Has.at H72 hin72 rfl
          refine go (X64.daload hx (j := (2 : Int32)) (v := (.double v109_11)) (by rw [e64]; exact Ar72.1) (State.isArrayOf_alike hZ.alike Ar72.2.1) Ar72.2.2 hin72 hat72 (g := (mkF m 309 #[.val (.int p1), .val (.int p2), .val (.int p3), .val (.int p4), .val (.long q5), .second, .val (.int p6), .val (.int (3 : Int32)), .val (.int sp), .val (.int lo), .val (.int hi), .val (.int mid), .val (.double s0), .second, .val (.double s1), .second, .val (.double v109_11), .second, .val (.ref b51), .val (.ref r_60), .val (.ref e1_60), .val (.ref d1_60), .val (.int (1 : Int32))] [(.int (2 : Int32)), (.ref d1_60)])) rfl rfl (hb hby at_309)) ?_
          show Go p e below _ (T64.setTop (mkF m 310 #[.val (.int p1), .val (.int p2), .val (.int p3), .val (.int p4), .val (.long q5), .second, .val (.int p6), .val (.int (3 : Int32)), .val (.int sp), .val (.int lo), .val (.int hi), .val (.int mid), .val (.double s0), .second, .val (.double s1), .second, .val (.double v109_11), .second, .val (.ref b51), .val (.ref r_60), .val (.ref e1_60), .val (.ref d1_60), .val (.int (1 : Int32))] [(.double v109_11)]))
          refine go (fun _ k => XS.dload X64.here hx rfl (hb hby at_310) rfl  k) ?_
          show Go p e below _ (T64.setTop (mkF m 312 #[.val (.int p1), .val (.int p2), .val (.int p3), .val (.int p4), .val (.long q5), .second, .val (.int p6), .val (.int (3 : Int32)), .val (.int sp), .val (.int lo), .val (.int hi), .val (.int mid), .val (.double s0), .second, .val (.double s1), .second, .val (.double v109_11), .second, .val (.ref b51), .val (.ref r_60), .val (.ref e1_60), .val (.ref d1_60), .val (.int (1 : Int32))] [(.double v109_11), (.double v109_11)]))
          refine go (fun _ k => XS.dcmpS X64.here hx rfl (hb hby at_312) rfl (dcmpV_self nn2 .l) k) ?_
          show Go p e below _ (T64.setTop (mkF m 313 #[.val (.int p1), .val (.int p2), .val (.int p3), .val (.int p4), .val (.long q5), .second, .val (.int p6), .val (.int (3 : Int32)), .val (.int sp), .val (.int lo), .val (.int hi), .val (.int mid), .val (.double s0), .second, .val (.double s1), .second, .val (.double v109_11), .second, .val (.ref b51), .val (.ref r_60), .val (.ref e1_60), .val (.ref d1_60), .val (.int (1 : Int32))] [(.int (0 : Int32))]))
          refine go (fun _ k => XS.ifNo X64.here hx rfl (hb hby at_313) rfl ((if0 _ _).trans (teq (by decide : (0 : Int32) = (0 : Int32))).2) k) ?_
          show Go p e below _ (T64.setTop (mkF m 316 #[.val (.int p1), .val (.int p2), .val (.int p3), .val (.int p4), .val (.long q5), .second, .val (.int p6), .val (.int (3 : Int32)), .val (.int sp), .val (.int lo), .val (.int hi), .val (.int mid), .val (.double s0), .second, .val (.double s1), .second, .val (.double v109_11), .second, .val (.ref b51), .val (.ref r_60), .val (.ref e1_60), .val (.ref d1_60), .val (.int (1 : Int32))] []))
          refine go (fun _ k => XS.iconst X64.here hx rfl (hb hby at_316) k) ?_
          show Go p e below _ (T64.setTop (mkF m 317 #[.val (.int p1), .val (.int p2), .val (.int p3), .val (.int p4), .val (.long q5), .second, .val (.int p6), .val (.int (3 : Int32)), .val (.int sp), .val (.int lo), .val (.int hi), .val (.int mid), .val (.double s0), .second, .val (.double s1), .second, .val (.double v109_11), .second, .val (.ref b51), .val (.ref r_60), .val (.ref e1_60), .val (.ref d1_60), .val (.int (1 : Int32))] [(.int (1 : Int32))]))
          refine go (fun _ k => XS.goto X64.here hx rfl (pc0 := 317) (pc' := 321) rfl (hb hby at_317) (by decide) (by decide) k) ?_
          show Go p e below _ (T64.setTop (mkF m 321 #[.val (.int p1), .val (.int p2), .val (.int p3), .val (.int p4), .val (.long q5), .second, .val (.int p6), .val (.int (3 : Int32)), .val (.int sp), .val (.int lo), .val (.int hi), .val (.int mid), .val (.double s0), .second, .val (.double s1), .second, .val (.double v109_11), .second, .val (.ref b51), .val (.ref r_60), .val (.ref e1_60), .val (.ref d1_60), .val (.int (1 : Int32))] [(.int (1 : Int32))]))
          refine go (fun _ k => XS.istore X64.here hx rfl (hb hby at_321) rfl (l' := #[.val (.int p1), .val (.int p2), .val (.int p3), .val (.int p4), .val (.long q5), .second, .val (.int p6), .val (.int (3 : Int32)), .val (.int sp), .val (.int lo), .val (.int hi), .val (.int mid), .val (.double s0), .second, .val (.double s1), .second, .val (.double v109_11), .second, .val (.ref b51), .val (.ref r_60), .val (.ref e1_60), .val (.ref d1_60), .val (.int (1 : Int32))]) rfl k) ?_
          show Go p e below _ (T64.setTop (mkF m 323 #[.val (.int p1), .val (.int p2), .val (.int p3), .val (.int p4), .val (.long q5), .second, .val (.int p6), .val (.int (3 : Int32)), .val (.int sp), .val (.int lo), .val (.int hi), .val (.int mid), .val (.double s0), .second, .val (.double s1), .second, .val (.double v109_11), .second, .val (.ref b51), .val (.ref r_60), .val (.ref e1_60), .val (.ref d1_60), .val (.int (1 : Int32))] []))
          refine go (fun _ k => XS.iload X64.here hx rfl (hb hby at_323) rfl  k) ?_
          show Go p e below _ (T64.setTop (mkF m 325 #[.val (.int p1), .val (.int p2), .val (.int p3), .val (.int p4), .val (.long q5), .second, .val (.int p6), .val (.int (3 : Int32)), .val (.int sp), .val (.int lo), .val (.int hi), .val (.int mid), .val (.double s0), .second, .val (.double s1), .second, .val (.double v109_11), .second, .val (.ref b51), .val (.ref r_60), .val (.ref e1_60), .val (.ref d1_60), .val (.int (1 : Int32))] [(.int (1 : Int32))]))
          obtain ⟨fs, hr, hrun, hended, hW, hsame⟩ := X64.leave (v := some (.int (1 : Int32))) (fun h => by rw [Bd.returns] at h; cases h)
          refine leaf (T := T64) ⟨fs, retN X64 hx (t := .boolean) Bd.returns (by simp) (hb hby at_325) hr, hrun, hended, hW, hsame⟩ ?_ (by decide) (by decide)
          show Q0 Z p1 p2 p3 p4 q5 p6 h0 n0 _ T64.heap _
          rw [e64]
          exact ⟨rfl, N64⟩
        by_cases hc97_10 : (((p1.toUInt32 >>> ((3 : Int32) &&& 31).toUInt32).toInt32) &&& (1 : Int32)) = (0 : Int32)
        · skip
          refine go (fun _ k => XS.ifYes X4.here hx rfl (pc0 := 97) (pc' := 106) rfl (hb hby at_97) rfl ((if0 _ _).trans (teq hc97_10).1) (by decide) (by decide) k) ?_
          show Go p e below _ (T4.setTop (mkF m 106 #[.val (.int p1), .val (.int p2), .val (.int p3), .val (.int p4), .val (.long q5), .second, .val (.int p6), .val (.int (3 : Int32)), .val (.int sp), .val (.int lo), .val (.int hi), .val (.int mid), .val (.double s0), .second, .val (.double s1), .second, .unset, .unset, .unset, .unset, .unset, .unset, .unset] []))
          refine go (fun _ k => XS.iload X4.here hx rfl (hb hby at_106) rfl  k) ?_
          show Go p e below _ (T4.setTop (mkF m 108 #[.val (.int p1), .val (.int p2), .val (.int p3), .val (.int p4), .val (.long q5), .second, .val (.int p6), .val (.int (3 : Int32)), .val (.int sp), .val (.int lo), .val (.int hi), .val (.int mid), .val (.double s0), .second, .val (.double s1), .second, .unset, .unset, .unset, .unset, .unset, .unset, .unset] [(.int p6)]))
          refine go (fun _ k => XS.i2dS X4.here hx rfl (hb hby at_108) rfl rfl k) ?_
          show Go p e below _ (T4.setTop (mkF m 109 #[.val (.int p1), .val (.int p2), .val (.int p3), .val (.int p4), .val (.long q5), .second, .val (.int p6), .val (.int (3 : Int32)), .val (.int sp), .val (.int lo), .val (.int hi), .val (.int mid), .val (.double s0), .second, .val (.double s1), .second, .unset, .unset, .unset, .unset, .unset, .unset, .unset] [(.double (FP.i2d p6))]))
          exact J109_50 _ (by simp only [if_pos hc97_10, bz_t hc97_10, bz_f (fun q => q hc97_10 : ¬ ¬ ((((p1.toUInt32 >>> ((3 : Int32) &&& 31).toUInt32).toInt32) &&& (1 : Int32)) = (0 : Int32)))])
        · skip
          refine go (fun _ k => XS.ifNo X4.here hx rfl (hb hby at_97) rfl ((if0 _ _).trans (feq hc97_10).1) k) ?_
          show Go p e below _ (T4.setTop (mkF m 100 #[.val (.int p1), .val (.int p2), .val (.int p3), .val (.int p4), .val (.long q5), .second, .val (.int p6), .val (.int (3 : Int32)), .val (.int sp), .val (.int lo), .val (.int hi), .val (.int mid), .val (.double s0), .second, .val (.double s1), .second, .unset, .unset, .unset, .unset, .unset, .unset, .unset] []))
          refine go (X4.ldc2DoubleC hx hown (mvT hZ (hw _ (List.mem_of_getElem? (i := 72) rfl))) (g := (mkF m 100 #[.val (.int p1), .val (.int p2), .val (.int p3), .val (.int p4), .val (.long q5), .second, .val (.int p6), .val (.int (3 : Int32)), .val (.int sp), .val (.int lo), .val (.int hi), .val (.int mid), .val (.double s0), .second, .val (.double s1), .second, .unset, .unset, .unset, .unset, .unset, .unset, .unset] [])) rfl (hb hby at_100)) ?_
          show Go p e below _ (T4.setTop (mkF m 103 #[.val (.int p1), .val (.int p2), .val (.int p3), .val (.int p4), .val (.long q5), .second, .val (.int p6), .val (.int (3 : Int32)), .val (.int sp), .val (.int lo), .val (.int hi), .val (.int mid), .val (.double s0), .second, .val (.double s1), .second, .unset, .unset, .unset, .unset, .unset, .unset, .unset] [(.double (18442240474082181120 : UInt64))]))
          refine go (fun _ k => XS.goto X4.here hx rfl (pc0 := 103) (pc' := 109) rfl (hb hby at_103) (by decide) (by decide) k) ?_
          show Go p e below _ (T4.setTop (mkF m 109 #[.val (.int p1), .val (.int p2), .val (.int p3), .val (.int p4), .val (.long q5), .second, .val (.int p6), .val (.int (3 : Int32)), .val (.int sp), .val (.int lo), .val (.int hi), .val (.int mid), .val (.double s0), .second, .val (.double s1), .second, .unset, .unset, .unset, .unset, .unset, .unset, .unset] [(.double (18442240474082181120 : UInt64))]))
          exact J109_50 _ (by simp only [if_neg hc97_10, bz_f hc97_10, bz_t hc97_10])
set_option maxRecDepth 65536 in
set_option maxHeartbeats 40000000 in
theorem comes_1 {Post : Tables → Env → Array Value → State → Outcome → State → Prop} (hpost : ∀ tb e args s v u, (limb_1_1.after args s (.returned v) u = true ∧ limb_1_2.after args s (.returned v) u = true ∧ True) → FrameEnd s (.returned v) u (Jvm.fieldLocs frame_1_writes args s ++ Jvm.arrayLocs frame_1_arrays args s ++ Jvm.staticLocs frame_1_statics s) 24 128 → Post tb e args s (.returned v) u) :
    ArmFor flags0 classFile x code maxLocals ret World_1 tables_1 room_1 Calls_1 rest_1 Pre_1 Post := by
  intro l hfl _ _ p e ha hc hk s m args below hf hA hF happ hP
  obtain ⟨hcalls, hrest, hpre⟩ := hP
  obtain ⟨-, -, -, hnamed, -, -, -, hat⟩ := (Spec.applies_iff hf).mp happ
  obtain ⟨hg, hn⟩ := and_e (Cond.before_iff.mp (show (Jvm.Cond.and given_1 narrow_1).before args s = true from hpre))
  obtain ⟨hg1, hg2⟩ := and_e hg
  obtain ⟨hg3, hg4⟩ := and_e hg2
  obtain ⟨hg5, hg6⟩ := and_e hg4
  obtain ⟨hg7, hg8⟩ := and_e hg6
  obtain ⟨hg9, hg10⟩ := and_e hg8
  obtain ⟨hg11, hg12⟩ := and_e hg10
  obtain ⟨w0, w1, w2, w3, w4, w5, rfl⟩ : ∃ w0 w1 w2 w3 w4 w5 : Value, args = #[w0, w1, w2, w3, w4, w5] := by
    have hs : args.size = 6 := by simpa [Cond.value, given_1] using hg1
    obtain ⟨L⟩ := args
    match L, hs with
    | [w0, w1, w2, w3, w4, w5], _ => exact ⟨w0, w1, w2, w3, w4, w5, rfl⟩
  have hw := fun d (hd : d ∈ tables_1) => atoms_spec (ws := Jvm.Cond.code x code maxLocals ret :: tables_1) hat d (List.mem_cons_of_mem _ hd)
  have hfit : Fit s := fun {y c} hc i hi => by
    obtain ⟨ha, rfl⟩ := Array.getElem?_eq_some_iff.mp hc
    have q := List.all_eq_true.mp ((Array.all_eq_true_iff_forall_mem.mp hF) _ (Array.getElem_mem ha)) i (List.mem_range.mpr hi)
    simpa [Array.getElem?_eq_getElem hi] using q
  obtain ⟨i0, ei0⟩ := is_v hg3
  obtain rfl : w0 = (.int i0) := Option.some.inj ei0
  obtain ⟨i1, ei1⟩ := is_v hg5
  obtain rfl : w1 = (.int i1) := Option.some.inj ei1
  obtain ⟨i2, ei2⟩ := is_v hg7
  obtain rfl : w2 = (.int i2) := Option.some.inj ei2
  obtain ⟨i3, ei3⟩ := is_v hg9
  obtain rfl : w3 = (.int i3) := Option.some.inj ei3
  obtain ⟨i4, ei4⟩ := isL_v hg11
  obtain rfl : w4 = (.long i4) := Option.some.inj ei4
  obtain ⟨i5, ei5⟩ := is_v hg12
  obtain rfl : w5 = (.int i5) := Option.some.inj ei5
  obtain ⟨n, o, h1, h2, h3, _, L, rfl, ⟨rfl, N⟩, hq⟩ := rm0 l s _ hw tables_1 i0 i1 i2 i3 i4 i5 s.heap s.heap.size (Nat.le_refl _)  p e ha hc hk s m _ below hf ((Spec.applies_iff_loose hf).mp happ).1 ⟨rfl, State.Warmed39.refl s, rfl⟩ trivial
  refine ⟨n, _, h1, h2, h3, hpost _ _ _ _ _ _ ⟨Cond.after_iff.mpr rfl, Cond.after_iff.mpr (eq_i res_at (Term.int_eval (1)) rfl), trivial⟩ ⟨hq.1, hq.2.1, (hq.2.2.sift fun y hy => Or.inr (N y hy)).mono (by decide) (by decide)⟩⟩
theorem main_1_1 : Claimed_1_1 := comes_1 fun _ _ _ _ _ _ h hF => ⟨h.1, hF⟩
theorem main_1_2 : Claimed_1_2 := comes_1 fun _ _ _ _ _ _ h hF => ⟨h.2.1, hF⟩
end Jvm.Pilot.@@N@@
namespace Jvm.Pilot.@@N@@
open Jvm Jvm.ClassFile Sem Op Lib Jvm.Free Jvm.Stand Jvm.Pilot.@@N@@.Jvm.D
/-! MADE BY PROGRAM (witnessworld.py) out of the Statement's table words and the real class files: 15 classes; the members and pool entries that the words name. The judged class is class 1, her method 1. -/
namespace start1
open Jvm.ClassFile
def u (s : String) : CpInfo := .utf8 (stringToUtf16 s)
/-- a pool by its gaps: so many unusable entries, then the entry; so many at the end -/
def gap : Nat → List CpInfo → List CpInfo
  | 0, r => r
  | n + 1, r => .unusable :: gap n r
def poolList (es : List (Nat × CpInfo)) (last : Nat) : List CpInfo := es.foldr (fun e r => gap e.1 (e.2 :: r)) (gap last [])
def pool (es : List (Nat × CpInfo)) (last : Nat) : Array CpInfo := ⟨poolList es last⟩
def fileOf (pool : Array CpInfo) (this : Nat) (attrs : Array Attribute := #[]) (ms : Array MethodInfo := #[]) (fl : Nat := 33) (sup : Nat := 0) (ifs : Array Nat := #[]) (fds : Array FieldInfo := #[]) : ClassFile where
  minorVersion := 0
  majorVersion := 65
  constantPool := pool
  accessFlags := fl
  thisClass := this
  superClass := sup
  interfaces := ifs
  fields := fds
  methods := ms
  attributes := attrs
def plain (name : String) (sup : Option ClassId) : Class where
  name := name
  kind := .ordinary
  loader := none
  accessFlags := 33
  super := sup
  interfaces := #[]
  cf := none
  fields := #[]
  methods := #[]
  instanceTypes := #[]
  staticTypes := #[]
  resolved := #[]
  callSites := []
  init := .initialized
  statics := none
  mirror := none

def pool0 : Array CpInfo := pool [(5, u "<init>"), (0, u "()V"), (1, .class_ 10), (1, u "java/lang/Object"), (85, u "clone"), (0, u "()Ljava/lang/Object;")] 26

def k0c0 : Code := { maxStack := 0, maxLocals := 1, code := object_method_1_code, exceptionTable := #[], attributes := #[] }
def k0m0 : Method := { name := "<init>", desc := "()V", sig := { parameters := [], returnType := none }, accessFlags := 1, code := some k0c0 }
def k0m1 : Method := { name := "clone", desc := "()Ljava/lang/Object;", sig := { parameters := [], returnType := some (.object "java/lang/Object") }, accessFlags := 260, code := none }
/-- java/lang/Object -/
def k0 : Class := { plain "java/lang/Object" none with
  accessFlags := 33
  interfaces := #[]
  cf := some (fileOf pool0 8 #[] #[{ accessFlags := 1, nameIndex := 5, descriptorIndex := 6, attributes := #[] }, { accessFlags := 260, nameIndex := 96, descriptorIndex := 97, attributes := #[] }] 33 0 #[] #[])
  fields := #[]
  methods := #[k0m0, k0m1]
  instanceTypes := #[]
  staticTypes := #[]
  resolved := Array.replicate 124 none
  statics := none }

def pool1 : Array CpInfo := pool [(2, .class_ 4), (1, u "java/lang/Object"), (0, u "<init>"), (0, u "()V"), (0, .methodref 8 9), (0, .class_ 10), (0, .nameAndType 11 12), (0, u "java/lang/Math"), (0, u "min"), (0, u "(II)I"), (0, .methodref 8 14), (0, .nameAndType 15 12), (0, u "max"), (2, .double 18442240474082181120), (1, .class_ 21), (0, u "com/example/drienerlo/drienerlo/retrieval/Scored$Builder"), (0, .methodref 20 23), (0, .nameAndType 5 24), (0, u "(I)V"), (0, .methodref 20 26), (0, .nameAndType 27 28), (0, u "add"), (0, u "(ID)V"), (0, .methodref 20 30), (0, .nameAndType 31 32), (0, u "build"), (0, u "()Lcom/example/drienerlo/drienerlo/retrieval/Scored;"), (0, .methodref 34 35), (0, .class_ 36), (0, .nameAndType 37 38), (0, u "com/example/drienerlo/drienerlo/retrieval/Scored"), (0, u "elements"), (0, u "()[I"), (0, .methodref 34 40), (0, .nameAndType 41 42), (0, u "scores"), (0, u "()[D"), (0, .class_ 44), (0, u "com/example/drienerlo/drienerlo/retrieval/BuilderAddPinLaw"), (2, u "law"), (0, u "(IIIIJI)Z")] 9

def k1m0 : Method := { name := "<init>", desc := "()V", sig := { parameters := [], returnType := none }, accessFlags := 2, code := none }
def k1c1 : Code := { maxStack := 4, maxLocals := 23, code := code, exceptionTable := #[], attributes := #[] }
def k1m1 : Method := { name := "law", desc := "(IIIIJI)Z", sig := { parameters := [.int, .int, .int, .int, .long, .int], returnType := some .boolean }, accessFlags := 9, code := some k1c1 }
/-- com/example/drienerlo/drienerlo/retrieval/BuilderAddPinLaw -/
def k1 : Class := { plain "com/example/drienerlo/drienerlo/retrieval/BuilderAddPinLaw" (some 0) with
  accessFlags := 49
  interfaces := #[]
  cf := some (fileOf pool1 43 #[] #[{ accessFlags := 2, nameIndex := 5, descriptorIndex := 6, attributes := #[] }, { accessFlags := 9, nameIndex := 47, descriptorIndex := 48, attributes := #[] }] 49 2 #[] #[])
  fields := #[]
  methods := #[k1m0, k1m1]
  instanceTypes := #[]
  staticTypes := #[]
  resolved := Array.replicate 58 none
  statics := none }

def pool2 : Array CpInfo := pool [(1, .class_ 2), (0, u "java/lang/Math"), (1, .class_ 6), (1, u "java/lang/Object"), (0, u "<init>"), (0, u "()V"), (89, .class_ 100), (1, u "java/lang/Math$RandomNumberGeneratorHolder"), (71, u "negativeZeroFloatBits"), (0, u "J"), (2, u "negativeZeroDoubleBits"), (21, u "max"), (2, u "min"), (43, u "$assertionsDisabled"), (0, u "Z"), (88, u "(II)I"), (2, u "twoToTheDoubleScaleDown"), (0, u "D"), (4, u "twoToTheDoubleScaleUp"), (9, u "E"), (3, u "PI"), (2, u "TAU"), (2, u "DEGREES_TO_RADIANS"), (0, u "RADIANS_TO_DEGREES")] 94

def k2m0 : Method := { name := "<init>", desc := "()V", sig := { parameters := [], returnType := none }, accessFlags := 2, code := none }
def k2c1 : Code := { maxStack := 2, maxLocals := 2, code := jdk_29_method_65_code, exceptionTable := #[], attributes := #[] }
def k2m1 : Method := { name := "max", desc := "(II)I", sig := { parameters := [.int, .int], returnType := some .int }, accessFlags := 9, code := some k2c1 }
def k2c2 : Code := { maxStack := 2, maxLocals := 2, code := jdk_29_method_69_code, exceptionTable := #[], attributes := #[] }
def k2m2 : Method := { name := "min", desc := "(II)I", sig := { parameters := [.int, .int], returnType := some .int }, accessFlags := 9, code := some k2c2 }
/-- java/lang/Math -/
def k2 : Class := { plain "java/lang/Math" (some 0) with
  accessFlags := 49
  interfaces := #[]
  cf := some (fileOf pool2 1 #[.nestMembers #[98]] #[{ accessFlags := 2, nameIndex := 7, descriptorIndex := 8, attributes := #[] }, { accessFlags := 9, nameIndex := 198, descriptorIndex := 335, attributes := #[] }, { accessFlags := 9, nameIndex := 201, descriptorIndex := 335, attributes := #[] }] 49 4 #[] #[{ accessFlags := 25, nameIndex := 354, descriptorIndex := 339, attributes := #[] }, { accessFlags := 25, nameIndex := 358, descriptorIndex := 339, attributes := #[] }, { accessFlags := 25, nameIndex := 361, descriptorIndex := 339, attributes := #[] }, { accessFlags := 26, nameIndex := 364, descriptorIndex := 339, attributes := #[] }, { accessFlags := 26, nameIndex := 365, descriptorIndex := 339, attributes := #[] }, { accessFlags := 26, nameIndex := 172, descriptorIndex := 173, attributes := #[] }, { accessFlags := 26, nameIndex := 176, descriptorIndex := 173, attributes := #[] }, { accessFlags := 8, nameIndex := 344, descriptorIndex := 339, attributes := #[] }, { accessFlags := 8, nameIndex := 338, descriptorIndex := 339, attributes := #[] }, { accessFlags := 4120, nameIndex := 245, descriptorIndex := 246, attributes := #[] }])
  fields := #[{ name := "E", type := .double, accessFlags := 25, slot := 0, constantValue := 0 }, { name := "PI", type := .double, accessFlags := 25, slot := 1, constantValue := 0 }, { name := "TAU", type := .double, accessFlags := 25, slot := 2, constantValue := 0 }, { name := "DEGREES_TO_RADIANS", type := .double, accessFlags := 26, slot := 3, constantValue := 0 }, { name := "RADIANS_TO_DEGREES", type := .double, accessFlags := 26, slot := 4, constantValue := 0 }, { name := "negativeZeroFloatBits", type := .long, accessFlags := 26, slot := 5, constantValue := 0 }, { name := "negativeZeroDoubleBits", type := .long, accessFlags := 26, slot := 6, constantValue := 0 }, { name := "twoToTheDoubleScaleUp", type := .double, accessFlags := 8, slot := 7, constantValue := 0 }, { name := "twoToTheDoubleScaleDown", type := .double, accessFlags := 8, slot := 8, constantValue := 0 }, { name := "$assertionsDisabled", type := .boolean, accessFlags := 4120, slot := 9, constantValue := 0 }]
  methods := #[k2m0, k2m1, k2m2]
  instanceTypes := #[]
  staticTypes := #[.double, .double, .double, .double, .double, .long, .long, .double, .double, .boolean]
  resolved := Array.replicate 460 none
  statics := none }

def pool3 : Array CpInfo := pool [(1, .methodref 2 3), (0, .class_ 4), (0, .nameAndType 5 6), (0, u "java/lang/Object"), (0, u "<init>"), (0, u "()V"), (0, .fieldref 8 9), (0, .class_ 10), (0, .nameAndType 11 12), (0, u "com/example/drienerlo/drienerlo/retrieval/Scored$Builder"), (0, u "elements"), (0, u "[I"), (0, .fieldref 8 14), (0, .nameAndType 15 16), (0, u "scores"), (0, u "[D"), (0, .fieldref 8 18), (0, .nameAndType 19 20), (0, u "size"), (0, u "I"), (0, .class_ 22), (0, u "com/example/drienerlo/drienerlo/retrieval/Scored"), (0, .methodref 24 25), (0, .class_ 26), (0, .nameAndType 27 28), (0, u "java/util/Arrays"), (0, u "copyOf"), (0, u "([II)[I"), (0, .methodref 24 30), (0, .nameAndType 27 31), (0, u "([DI)[D"), (0, .methodref 21 33), (0, .nameAndType 5 34), (0, u "([I[D)V"), (0, u "(I)V"), (2, u "add"), (0, u "(ID)V"), (0, u "build"), (0, u "()Lcom/example/drienerlo/drienerlo/retrieval/Scored;")] 5

def k3c0 : Code := { maxStack := 2, maxLocals := 2, code := prog_60_method_1_code, exceptionTable := #[], attributes := #[] }
def k3m0 : Method := { name := "<init>", desc := "(I)V", sig := { parameters := [.int], returnType := none }, accessFlags := 0, code := some k3c0 }
def k3c1 : Code := { maxStack := 4, maxLocals := 4, code := prog_60_method_2_code, exceptionTable := #[], attributes := #[] }
def k3m1 : Method := { name := "add", desc := "(ID)V", sig := { parameters := [.int, .double], returnType := none }, accessFlags := 0, code := some k3c1 }
def k3c2 : Code := { maxStack := 5, maxLocals := 1, code := prog_60_method_3_code, exceptionTable := #[], attributes := #[] }
def k3m2 : Method := { name := "build", desc := "()Lcom/example/drienerlo/drienerlo/retrieval/Scored;", sig := { parameters := [], returnType := some (.object "com/example/drienerlo/drienerlo/retrieval/Scored") }, accessFlags := 0, code := some k3c2 }
/-- com/example/drienerlo/drienerlo/retrieval/Scored$Builder -/
def k3 : Class := { plain "com/example/drienerlo/drienerlo/retrieval/Scored$Builder" (some 0) with
  accessFlags := 32
  interfaces := #[]
  cf := some (fileOf pool3 8 #[.nestHost 21] #[{ accessFlags := 0, nameIndex := 5, descriptorIndex := 35, attributes := #[] }, { accessFlags := 0, nameIndex := 38, descriptorIndex := 39, attributes := #[] }, { accessFlags := 0, nameIndex := 40, descriptorIndex := 41, attributes := #[] }] 32 2 #[] #[{ accessFlags := 18, nameIndex := 11, descriptorIndex := 12, attributes := #[] }, { accessFlags := 18, nameIndex := 15, descriptorIndex := 16, attributes := #[] }, { accessFlags := 2, nameIndex := 19, descriptorIndex := 20, attributes := #[] }])
  fields := #[{ name := "elements", type := (.array .int), accessFlags := 18, slot := 0, constantValue := 0 }, { name := "scores", type := (.array .double), accessFlags := 18, slot := 1, constantValue := 0 }, { name := "size", type := .int, accessFlags := 2, slot := 2, constantValue := 0 }]
  methods := #[k3m0, k3m1, k3m2]
  instanceTypes := #[(.array .int), (.array .double), .int]
  staticTypes := #[]
  resolved := Array.replicate 47 none
  statics := none }

def pool4 : Array CpInfo := pool [(1, .methodref 2 3), (0, .class_ 4), (0, .nameAndType 5 6), (0, u "java/lang/Object"), (0, u "<init>"), (0, u "()V"), (9, .fieldref 17 18), (0, .class_ 19), (0, .nameAndType 20 21), (0, u "com/example/drienerlo/drienerlo/retrieval/Scored"), (0, u "elements"), (0, u "[I"), (0, .fieldref 17 23), (0, .nameAndType 24 25), (0, u "scores"), (0, u "[D"), (10, u "([I[D)V"), (0, .class_ 38), (0, u "com/example/drienerlo/drienerlo/retrieval/Scored$Builder"), (33, u "()[I"), (0, u "()[D")] 21

def k4c0 : Code := { maxStack := 4, maxLocals := 3, code := prog_59_method_1_code, exceptionTable := #[], attributes := #[] }
def k4m0 : Method := { name := "<init>", desc := "([I[D)V", sig := { parameters := [(.array .int), (.array .double)], returnType := none }, accessFlags := 0, code := some k4c0 }
def k4c1 : Code := { maxStack := 1, maxLocals := 1, code := prog_59_method_3_code, exceptionTable := #[], attributes := #[] }
def k4m1 : Method := { name := "elements", desc := "()[I", sig := { parameters := [], returnType := some (.array .int) }, accessFlags := 0, code := some k4c1 }
def k4c2 : Code := { maxStack := 1, maxLocals := 1, code := prog_59_method_4_code, exceptionTable := #[], attributes := #[] }
def k4m2 : Method := { name := "scores", desc := "()[D", sig := { parameters := [], returnType := some (.array .double) }, accessFlags := 0, code := some k4c2 }
/-- com/example/drienerlo/drienerlo/retrieval/Scored -/
def k4 : Class := { plain "com/example/drienerlo/drienerlo/retrieval/Scored" (some 0) with
  accessFlags := 32
  interfaces := #[]
  cf := some (fileOf pool4 17 #[.nestMembers #[37]] #[{ accessFlags := 0, nameIndex := 5, descriptorIndex := 36, attributes := #[] }, { accessFlags := 0, nameIndex := 20, descriptorIndex := 72, attributes := #[] }, { accessFlags := 0, nameIndex := 24, descriptorIndex := 73, attributes := #[] }] 32 2 #[] #[{ accessFlags := 18, nameIndex := 20, descriptorIndex := 21, attributes := #[] }, { accessFlags := 18, nameIndex := 24, descriptorIndex := 25, attributes := #[] }])
  fields := #[{ name := "elements", type := (.array .int), accessFlags := 18, slot := 0, constantValue := 0 }, { name := "scores", type := (.array .double), accessFlags := 18, slot := 1, constantValue := 0 }]
  methods := #[k4m0, k4m1, k4m2]
  instanceTypes := #[(.array .int), (.array .double)]
  staticTypes := #[]
  resolved := Array.replicate 95 none
  statics := none }

def pool5 : Array CpInfo := pool [(2, .class_ 4), (1, u "java/lang/Object"), (0, u "<init>"), (0, u "()V"), (7, .class_ 16), (1, u "java/util/Arrays"), (57, .class_ 76), (1, u "java/util/Arrays$NaturalOrder"), (32, u "()Ljava/lang/Object;"), (3, .class_ 115), (1, u "java/util/Arrays$LegacyMergeSort"), (1, u "Z"), (10, .nameAndType 129 109), (0, u "clone"), (20, .methodref 151 152), (0, .class_ 153), (0, .nameAndType 154 155), (0, u "java/lang/System"), (0, u "arraycopy"), (0, u "(Ljava/lang/Object;ILjava/lang/Object;II)V"), (146, u "copyOf"), (1, .methodref 305 306), (0, .class_ 307), (0, .nameAndType 308 309), (0, u "java/lang/Math"), (0, u "min"), (0, u "(II)I"), (6, .methodref 317 128), (0, .class_ 318), (0, u "[I"), (9, .methodref 329 128), (0, .class_ 330), (0, u "[D"), (44, .class_ 376), (0, u "java/util/Arrays$ArrayList"), (68, u "$assertionsDisabled"), (269, u "MIN_ARRAY_SORT_GRAN"), (0, u "I"), (2, u "INSERTIONSORT_THRESHOLD"), (151, u "([II)[I"), (3, u "([DI)[D"), (99, .class_ 976), (0, u "java/util/Arrays$ArrayItr")] 52

def k5m0 : Method := { name := "<init>", desc := "()V", sig := { parameters := [], returnType := none }, accessFlags := 2, code := none }
def k5c1 : Code := { maxStack := 6, maxLocals := 3, code := jdk_65_method_123_code, exceptionTable := #[], attributes := #[] }
def k5m1 : Method := { name := "copyOf", desc := "([II)[I", sig := { parameters := [(.array .int), .int], returnType := some (.array .int) }, accessFlags := 9, code := some k5c1 }
def k5c2 : Code := { maxStack := 6, maxLocals := 3, code := jdk_65_method_127_code, exceptionTable := #[], attributes := #[] }
def k5m2 : Method := { name := "copyOf", desc := "([DI)[D", sig := { parameters := [(.array .double), .int], returnType := some (.array .double) }, accessFlags := 9, code := some k5c2 }
/-- java/util/Arrays -/
def k5 : Class := { plain "java/util/Arrays" (some 0) with
  accessFlags := 49
  interfaces := #[]
  cf := some (fileOf pool5 14 #[.nestMembers #[975, 375, 113, 74]] #[{ accessFlags := 2, nameIndex := 5, descriptorIndex := 6, attributes := #[] }, { accessFlags := 9, nameIndex := 302, descriptorIndex := 871, attributes := #[] }, { accessFlags := 9, nameIndex := 302, descriptorIndex := 875, attributes := #[] }] 49 2 #[] #[{ accessFlags := 26, nameIndex := 715, descriptorIndex := 716, attributes := #[] }, { accessFlags := 26, nameIndex := 719, descriptorIndex := 716, attributes := #[] }, { accessFlags := 4120, nameIndex := 445, descriptorIndex := 117, attributes := #[] }])
  fields := #[{ name := "MIN_ARRAY_SORT_GRAN", type := .int, accessFlags := 26, slot := 0, constantValue := 0 }, { name := "INSERTIONSORT_THRESHOLD", type := .int, accessFlags := 26, slot := 1, constantValue := 0 }, { name := "$assertionsDisabled", type := .boolean, accessFlags := 4120, slot := 2, constantValue := 0 }]
  methods := #[k5m0, k5m1, k5m2]
  instanceTypes := #[]
  staticTypes := #[.int, .int, .boolean]
  resolved := Array.replicate 1029 none
  statics := none }

def pool6 : Array CpInfo := pool [(1, .class_ 2), (0, u "java/lang/Cloneable"), (0, .class_ 4), (0, u "java/lang/Object")] 2

/-- java/lang/Cloneable -/
def k6 : Class := { plain "java/lang/Cloneable" (some 0) with
  accessFlags := 1537
  interfaces := #[]
  cf := some (fileOf pool6 1 #[] #[] 1537 3 #[] #[])
  fields := #[]
  methods := #[]
  instanceTypes := #[]
  staticTypes := #[]
  resolved := Array.replicate 7 none
  statics := none }

def pool7 : Array CpInfo := pool [(2, .class_ 4), (1, u "java/lang/Object"), (0, u "<init>"), (0, u "()V"), (1, .class_ 10), (1, u "java/lang/System"), (0, u "allowSecurityManager"), (0, u "I"), (16, u "cons"), (0, u "Ljava/io/Console;"), (77, .class_ 110), (1, u "java/lang/System$CallersHolder"), (43, u "initialErrStream"), (0, u "Ljava/io/PrintStream;"), (19, u "security"), (0, u "Ljava/lang/SecurityManager;"), (31, .class_ 209), (0, u "java/lang/System$1"), (7, u "props"), (0, u "Ljava/util/Properties;"), (2, u "lineSeparator"), (0, u "Ljava/lang/String;"), (96, .class_ 321), (1, u "java/lang/System$LoggerFinder"), (5, .class_ 328), (0, u "java/lang/System$Logger"), (67, u "err"), (2, u "out"), (91, u "notSupportedJnuEncoding"), (15, u "in"), (17, u "initialIn"), (0, u "Ljava/io/InputStream;"), (35, u "bootLayer"), (0, u "Ljava/lang/ModuleLayer;"), (99, .class_ 664), (0, u "java/lang/System$2"), (9, u "NEVER"), (2, u "MAYBE"), (49, u "arraycopy"), (0, u "(Ljava/lang/Object;ILjava/lang/Object;II)V"), (72, .class_ 802), (0, u "java/lang/System$Logger$Level")] 31

def k7m0 : Method := { name := "<init>", desc := "()V", sig := { parameters := [], returnType := none }, accessFlags := 2, code := none }
def k7m1 : Method := { name := "arraycopy", desc := "(Ljava/lang/Object;ILjava/lang/Object;II)V", sig := { parameters := [(.object "java/lang/Object"), .int, (.object "java/lang/Object"), .int, .int], returnType := none }, accessFlags := 265, code := none }
/-- java/lang/System -/
def k7 : Class := { plain "java/lang/System" (some 0) with
  accessFlags := 49
  interfaces := #[]
  cf := some (fileOf pool7 8 #[.nestMembers #[319, 327, 801, 108, 663, 208]] #[{ accessFlags := 2, nameIndex := 5, descriptorIndex := 6, attributes := #[] }, { accessFlags := 265, nameIndex := 727, descriptorIndex := 728, attributes := #[] }] 49 2 #[] #[{ accessFlags := 25, nameIndex := 507, descriptorIndex := 526, attributes := #[] }, { accessFlags := 25, nameIndex := 399, descriptorIndex := 155, attributes := #[] }, { accessFlags := 25, nameIndex := 396, descriptorIndex := 155, attributes := #[] }, { accessFlags := 10, nameIndex := 525, descriptorIndex := 526, attributes := #[] }, { accessFlags := 26, nameIndex := 674, descriptorIndex := 12, attributes := #[] }, { accessFlags := 26, nameIndex := 677, descriptorIndex := 12, attributes := #[] }, { accessFlags := 10, nameIndex := 11, descriptorIndex := 12, attributes := #[] }, { accessFlags := 74, nameIndex := 175, descriptorIndex := 176, attributes := #[] }, { accessFlags := 10, nameIndex := 491, descriptorIndex := 222, attributes := #[] }, { accessFlags := 74, nameIndex := 29, descriptorIndex := 30, attributes := #[] }, { accessFlags := 74, nameIndex := 154, descriptorIndex := 155, attributes := #[] }, { accessFlags := 10, nameIndex := 217, descriptorIndex := 218, attributes := #[] }, { accessFlags := 10, nameIndex := 221, descriptorIndex := 222, attributes := #[] }, { accessFlags := 8, nameIndex := 562, descriptorIndex := 563, attributes := #[] }])
  fields := #[{ name := "in", type := (.object "java/io/InputStream"), accessFlags := 25, slot := 0, constantValue := 0 }, { name := "out", type := (.object "java/io/PrintStream"), accessFlags := 25, slot := 1, constantValue := 0 }, { name := "err", type := (.object "java/io/PrintStream"), accessFlags := 25, slot := 2, constantValue := 0 }, { name := "initialIn", type := (.object "java/io/InputStream"), accessFlags := 10, slot := 3, constantValue := 0 }, { name := "NEVER", type := .int, accessFlags := 26, slot := 4, constantValue := 0 }, { name := "MAYBE", type := .int, accessFlags := 26, slot := 5, constantValue := 0 }, { name := "allowSecurityManager", type := .int, accessFlags := 10, slot := 6, constantValue := 0 }, { name := "security", type := (.object "java/lang/SecurityManager"), accessFlags := 74, slot := 7, constantValue := 0 }, { name := "notSupportedJnuEncoding", type := (.object "java/lang/String"), accessFlags := 10, slot := 8, constantValue := 0 }, { name := "cons", type := (.object "java/io/Console"), accessFlags := 74, slot := 9, constantValue := 0 }, { name := "initialErrStream", type := (.object "java/io/PrintStream"), accessFlags := 74, slot := 10, constantValue := 0 }, { name := "props", type := (.object "java/util/Properties"), accessFlags := 10, slot := 11, constantValue := 0 }, { name := "lineSeparator", type := (.object "java/lang/String"), accessFlags := 10, slot := 12, constantValue := 0 }, { name := "bootLayer", type := (.object "java/lang/ModuleLayer"), accessFlags := 8, slot := 13, constantValue := 0 }]
  methods := #[k7m0, k7m1]
  instanceTypes := #[]
  staticTypes := #[(.object "java/io/InputStream"), (.object "java/io/PrintStream"), (.object "java/io/PrintStream"), (.object "java/io/InputStream"), .int, .int, .int, (.object "java/lang/SecurityManager"), (.object "java/lang/String"), (.object "java/io/Console"), (.object "java/io/PrintStream"), (.object "java/util/Properties"), (.object "java/lang/String"), (.object "java/lang/ModuleLayer")]
  resolved := Array.replicate 834 none
  statics := none }

def pool8 : Array CpInfo := pool [(1, u "java/io/Serializable"), (0, .class_ 1), (0, u "java/lang/Object"), (0, .class_ 3)] 3

/-- java/io/Serializable -/
def k8 : Class := { plain "java/io/Serializable" (some 0) with
  accessFlags := 1537
  interfaces := #[]
  cf := some (fileOf pool8 2 #[] #[] 1537 4 #[] #[])
  fields := #[]
  methods := #[]
  instanceTypes := #[]
  staticTypes := #[]
  resolved := Array.replicate 8 none
  statics := none }

/-- the primitive byte -/
def k9 : Class := { plain "byte" none with kind := .primitive 'B', accessFlags := 0x411 }
/-- [B -/
def k10 : Class := { plain "[B" (some 0) with kind := .array 9 .byte, interfaces := #[6, 8], accessFlags := 1041 }

/-- the primitive double -/
def k11 : Class := { plain "double" none with kind := .primitive 'D', accessFlags := 0x411 }
/-- [D -/
def k12 : Class := { plain "[D" (some 0) with kind := .array 11 .double, interfaces := #[6, 8], accessFlags := 1041 }

/-- the primitive int -/
def k13 : Class := { plain "int" none with kind := .primitive 'I', accessFlags := 0x411 }
/-- [I -/
def k14 : Class := { plain "[I" (some 0) with kind := .array 13 .int, interfaces := #[6, 8], accessFlags := 1041 }

def heap : Heap := #[]
def classes : Array Class := #[k0, k1, k2, k3, k4, k5, k6, k7, k8, k9, k10, k11, k12, k13, k14]
def interned : List (Array UInt16 × Addr) := []
def slotsUsed : Nat := 0
def theMethod : MethodId := ⟨1, 1⟩
def args0 : Array Value := #[.int 5, .int 9, .int 3, .int 1, .long 7, .int 2]
def aboutOver (below : List Frame) : State where
  vm := { classes := classes, interned := interned.toArray }
  heap := heap
  slotsUsed := slotsUsed
  threads := #[{ frames := .invoking theMethod args0 :: below }]
def below0 : List Frame := [.native { method := ⟨0, 0⟩, args := #[] }]
def about1 : State := aboutOver below0
def p0 : Program := .bare "" "" ""
def e0 : Env := launch0.env 0 0 0
theorem w_frames : about1.frames = Frame.invoking theMethod args0 :: below0 := rfl
set_option maxRecDepth 65536 in
theorem w_args : argsFit about1.vm theMethod args0 = true := by decide +kernel
set_option maxRecDepth 65536 in
theorem w_heap : heapFits about1 = true := by decide +kernel
set_option maxRecDepth 65536 in
theorem w_runnable : about1.curStatus? = some .runnable := by decide +kernel
set_option maxRecDepth 65536 in
theorem w_alone : about1.alone = true := by decide +kernel
set_option maxRecDepth 65536 in
theorem w_named : about1.methodNamed? x = some theMethod := by decide +kernel
set_option maxRecDepth 65536 in
theorem w_hears : about1.hears theMethod below0 = true := by decide +kernel
set_option maxRecDepth 65536 in
theorem w_ripe : about1.ripe theMethod args0 below0 = true := by decide +kernel
theorem w_running : about1.status = .running := rfl
set_option maxRecDepth 65536 in
theorem w_room : about1.hasRoom e0.platform room_1 = true :=
  launch0.hasRoom_least _ room_1 (by decide +kernel) (by decide +kernel) (by decide +kernel) (by decide +kernel) (by decide +kernel) (by decide +kernel)
theorem allAtoms_all (ts : List Jvm.Cond) (a : Array Jvm.Value) (st : Jvm.State) : (allAtoms ts).before a st = ts.all (fun c => c.before a st) := by
  induction ts with
  | nil => rfl
  | cons c t ih =>
    show (Jvm.Cond.and c (allAtoms t)).before a st = _
    rw [Jvm.Cond.before_and, ih, List.all_cons]
def words1 : List Jvm.Cond := Jvm.Cond.code x code maxLocals ret :: tables_1
/-- a 'code' word, met by the world's own term for the bytes: nothing is compared byte by byte -/
theorem code_word {y : MethodName} {bytes : ByteArray} {mx : Nat} {rt : Option FieldType} {a : Array Value} {s : State} {m : MethodId} {meth : Method} {c : Code} (h1 : s.methodNamed? y = some m) (h2 : s.vm.method? m = some meth) (h3 : meth.code = some c) (h4 : c.code = bytes)
    (h5 : (c.maxLocals == mx && c.exceptionTable.isEmpty && decide (c.maxStack ≤ mostOperands) && decide (meth.sig.returnType = rt) && !meth.locks && decide (parseMethodDescriptor y.desc = some meth.sig)) = true) : (Jvm.Cond.code y bytes mx rt).before a s = true := by
  simp only [Bool.and_eq_true, beq_iff_eq, Bool.not_eq_true', decide_eq_true_eq] at h5
  obtain ⟨⟨⟨⟨⟨g1, g2⟩, g3⟩, g4⟩, g5⟩, g6⟩ := h5
  simp [Cond.before, Cond.holds, Cond.value, h1, h2, h3, h4, g1, g2, g3, g4, g5, g6]
def isCode : Jvm.Cond → Bool
  | .code _ _ _ _ => true
  | _ => false
theorem all_split {L : List Jvm.Cond} {P : Jvm.Cond → Bool} (h1 : L.all (fun c => isCode c || P c) = true) (h2 : ∀ c ∈ L.filter isCode, P c = true) : L.all P = true := by
  refine List.all_eq_true.mpr fun c hc => ?_
  have h := List.all_eq_true.mp h1 c hc
  rcases Bool.eq_false_or_eq_true (isCode c) with hi | hi
  · exact h2 c (List.mem_filter.mpr ⟨hc, hi⟩)
  · simpa [hi] using h
set_option maxRecDepth 65536 in
theorem w_c0 : (Jvm.Cond.code x code maxLocals ret).before args0 about1 = true := code_word (m := ⟨1, 1⟩) (meth := k1m1) (c := k1c1) (by decide +kernel) rfl rfl rfl (by decide +kernel)
set_option maxRecDepth 65536 in
theorem w_c1 : (Jvm.Cond.code ({ cls := "java/lang/Math", name := "min", desc := "(II)I" } : Jvm.MethodName) jdk_29_method_69_code (2 : Nat) (Option.some Jvm.ClassFile.FieldType.int)).before args0 about1 = true := code_word (m := ⟨2, 2⟩) (meth := k2m2) (c := k2c2) (by decide +kernel) rfl rfl rfl (by decide +kernel)
set_option maxRecDepth 65536 in
theorem w_c2 : (Jvm.Cond.code ({ cls := "java/lang/Math", name := "max", desc := "(II)I" } : Jvm.MethodName) jdk_29_method_65_code (2 : Nat) (Option.some Jvm.ClassFile.FieldType.int)).before args0 about1 = true := code_word (m := ⟨2, 1⟩) (meth := k2m1) (c := k2c1) (by decide +kernel) rfl rfl rfl (by decide +kernel)
set_option maxRecDepth 65536 in
theorem w_c3 : (Jvm.Cond.code ({ cls := "com/example/drienerlo/drienerlo/retrieval/Scored$Builder", name := "<init>", desc := "(I)V" } : Jvm.MethodName) prog_60_method_1_code (2 : Nat) (Option.none : Option Jvm.ClassFile.FieldType)).before args0 about1 = true := code_word (m := ⟨3, 0⟩) (meth := k3m0) (c := k3c0) (by decide +kernel) rfl rfl rfl (by decide +kernel)
set_option maxRecDepth 65536 in
theorem w_c4 : (Jvm.Cond.code ({ cls := "java/lang/Object", name := "<init>", desc := "()V" } : Jvm.MethodName) object_method_1_code (1 : Nat) (Option.none : Option Jvm.ClassFile.FieldType)).before args0 about1 = true := code_word (m := ⟨0, 0⟩) (meth := k0m0) (c := k0c0) (by decide +kernel) rfl rfl rfl (by decide +kernel)
set_option maxRecDepth 65536 in
theorem w_c5 : (Jvm.Cond.code ({ cls := "com/example/drienerlo/drienerlo/retrieval/Scored$Builder", name := "build", desc := "()Lcom/example/drienerlo/drienerlo/retrieval/Scored;" } : Jvm.MethodName) prog_60_method_3_code (1 : Nat) (Option.some (Jvm.ClassFile.FieldType.object "com/example/drienerlo/drienerlo/retrieval/Scored"))).before args0 about1 = true := code_word (m := ⟨3, 2⟩) (meth := k3m2) (c := k3c2) (by decide +kernel) rfl rfl rfl (by decide +kernel)
set_option maxRecDepth 65536 in
theorem w_c6 : (Jvm.Cond.code ({ cls := "java/util/Arrays", name := "copyOf", desc := "([II)[I" } : Jvm.MethodName) jdk_65_method_123_code (3 : Nat) (Option.some (Jvm.ClassFile.FieldType.array Jvm.ClassFile.FieldType.int))).before args0 about1 = true := code_word (m := ⟨5, 1⟩) (meth := k5m1) (c := k5c1) (by decide +kernel) rfl rfl rfl (by decide +kernel)
set_option maxRecDepth 65536 in
theorem w_c7 : (Jvm.Cond.code ({ cls := "java/util/Arrays", name := "copyOf", desc := "([DI)[D" } : Jvm.MethodName) jdk_65_method_127_code (3 : Nat) (Option.some (Jvm.ClassFile.FieldType.array Jvm.ClassFile.FieldType.double))).before args0 about1 = true := code_word (m := ⟨5, 2⟩) (meth := k5m2) (c := k5c2) (by decide +kernel) rfl rfl rfl (by decide +kernel)
set_option maxRecDepth 65536 in
theorem w_c8 : (Jvm.Cond.code ({ cls := "com/example/drienerlo/drienerlo/retrieval/Scored", name := "<init>", desc := "([I[D)V" } : Jvm.MethodName) prog_59_method_1_code (3 : Nat) (Option.none : Option Jvm.ClassFile.FieldType)).before args0 about1 = true := code_word (m := ⟨4, 0⟩) (meth := k4m0) (c := k4c0) (by decide +kernel) rfl rfl rfl (by decide +kernel)
set_option maxRecDepth 65536 in
theorem w_c9 : (Jvm.Cond.code ({ cls := "com/example/drienerlo/drienerlo/retrieval/Scored", name := "elements", desc := "()[I" } : Jvm.MethodName) prog_59_method_3_code (1 : Nat) (Option.some (Jvm.ClassFile.FieldType.array Jvm.ClassFile.FieldType.int))).before args0 about1 = true := code_word (m := ⟨4, 1⟩) (meth := k4m1) (c := k4c1) (by decide +kernel) rfl rfl rfl (by decide +kernel)
set_option maxRecDepth 65536 in
theorem w_c10 : (Jvm.Cond.code ({ cls := "com/example/drienerlo/drienerlo/retrieval/Scored", name := "scores", desc := "()[D" } : Jvm.MethodName) prog_59_method_4_code (1 : Nat) (Option.some (Jvm.ClassFile.FieldType.array Jvm.ClassFile.FieldType.double))).before args0 about1 = true := code_word (m := ⟨4, 2⟩) (meth := k4m2) (c := k4c2) (by decide +kernel) rfl rfl rfl (by decide +kernel)
set_option maxRecDepth 65536 in
theorem w_c11 : (Jvm.Cond.code ({ cls := "com/example/drienerlo/drienerlo/retrieval/Scored$Builder", name := "add", desc := "(ID)V" } : Jvm.MethodName) prog_60_method_2_code (4 : Nat) (Option.none : Option Jvm.ClassFile.FieldType)).before args0 about1 = true := code_word (m := ⟨3, 1⟩) (meth := k3m1) (c := k3c1) (by decide +kernel) rfl rfl rfl (by decide +kernel)
def codes1 : List Jvm.Cond := [Jvm.Cond.code x code maxLocals ret, Jvm.Cond.code ({ cls := "java/lang/Math", name := "min", desc := "(II)I" } : Jvm.MethodName) jdk_29_method_69_code (2 : Nat) (Option.some Jvm.ClassFile.FieldType.int), Jvm.Cond.code ({ cls := "java/lang/Math", name := "max", desc := "(II)I" } : Jvm.MethodName) jdk_29_method_65_code (2 : Nat) (Option.some Jvm.ClassFile.FieldType.int), Jvm.Cond.code ({ cls := "com/example/drienerlo/drienerlo/retrieval/Scored$Builder", name := "<init>", desc := "(I)V" } : Jvm.MethodName) prog_60_method_1_code (2 : Nat) (Option.none : Option Jvm.ClassFile.FieldType), Jvm.Cond.code ({ cls := "java/lang/Object", name := "<init>", desc := "()V" } : Jvm.MethodName) object_method_1_code (1 : Nat) (Option.none : Option Jvm.ClassFile.FieldType), Jvm.Cond.code ({ cls := "com/example/drienerlo/drienerlo/retrieval/Scored$Builder", name := "build", desc := "()Lcom/example/drienerlo/drienerlo/retrieval/Scored;" } : Jvm.MethodName) prog_60_method_3_code (1 : Nat) (Option.some (Jvm.ClassFile.FieldType.object "com/example/drienerlo/drienerlo/retrieval/Scored")), Jvm.Cond.code ({ cls := "java/util/Arrays", name := "copyOf", desc := "([II)[I" } : Jvm.MethodName) jdk_65_method_123_code (3 : Nat) (Option.some (Jvm.ClassFile.FieldType.array Jvm.ClassFile.FieldType.int)), Jvm.Cond.code ({ cls := "java/util/Arrays", name := "copyOf", desc := "([DI)[D" } : Jvm.MethodName) jdk_65_method_127_code (3 : Nat) (Option.some (Jvm.ClassFile.FieldType.array Jvm.ClassFile.FieldType.double)), Jvm.Cond.code ({ cls := "com/example/drienerlo/drienerlo/retrieval/Scored", name := "<init>", desc := "([I[D)V" } : Jvm.MethodName) prog_59_method_1_code (3 : Nat) (Option.none : Option Jvm.ClassFile.FieldType), Jvm.Cond.code ({ cls := "com/example/drienerlo/drienerlo/retrieval/Scored", name := "elements", desc := "()[I" } : Jvm.MethodName) prog_59_method_3_code (1 : Nat) (Option.some (Jvm.ClassFile.FieldType.array Jvm.ClassFile.FieldType.int)), Jvm.Cond.code ({ cls := "com/example/drienerlo/drienerlo/retrieval/Scored", name := "scores", desc := "()[D" } : Jvm.MethodName) prog_59_method_4_code (1 : Nat) (Option.some (Jvm.ClassFile.FieldType.array Jvm.ClassFile.FieldType.double)), Jvm.Cond.code ({ cls := "com/example/drienerlo/drienerlo/retrieval/Scored$Builder", name := "add", desc := "(ID)V" } : Jvm.MethodName) prog_60_method_2_code (4 : Nat) (Option.none : Option Jvm.ClassFile.FieldType)]
set_option maxRecDepth 65536 in
theorem codes_eq : words1.filter isCode = codes1 := rfl
theorem w_codes : ∀ c ∈ words1.filter isCode, c.before args0 about1 = true := by
  rw [codes_eq]
  intro c hc
  simp only [codes1, List.mem_cons, List.not_mem_nil, or_false] at hc
  rcases hc with rfl | rfl | rfl | rfl | rfl | rfl | rfl | rfl | rfl | rfl | rfl | rfl
  · exact w_c0
  · exact w_c1
  · exact w_c2
  · exact w_c3
  · exact w_c4
  · exact w_c5
  · exact w_c6
  · exact w_c7
  · exact w_c8
  · exact w_c9
  · exact w_c10
  · exact w_c11
set_option maxRecDepth 65536 in
theorem w_t1 : (words1.take 24).all (fun c => isCode c || c.before args0 about1) = true := by decide +kernel
set_option maxRecDepth 65536 in
theorem w_t2 : ((words1.drop 24).take 24).all (fun c => isCode c || c.before args0 about1) = true := by decide +kernel
set_option maxRecDepth 65536 in
theorem w_t3 : (((words1.drop 24).drop 24).take 24).all (fun c => isCode c || c.before args0 about1) = true := by decide +kernel
set_option maxRecDepth 65536 in
theorem w_t4 : (((words1.drop 24).drop 24).drop 24).all (fun c => isCode c || c.before args0 about1) = true := by decide +kernel
theorem w_tables : (allAtoms (Jvm.Cond.code x code maxLocals ret :: tables_1)).before args0 about1 = true := by
  rw [allAtoms_all]
  show words1.all (fun c => c.before args0 about1) = true
  refine all_split ?_ w_codes
  rw [← List.take_append_drop 24 words1, List.all_append, w_t1, ← List.take_append_drop 24 (words1.drop 24), List.all_append, w_t2, ← List.take_append_drop 24 ((words1.drop 24).drop 24), List.all_append, w_t3, w_t4]
  rfl
set_option maxRecDepth 65536 in
theorem w_case : (Jvm.Cond.and given_1 narrow_1).before args0 about1 = true := by decide +kernel
theorem w_applies : (headSpec (Jvm.Cond.code x code maxLocals ret :: tables_1) room_1).applies x e0.platform about1 = true :=
  (Spec.applies_iff w_frames).mpr ⟨w_running, w_runnable, w_alone, w_named, w_hears, w_ripe, w_room, w_tables⟩
theorem atStart : AtStart classFile x code maxLocals ret World_1 tables_1 room_1 Calls_1 rest_1 Pre_1 launch0 p0 e0 about1 theMethod args0 below0 :=
  ⟨lists_1, trivial, launch0.admits_env _ _ _, launch0.least_env, fairChoices_fair.cas, fairChoices_fair.clock, w_frames, w_args, w_heap, w_applies, trivial, trivial, w_case⟩
end start1
theorem witness_1 : WitnessClaimed_1 := ⟨start1.p0, start1.e0, start1.about1, start1.theMethod, start1.args0, start1.below0, start1.atStart⟩
end Jvm.Pilot.@@N@@
