import JvmDerived
import JvmDerived.Pilot.@@N@@Statement
import JvmDerived.Pilot.@@N@@Code
set_option linter.unusedVariables false
set_option linter.unusedSimpArgs false

namespace Jvm.Pilot.@@N@@
open Jvm Jvm.ClassFile Sem Op Lib Jvm.Free Jvm.Stand Jvm.LawKit Jvm.RoadKit Bundle Jvm.Pilot.@@N@@.Jvm.D
/-! the walk's own frame: a goal that goes forward step by step -/
def Go (p : Program) (e : Env) (below : List Frame) (P : State → Outcome → Prop) (A : State) : Prop := ∃ s₂ o, Steps p.tables e below A s₂ ∧ P s₂ o
theorem go {p : Program} {e : Env} {below : List Frame} {P : State → Outcome → Prop} {A B : State} (h : ∀ t, Steps p.tables e below B t → Steps p.tables e below A t) (k : Go p e below P B) : Go p e below P A := by
  obtain ⟨t, o, a, b⟩ := k
  exact ⟨t, o, h t a, b⟩
def PP (s : State) (below : List Frame) (Q : Option Value → Heap → List Loc → Prop) (ce sl : Nat) (s₂ : State) (o : Outcome) : Prop := s₂.status = .running ∧ Ended s₂ below o ∧ ∃ v L, o = .returned v ∧ Q v s₂.heap L ∧ FrameEnd s o s₂ L ce sl
theorem leaf {p : Program} {e : Env} {s A : State} {below : List Frame} {Q : Option Value → Heap → List Loc → Prop} {ce sl : Nat} {T : State} {v : Option Value} {locs : List Loc} {cells slots : Nat}
    (h : ∃ fs, Steps p.tables e below A (T.setFrames fs) ∧ (T.setFrames fs).status = .running ∧ Ended (T.setFrames fs) below (.returned v) ∧ s.WarmedH (T.setFrames fs).vm ∧ s.sameButNew ({ T.setFrames fs with vm := s.vm } : State) locs cells slots)
    (hQ : Q v T.heap locs) (hc : cells ≤ ce) (hs : slots ≤ sl) : Go p e below (PP s below Q ce sl) A := by
  obtain ⟨fs, h1, h2, h3, h4, h5⟩ := h
  exact ⟨_, _, h1, h2, h3, v, locs, rfl, hQ, ⟨_, rfl⟩, h4, h5.mono hc hs⟩
theorem retI {p : Program} {l : Launch} {e : Env} {R : Room} {s : State} {m : MethodId} {args : Array Value} {below : List Frame} {meth : Method} {c : Code} {T : State} {locs : List Loc} {cells slots : Nat} (X : Stand p l e R s m args below meth c T locs cells slots) (hx : p.tables.exec = Jvm.exec) {pc : Nat} {Ls : Array Slot} {z : Int32} {rest : List Value} (hret : meth.sig.returnType = some .int) (hd : decode c.code pc = .ok (.ireturn, 1)) {fs : List Frame}
    (hl : ∀ (f : JFrame) (acts : List Action), f.method = m → f.locked = none → f.entered = [] → (doReturn e (T.setTop f) acts (some (.int z))).1 = T.setFrames fs) : Steps p.tables e below (T.setTop (mkF m pc Ls (.int z :: rest))) (T.setFrames fs) :=
  retOut X hx hret rfl (Or.inl ⟨rfl, Or.inl rfl, z, rfl⟩) hd hl
theorem retJ {p : Program} {l : Launch} {e : Env} {R : Room} {s : State} {m : MethodId} {args : Array Value} {below : List Frame} {meth : Method} {c : Code} {T : State} {locs : List Loc} {cells slots : Nat} (X : Stand p l e R s m args below meth c T locs cells slots) (hx : p.tables.exec = Jvm.exec) {pc : Nat} {Ls : Array Slot} {z : Int64} {rest : List Value} (hret : meth.sig.returnType = some .long) (hd : decode c.code pc = .ok (.lreturn, 1)) {fs : List Frame}
    (hl : ∀ (f : JFrame) (acts : List Action), f.method = m → f.locked = none → f.entered = [] → (doReturn e (T.setTop f) acts (some (.long z))).1 = T.setFrames fs) : Steps p.tables e below (T.setTop (mkF m pc Ls (.long z :: rest))) (T.setFrames fs) :=
  retOut X hx hret rfl (Or.inr (Or.inl ⟨rfl, rfl, z, rfl⟩)) hd hl
theorem retA {p : Program} {l : Launch} {e : Env} {R : Room} {s : State} {m : MethodId} {args : Array Value} {below : List Frame} {meth : Method} {c : Code} {T : State} {locs : List Loc} {cells slots : Nat} (X : Stand p l e R s m args below meth c T locs cells slots) (hx : p.tables.exec = Jvm.exec) {pc : Nat} {Ls : Array Slot} {w : Value} {t : FieldType} {rest : List Value} (hret : meth.sig.returnType = some t) (ht : t.isReference = true) (hw : w.isRef = true) (hn : narrow t w = w) (hd : decode c.code pc = .ok (.areturn, 1)) {fs : List Frame}
    (hl : ∀ (f : JFrame) (acts : List Action), f.method = m → f.locked = none → f.entered = [] → (doReturn e (T.setTop f) acts (some w)).1 = T.setFrames fs) : Steps p.tables e below (T.setTop (mkF m pc Ls (w :: rest))) (T.setFrames fs) :=
  retOut X hx hret hn (Or.inr (Or.inr (Or.inr (Or.inr ⟨rfl, ht, hw⟩)))) hd hl
theorem own_psel {Z s : State} {a0 args : Array Value} {y : MethodName} {n : Nat} (hZ : Z.Warmed39 s.vm) (hi : (Jvm.Cond.instantiable y.cls n).before a0 Z = true) (hp : (Jvm.Cond.privateMethod y).before a0 Z = true) (hinst : (Jvm.Cond.instanceMethod y).before a0 Z = true) (hy : y.cls ≠ "java/lang/invoke/MethodHandle" ∧ y.cls ≠ "java/lang/invoke/VarHandle") : (Jvm.Cond.selects y.cls y y).before args s = true := by
  have hi' : (Jvm.Cond.instantiable y.cls n).before args s = true := mvT hZ hi
  obtain ⟨c, k, h1, h2, h3, h4, h5, h6⟩ := Cond.instantiable_spec hi'
  have h7 : k.isInterface = false := by
    cases hq : k.isInterface
    · rfl
    · rw [hq] at h4; simp at h4
  exact selects_self_of_private h1 h2 h7 (Cond.privateMethod_at (mvP hZ hp (args := args))) (mvT hZ hinst) hy
def PPW (s : State) (below : List Frame) (Q : Option Value → Heap → List Loc → Prop) (ce sl : Nat) (s₂ : State) (o : Outcome) : Prop := s₂.status = .running ∧ Ended s₂ below o ∧ ∃ v L, o = .returned v ∧ Q v s₂.heap L ∧ ReturnedEndW s o s₂ L ce sl
theorem endW_mono {s t : State} {o : Outcome} {L : List Loc} {k n k' n' : Nat} (h : ReturnedEndW s o t L k n) (hk : k ≤ k') (hn : n ≤ n') : ReturnedEndW s o t L k' n' := ⟨h.1, h.2.1, h.2.2.1, h.2.2.2.mono hk hn⟩
theorem leafW {p : Program} {e : Env} {s A : State} {below : List Frame} {Q : Option Value → Heap → List Loc → Prop} {ce sl : Nat} {T : State} {v : Option Value} {locs : List Loc} {cells slots : Nat}
    (h : ∃ fs, Steps p.tables e below A (T.setFrames fs) ∧ (T.setFrames fs).status = .running ∧ Ended (T.setFrames fs) below (.returned v) ∧ ReturnedEndW s (.returned v) (T.setFrames fs) locs cells slots)
    (hQ : Q v T.heap locs) (hc : cells ≤ ce) (hs : slots ≤ sl) : Go p e below (PPW s below Q ce sl) A := by
  obtain ⟨fs, h1, h2, h3, h4⟩ := h
  exact ⟨_, _, h1, h2, h3, v, locs, rfl, hQ, endW_mono h4 hc hs⟩
def PPH (Z : State) (EL : List (String × Nat)) (s : State) (below : List Frame) (Q : Option Value → Heap → List Loc → Prop) (ce sl : Nat) (s₂ : State) (o : Outcome) : Prop := s₂.status = .running ∧ Ended s₂ below o ∧ ∃ v L, o = .returned v ∧ Q v s₂.heap L ∧ CHr Z EL s.vm s.heap s₂.vm s₂.heap ∧ ReturnedEndW s o s₂ L ce sl
theorem leafH {Z : State} {EL : List (String × Nat)} {p : Program} {e : Env} {s A : State} {below : List Frame} {Q : Option Value → Heap → List Loc → Prop} {ce sl : Nat} {T : State} {v : Option Value} {locs : List Loc} {cells slots : Nat}
    (h : ∃ fs, Steps p.tables e below A (T.setFrames fs) ∧ (T.setFrames fs).status = .running ∧ Ended (T.setFrames fs) below (.returned v) ∧ ReturnedEndW s (.returned v) (T.setFrames fs) locs cells slots)
    (hQ : Q v T.heap locs) (hR : CHr Z EL s.vm s.heap T.vm T.heap) (hc : cells ≤ ce) (hs : slots ≤ sl) : Go p e below (PPH Z EL s below Q ce sl) A := by
  obtain ⟨fs, h1, h2, h3, h4⟩ := h
  exact ⟨_, _, h1, h2, h3, v, locs, rfl, hQ, hR, endW_mono h4 hc hs⟩
theorem coldZ {Z s : State} {vm0 vm1 : Vm} {n : Nat} (hZ : Z.Warmed39 (s.setVm vm0).vm) (h2 : (s.setVm vm0).Since vm1 n) : Z.Warmed39 (s.setVm vm1).vm := State.Warmed39.trans (t := s.setVm vm0) hZ h2.1
theorem coldO {s : State} {vm0 vm1 : Vm} {n : Nat} {own : String} {c : ClassId} (hown : (s.setVm vm0).vm.findClass own = some c) (h2 : (s.setVm vm0).Since vm1 n) : (s.setVm vm1).vm.findClass own = some c := by
  rw [show (s.setVm vm1).vm = vm1 from rfl, h2.1.alike.findClass]; exact hown
/-! a truth as Java's int -/
def bz (c : Prop) [Decidable c] : Int32 := if c then 1 else 0
theorem bz_t {c : Prop} [Decidable c] (h : c) : bz c = 1 := if_pos h
theorem bz_f {c : Prop} [Decidable c] (h : ¬ c) : bz c = 0 := if_neg h
theorem bz_ne {c : Prop} [Decidable c] (h : c) : ¬ (bz c = 0) := by rw [bz_t h]; decide
theorem bz_nf {c : Prop} [Decidable c] (h : ¬ c) : ¬ (bz c = 1) := by rw [bz_f h]; decide
theorem bz_congr {c d : Prop} [Decidable c] [Decidable d] (h : c ↔ d) : bz c = bz d := by by_cases q : c; rw [bz_t q, bz_t (h.mp q)]; rw [bz_f q, bz_f (fun z => q (h.mpr z))]
theorem bz_nar (c : Prop) [Decidable c] : nar .boolean (bz c) = bz c := by by_cases q : c; rw [bz_t q]; rfl; rw [bz_f q]; rfl

theorem own_or (f a b : Int32) : (f &&& (a ||| b) = 0) ↔ (f &&& a = 0) ∧ (f &&& b = 0) := by
  rw [← Int32.toBitVec_inj, ← Int32.toBitVec_inj, ← Int32.toBitVec_inj]
  simp only [Int32.toBitVec_and, Int32.toBitVec_or]
  constructor
  · intro h
    constructor
    · apply BitVec.eq_of_getLsbD_eq; intro i hi
      have := congrArg (fun z => z.getLsbD i) h
      simp at this ⊢
      intro q; exact (this q).1
    · apply BitVec.eq_of_getLsbD_eq; intro i hi
      have := congrArg (fun z => z.getLsbD i) h
      simp at this ⊢
      intro q; exact (this q).2
  · rintro ⟨h1, h2⟩
    apply BitVec.eq_of_getLsbD_eq; intro i hi
    have g1 := congrArg (fun z => z.getLsbD i) h1
    have g2 := congrArg (fun z => z.getLsbD i) h2
    simp at g1 g2 ⊢
    intro q; exact ⟨g1 q, g2 q⟩
theorem own_k (a : Int32) : ∃ k : Nat, k < 32 ∧ ((a &&& 31) &&& 31) = Int32.ofNat k := by
  have h := c_mask (a &&& 31) 31 5 (by decide) (by decide)
  have h0 : 0 ≤ ((a &&& 31) &&& 31).toInt ∧ ((a &&& 31) &&& 31).toInt < 32 := by omega
  refine ⟨((a &&& 31) &&& 31).toInt.toNat, by omega, ?_⟩
  rw [← Int32.toInt_inj, Int32.toInt_ofNat_of_lt (by omega)]
  omega
theorem own_bit (f : Int32) : ∀ k : Nat, k < 32 → ((f &&& ((1 : Int32) <<< Int32.ofNat k) = 0) ↔ (((f.toUInt32 >>> (Int32.ofNat k).toUInt32).toInt32) &&& 1) = 0) := by
  intro k hk
  rw [← Int32.toBitVec_inj, ← Int32.toBitVec_inj]
  have e1 : ((1 : Int32) <<< Int32.ofNat k).toBitVec = BitVec.twoPow 32 k := by
    have : ∀ k : Fin 32, ((1 : Int32) <<< Int32.ofNat k.1).toBitVec = BitVec.twoPow 32 k.1 := by decide
    exact this ⟨k, hk⟩
  have e2 : ((f.toUInt32 >>> (Int32.ofNat k).toUInt32).toInt32).toBitVec = f.toBitVec >>> k := by
    have h2 : ∀ k : Fin 32, (Int32.ofNat k.1).toUInt32.toBitVec % 32 = BitVec.ofNat 32 k.1 := by decide
    have h3 := h2 ⟨k, hk⟩
    have e3 : ((f.toUInt32 >>> (Int32.ofNat k).toUInt32).toInt32).toBitVec = f.toBitVec >>> ((Int32.ofNat k).toUInt32.toBitVec % 32) := rfl
    rw [e3]
    simp only at h3
    rw [h3]
    simp
    congr 1
    omega
  rw [Int32.toBitVec_and, Int32.toBitVec_and, e1, e2, BitVec.and_twoPow]
  have e4 : (1 : Int32).toBitVec = 1#32 := rfl
  have e5 : (0 : Int32).toBitVec = 0#32 := rfl
  rw [e4, e5, BitVec.and_one_eq_setWidth_ofBool_getLsbD]
  simp only [BitVec.getLsbD_ushiftRight, Nat.add_zero]
  cases hb : f.toBitVec.getLsbD k
  · simp
  · simp only [if_true]
    have : BitVec.twoPow 32 k ≠ 0#32 := by
      intro q
      have := congrArg (fun z => z.getLsbD k) q
      simp [BitVec.getLsbD_twoPow, hk] at this
    simp [this]
theorem own_all (f : Int32) : (f &&& (-1 : Int32) = 0) ↔ f = 0 := by
  have : f &&& (-1 : Int32) = f := by
    rw [← Int32.toBitVec_inj, Int32.toBitVec_and]
    have : (-1 : Int32).toBitVec = BitVec.allOnes 32 := by decide
    rw [this]; exact BitVec.and_allOnes
  rw [this]
theorem own_f1 (f a b v : Int32) (hv : v = (if ¬ ((f &&& a) = (0 : Int32)) then (1 : Int32) else (bz (¬ ((f &&& b) = (0 : Int32)))))) : (bz (¬ ((f &&& (a ||| b)) = (0 : Int32)))) = v := by
  rw [hv]
  by_cases h1 : (f &&& a) = (0 : Int32)
  · rw [if_neg (fun q => q h1)]
    refine bz_congr ?_
    rw [own_or]
    simp [h1]
  · rw [if_pos h1]
    refine bz_t ?_
    rw [own_or]
    exact fun q => h1 q.1
theorem own_f2 (f a : Int32) : (bz (¬ ((f &&& ((1 : Int32) <<< ((a &&& (31 : Int32)) &&& 31))) = (0 : Int32)))) = (bz (¬ ((((f.toUInt32 >>> ((a &&& (31 : Int32)) &&& 31).toUInt32).toInt32) &&& (1 : Int32)) = (0 : Int32)))) := by
  obtain ⟨k, hk, e⟩ := own_k a
  rw [e]
  refine bz_congr ?_
  rw [own_bit f k hk]
theorem own_f3 (f : Int32) : ¬ (¬ ((f &&& (0 : Int32)) = (0 : Int32))) := by
  intro q
  refine q ?_
  rw [← Int32.toBitVec_inj, Int32.toBitVec_and]
  exact BitVec.and_zero
theorem own_f4 (f : Int32) : (bz (¬ ((f &&& (-1 : Int32)) = (0 : Int32)))) = (bz (¬ (f = (0 : Int32)))) := by
  refine bz_congr ?_
  rw [own_all]
theorem pn_0 : plainName "java/lang/Record" = true := by first | (simp [plainName, overriddenIn]; done) | decide +kernel
theorem d2_0 : decode jdk_30_method_1_code 0 = .ok (.aload_n 0, 1) := by decide +kernel
theorem d2_1 : decode jdk_30_method_1_code 1 = .ok (.invokespecial 1, 3) := by decide +kernel
theorem d2_4 : decode jdk_30_method_1_code 4 = .ok (.return_, 1) := by decide +kernel
theorem ef_rm2 (m : MethodId) (a1 : Addr) : entryFrame m #[(.ref a1)] 1 = mkF m 0 #[.val (.ref a1)] [] := by first | (simp [entryFrame, mkF, argsToLocals, Value.category]; done) | rfl
def Q2 (Z : State) (a1 : Addr) (h0 : Heap) (n0 : Nat) (v : Option Value) (h : Heap) (L : List Loc) : Prop := v = none ∧ Fr n0 L ∧ h = h0
set_option maxRecDepth 65536 in
set_option maxHeartbeats 40000000 in
theorem rm2 (l : Launch) (Z : State) (a0 : Array Value) (hw : ∀ d ∈ tables_1, d.before a0 Z = true) (ws : List Jvm.Cond) (a1 : Addr) (h0 : Heap) (n0 : Nat) (Z0 : n0 ≤ h0.size) :
    MetFree l (⟨"java/lang/Record", "<init>", "()V"⟩ : MethodName) (head1 (Jvm.Cond.code (⟨"java/lang/Record", "<init>", "()V"⟩ : MethodName) jdk_30_method_1_code 1 none :: ws) ({ frames := 1, cells := 0, slots := 0, locals := 12 } : Room)) (fun a U => a = #[(.ref a1)] ∧ Z.Warmed39 U.vm ∧ U.heap = h0) (fun _ _ _ _ _ => True) (fun _ U o U' => ∃ v L, o = .returned v ∧ Q2 Z a1 h0 n0 v U'.heap L ∧ FrameEnd U o U' L ({ frames := 1, cells := 0, slots := 0, locals := 12 } : Room).cells ({ frames := 1, cells := 0, slots := 0, locals := 12 } : Room).slots) := by
  refine MetFree.of_bodySF (plainFor_of_name pn_0) hisR ?_
  intro p e s m args below meth c s₁ Bd hml0 hP hK
  obtain ⟨rfl, hZ, hh⟩ := hP
  have hx := Bd.exec
  have hby := Bd.bytes
  have hml : c.maxLocals = 1 := hml0
  have hown : s.vm.findClass "java/lang/Record" = some m.cls := findClass_of_methodNamed Bd.named
  have hnm := (name_of_methodNamed Bd.named Bd.method).1
  have X0 : Stand p l e ({ frames := 1, cells := 0, slots := 0, locals := 12 } : Room) s m #[(.ref a1)] below meth c s₁ [] 0 0 := Stand.of_body Bd
  have e0 : s₁.heap = h0 := by rw [← hh, Bd.state]; rfl
  have N0 := Fr.nil n0
  show Go p e below (PP s below (Q2 Z a1 h0 n0) ({ frames := 1, cells := 0, slots := 0, locals := 12 } : Room).cells ({ frames := 1, cells := 0, slots := 0, locals := 12 } : Room).slots) (s₁.setTop (entryFrame m #[(.ref a1)] 1))
  refine go (fun _ k => castTop (ef_rm2 m a1) k) ?_
  show Go p e below _ (s₁.setTop (mkF m 0 #[.val (.ref a1)] []))
  refine go (fun _ k => XS.aloadN X0.here hx rfl (hb hby d2_0) rfl rfl  k) ?_
  show Go p e below _ (s₁.setTop (mkF m 1 #[.val (.ref a1)] [(.ref a1)]))
  obtain ⟨T1, X1, e1, st1⟩ := initO X0 hx hZ hown (hw _ (List.mem_of_getElem? (i := 11) rfl)) (hw _ (List.mem_of_getElem? (i := 12) rfl)) (hw _ (List.mem_of_getElem? (i := 13) rfl)) e0 (g := (mkF m 1 #[.val (.ref a1)] [(.ref a1)])) rfl (by rw [hml]; rfl) rfl (hb hby d2_1) (by decide) (W := 0) (by show 2 * 0 + _ ≤ _; exact Nat.le_of_eq rfl) (by decide)
  refine go st1 ?_
  show Go p e below _ (T1.setTop (mkF m 4 #[.val (.ref a1)] []))
  obtain ⟨fs, hr, hrun, hended, hW, hsame⟩ := X1.leave (v := none) (fun _ => rfl)
  refine leaf (T := T1) ⟨fs, X1.returnOut hx Bd.returns (hb hby d2_4) hr, hrun, hended, hW, hsame⟩ ?_ (by decide) (by decide)
  show Q2 Z a1 h0 n0 _ T1.heap _
  rw [e1]
  exact ⟨rfl, N0, rfl⟩
theorem pd_0 : parseMethodDescriptor "()V" = some ⟨[], none⟩ := by decide +kernel
theorem pn_1 : plainName "com/example/nuthatch/nuthatch/p2p/yamux/YamuxFrame" = true := by first | (simp [plainName, overriddenIn]; done) | decide +kernel
theorem d1_0 : decode prog_28_method_1_code 0 = .ok (.aload_n 0, 1) := by decide +kernel
theorem d1_1 : decode prog_28_method_1_code 1 = .ok (.invokespecial 1, 3) := by decide +kernel
theorem d1_4 : decode prog_28_method_1_code 4 = .ok (.aload_n 0, 1) := by decide +kernel
theorem d1_5 : decode prog_28_method_1_code 5 = .ok (.iload_n 1, 1) := by decide +kernel
theorem d1_6 : decode prog_28_method_1_code 6 = .ok (.putfield 7, 3) := by decide +kernel
theorem d1_9 : decode prog_28_method_1_code 9 = .ok (.aload_n 0, 1) := by decide +kernel
theorem d1_10 : decode prog_28_method_1_code 10 = .ok (.iload_n 2, 1) := by decide +kernel
theorem d1_11 : decode prog_28_method_1_code 11 = .ok (.putfield 13, 3) := by decide +kernel
theorem d1_14 : decode prog_28_method_1_code 14 = .ok (.aload_n 0, 1) := by decide +kernel
theorem d1_15 : decode prog_28_method_1_code 15 = .ok (.iload_n 3, 1) := by decide +kernel
theorem d1_16 : decode prog_28_method_1_code 16 = .ok (.putfield 16, 3) := by decide +kernel
theorem d1_19 : decode prog_28_method_1_code 19 = .ok (.aload_n 0, 1) := by decide +kernel
theorem d1_20 : decode prog_28_method_1_code 20 = .ok (.lload 4, 2) := by decide +kernel
theorem d1_22 : decode prog_28_method_1_code 22 = .ok (.putfield 19, 3) := by decide +kernel
theorem d1_25 : decode prog_28_method_1_code 25 = .ok (.return_, 1) := by decide +kernel
theorem ef_rm1 (m : MethodId) (a1 : Addr) (p2 : Int32) (p3 : Int32) (p4 : Int32) (q5 : Int64) : entryFrame m #[(.ref a1), (.int p2), (.int p3), (.int p4), (.long q5)] 6 = mkF m 0 #[.val (.ref a1), .val (.int p2), .val (.int p3), .val (.int p4), .val (.long q5), .second] [] := by first | (simp [entryFrame, mkF, argsToLocals, Value.category]; done) | rfl
def Q1 (Z : State) (a1 : Addr) (p2 : Int32) (p3 : Int32) (p4 : Int32) (q5 : Int64) (u1 : Value) (u2 : Value) (u3 : Value) (u4 : Value) (h0 : Heap) (n0 : Nat) (v : Option Value) (h : Heap) (L : List Loc) : Prop := v = none ∧ Fr n0 L ∧ Keep h0 h [a1] ∧ Exa Z h a1 "com/example/nuthatch/nuthatch/p2p/yamux/YamuxFrame" ∧ Fld Z h a1 "com/example/nuthatch/nuthatch/p2p/yamux/YamuxFrame" "flags" "I" (.int p3)
set_option maxRecDepth 65536 in
set_option maxHeartbeats 40000000 in
theorem rm1 (l : Launch) (Z : State) (a0 : Array Value) (hw : ∀ d ∈ tables_1, d.before a0 Z = true) (ws : List Jvm.Cond) (a1 : Addr) (p2 : Int32) (p3 : Int32) (p4 : Int32) (q5 : Int64) (u1 : Value) (u2 : Value) (u3 : Value) (u4 : Value) (h0 : Heap) (n0 : Nat) (Z0 : n0 ≤ h0.size) (E_a1 : Exa Z h0 a1 "com/example/nuthatch/nuthatch/p2p/yamux/YamuxFrame") (g_a1 : n0 ≤ a1) (F_type_a1 : Fld Z h0 a1 "com/example/nuthatch/nuthatch/p2p/yamux/YamuxFrame" "type" "I" u1) (F_flags_a1 : Fld Z h0 a1 "com/example/nuthatch/nuthatch/p2p/yamux/YamuxFrame" "flags" "I" u2) (F_streamId_a1 : Fld Z h0 a1 "com/example/nuthatch/nuthatch/p2p/yamux/YamuxFrame" "streamId" "I" u3) (F_length_a1 : Fld Z h0 a1 "com/example/nuthatch/nuthatch/p2p/yamux/YamuxFrame" "length" "J" u4) :
    MetFree l (⟨"com/example/nuthatch/nuthatch/p2p/yamux/YamuxFrame", "<init>", "(IIIJ)V"⟩ : MethodName) (head1 (Jvm.Cond.code (⟨"com/example/nuthatch/nuthatch/p2p/yamux/YamuxFrame", "<init>", "(IIIJ)V"⟩ : MethodName) prog_28_method_1_code 6 none :: ws) ({ frames := 2, cells := 0, slots := 0, locals := 24 } : Room)) (fun a U => a = #[(.ref a1), (.int p2), (.int p3), (.int p4), (.long q5)] ∧ Z.Warmed39 U.vm ∧ U.heap = h0) (fun _ _ _ _ _ => True) (fun _ U o U' => ∃ v L, o = .returned v ∧ Q1 Z a1 p2 p3 p4 q5 u1 u2 u3 u4 h0 n0 v U'.heap L ∧ FrameEnd U o U' L ({ frames := 2, cells := 0, slots := 0, locals := 24 } : Room).cells ({ frames := 2, cells := 0, slots := 0, locals := 24 } : Room).slots) := by
  refine MetFree.of_bodySF (plainFor_of_name pn_1) hisR ?_
  intro p e s m args below meth c s₁ Bd hml0 hP hK
  obtain ⟨rfl, hZ, hh⟩ := hP
  have hx := Bd.exec
  have hby := Bd.bytes
  have hml : c.maxLocals = 6 := hml0
  have hown : s.vm.findClass "com/example/nuthatch/nuthatch/p2p/yamux/YamuxFrame" = some m.cls := findClass_of_methodNamed Bd.named
  have hnm := (name_of_methodNamed Bd.named Bd.method).1
  have X0 : Stand p l e ({ frames := 2, cells := 0, slots := 0, locals := 24 } : Room) s m #[(.ref a1), (.int p2), (.int p3), (.int p4), (.long q5)] below meth c s₁ [] 0 0 := Stand.of_body Bd
  have e0 : s₁.heap = h0 := by rw [← hh, Bd.state]; rfl
  have N0 := Fr.nil n0
  show Go p e below (PP s below (Q1 Z a1 p2 p3 p4 q5 u1 u2 u3 u4 h0 n0) ({ frames := 2, cells := 0, slots := 0, locals := 24 } : Room).cells ({ frames := 2, cells := 0, slots := 0, locals := 24 } : Room).slots) (s₁.setTop (entryFrame m #[(.ref a1), (.int p2), (.int p3), (.int p4), (.long q5)] 6))
  refine go (fun _ k => castTop (ef_rm1 m a1 p2 p3 p4 q5) k) ?_
  show Go p e below _ (s₁.setTop (mkF m 0 #[.val (.ref a1), .val (.int p2), .val (.int p3), .val (.int p4), .val (.long q5), .second] []))
  refine go (fun _ k => XS.aloadN X0.here hx rfl (hb hby d1_0) rfl rfl  k) ?_
  show Go p e below _ (s₁.setTop (mkF m 1 #[.val (.ref a1), .val (.int p2), .val (.int p3), .val (.int p4), .val (.long q5), .second] [(.ref a1)]))
  obtain ⟨_, _, ⟨T1, L1, k1, n1⟩, -, X1, ⟨Lc1, hQ1, l1, y1, z1⟩, st1⟩ := X0.specialBack hx (y := (⟨"java/lang/Record", "<init>", "()V"⟩ : MethodName)) rfl hown (mvT hZ (hw _ (List.mem_of_getElem? (i := 6) rfl))) (mvT hZ (hw _ (List.mem_of_getElem? (i := 7) rfl))) (mvT hZ (hw _ (List.mem_of_getElem? (i := 10) rfl))) (by decide) (backOf (W := 0) (rm2 l Z a0 hw [] a1 h0 n0 (Nat.le_trans Z0 (Keep.refl h0 [a1]).1) ) hZ (hw _ (List.mem_of_getElem? (i := 10) rfl)) (hw _ (List.mem_of_getElem? (i := 9) rfl)) (by decide) (by decide)) (g := (mkF m 1 #[.val (.ref a1), .val (.int p2), .val (.int p3), .val (.int p4), .val (.long q5), .second] [(.ref a1)])) rfl (by rw [hml]; rfl) (Steps.refl _) (a := a1) (argsL := []) (rest := []) (lenOf pd_0 rfl) rfl (by show 2 * 0 + _ ≤ _; exact Nat.le_of_eq rfl) (hb hby d1_1) (fun _ _ => ⟨rfl, e0, (by decide : 0 + 0 ≤ _), (by decide : 0 + 0 ≤ _)⟩)
  dsimp only [Pt.U, Pt.locs, Pt.cells, Pt.slots] at X1 l1 y1 z1 st1 hQ1
  subst l1 y1 z1
  obtain ⟨rfl, N1q, e1⟩ := hQ1
  have N1 := Fr.app N0 N1q
  refine go (fun _ k => st1.trans k) ?_
  show Go p e below _ (T1.setTop (mkF m 4 #[.val (.ref a1), .val (.int p2), .val (.int p3), .val (.int p4), .val (.long q5), .second] []))
  refine go (fun _ k => XS.aloadN X1.here hx rfl (hb hby d1_4) rfl rfl  k) ?_
  show Go p e below _ (T1.setTop (mkF m 5 #[.val (.ref a1), .val (.int p2), .val (.int p3), .val (.int p4), .val (.long q5), .second] [(.ref a1)]))
  refine go (fun _ k => XS.iloadN X1.here hx rfl (hb hby d1_5) rfl  k) ?_
  show Go p e below _ (T1.setTop (mkF m 6 #[.val (.ref a1), .val (.int p2), .val (.int p3), .val (.int p4), .val (.long q5), .second] [(.int p2), (.ref a1)]))
  obtain ⟨T2, h2, X2, e2, W2, st2⟩ := putF X1 hx hZ hown (host := "") (Or.inl (hw _ (List.mem_of_getElem? (i := 14) rfl))) Via.refl e1 F_type_a1 E_a1 (Or.inr ⟨(hw _ (List.mem_of_getElem? (i := 15) rfl)), rfl, hnm⟩) (hw _ (List.mem_of_getElem? (i := 1) rfl)) (ty := .int) (by decide) rfl rfl (g := (mkF m 6 #[.val (.ref a1), .val (.int p2), .val (.int p3), .val (.int p4), .val (.long q5), .second] [(.int p2), (.ref a1)])) rfl rfl (hb hby d1_6)
  have Fw2 := F_type_a1.same W2
  have N2 := Fr.snoc X2 N1 g_a1
  refine go st2 ?_
  show Go p e below _ (T2.setTop (mkF m 9 #[.val (.ref a1), .val (.int p2), .val (.int p3), .val (.int p4), .val (.long q5), .second] []))
  refine go (fun _ k => XS.aloadN X2.here hx rfl (hb hby d1_9) rfl rfl  k) ?_
  show Go p e below _ (T2.setTop (mkF m 10 #[.val (.ref a1), .val (.int p2), .val (.int p3), .val (.int p4), .val (.long q5), .second] [(.ref a1)]))
  refine go (fun _ k => XS.iloadN X2.here hx rfl (hb hby d1_10) rfl  k) ?_
  show Go p e below _ (T2.setTop (mkF m 11 #[.val (.ref a1), .val (.int p2), .val (.int p3), .val (.int p4), .val (.long q5), .second] [(.int p3), (.ref a1)]))
  have f3 := (F_flags_a1.other W2 (Or.inr (slot_ne (Or.inr (hw _ (List.mem_of_getElem? (i := 17) rfl))) (Or.inr (hw _ (List.mem_of_getElem? (i := 15) rfl))) (by decide) (t := .int) (t' := .int) (by decide) (by decide))))
  obtain ⟨T4, h4, X4, e4, W4, st4⟩ := putF X2 hx hZ hown (host := "") (Or.inl (hw _ (List.mem_of_getElem? (i := 16) rfl))) Via.refl e2 f3 (E_a1.wr W2) (Or.inr ⟨(hw _ (List.mem_of_getElem? (i := 17) rfl)), rfl, hnm⟩) (hw _ (List.mem_of_getElem? (i := 1) rfl)) (ty := .int) (by decide) rfl rfl (g := (mkF m 11 #[.val (.ref a1), .val (.int p2), .val (.int p3), .val (.int p4), .val (.long q5), .second] [(.int p3), (.ref a1)])) rfl rfl (hb hby d1_11)
  have Fw4 := f3.same W4
  have N4 := Fr.snoc X4 N2 g_a1
  refine go st4 ?_
  show Go p e below _ (T4.setTop (mkF m 14 #[.val (.ref a1), .val (.int p2), .val (.int p3), .val (.int p4), .val (.long q5), .second] []))
  refine go (fun _ k => XS.aloadN X4.here hx rfl (hb hby d1_14) rfl rfl  k) ?_
  show Go p e below _ (T4.setTop (mkF m 15 #[.val (.ref a1), .val (.int p2), .val (.int p3), .val (.int p4), .val (.long q5), .second] [(.ref a1)]))
  refine go (fun _ k => XS.iloadN X4.here hx rfl (hb hby d1_15) rfl  k) ?_
  show Go p e below _ (T4.setTop (mkF m 16 #[.val (.ref a1), .val (.int p2), .val (.int p3), .val (.int p4), .val (.long q5), .second] [(.int p4), (.ref a1)]))
  have f5 := ((F_streamId_a1.other W2 (Or.inr (slot_ne (Or.inr (hw _ (List.mem_of_getElem? (i := 19) rfl))) (Or.inr (hw _ (List.mem_of_getElem? (i := 15) rfl))) (by decide) (t := .int) (t' := .int) (by decide) (by decide)))).other W4 (Or.inr (slot_ne (Or.inr (hw _ (List.mem_of_getElem? (i := 19) rfl))) (Or.inr (hw _ (List.mem_of_getElem? (i := 17) rfl))) (by decide) (t := .int) (t' := .int) (by decide) (by decide))))
  obtain ⟨T6, h6, X6, e6, W6, st6⟩ := putF X4 hx hZ hown (host := "") (Or.inl (hw _ (List.mem_of_getElem? (i := 18) rfl))) Via.refl e4 f5 ((E_a1.wr W2).wr W4) (Or.inr ⟨(hw _ (List.mem_of_getElem? (i := 19) rfl)), rfl, hnm⟩) (hw _ (List.mem_of_getElem? (i := 1) rfl)) (ty := .int) (by decide) rfl rfl (g := (mkF m 16 #[.val (.ref a1), .val (.int p2), .val (.int p3), .val (.int p4), .val (.long q5), .second] [(.int p4), (.ref a1)])) rfl rfl (hb hby d1_16)
  have Fw6 := f5.same W6
  have N6 := Fr.snoc X6 N4 g_a1
  refine go st6 ?_
  show Go p e below _ (T6.setTop (mkF m 19 #[.val (.ref a1), .val (.int p2), .val (.int p3), .val (.int p4), .val (.long q5), .second] []))
  refine go (fun _ k => XS.aloadN X6.here hx rfl (hb hby d1_19) rfl rfl  k) ?_
  show Go p e below _ (T6.setTop (mkF m 20 #[.val (.ref a1), .val (.int p2), .val (.int p3), .val (.int p4), .val (.long q5), .second] [(.ref a1)]))
  refine go (fun _ k => XS.lload X6.here hx rfl (hb hby d1_20) rfl  k) ?_
  show Go p e below _ (T6.setTop (mkF m 22 #[.val (.ref a1), .val (.int p2), .val (.int p3), .val (.int p4), .val (.long q5), .second] [(.long q5), (.ref a1)]))
  have f7 := (((F_length_a1.other W2 (Or.inr (slot_ne (Or.inr (hw _ (List.mem_of_getElem? (i := 21) rfl))) (Or.inr (hw _ (List.mem_of_getElem? (i := 15) rfl))) (by decide) (t := .long) (t' := .int) (by decide) (by decide)))).other W4 (Or.inr (slot_ne (Or.inr (hw _ (List.mem_of_getElem? (i := 21) rfl))) (Or.inr (hw _ (List.mem_of_getElem? (i := 17) rfl))) (by decide) (t := .long) (t' := .int) (by decide) (by decide)))).other W6 (Or.inr (slot_ne (Or.inr (hw _ (List.mem_of_getElem? (i := 21) rfl))) (Or.inr (hw _ (List.mem_of_getElem? (i := 19) rfl))) (by decide) (t := .long) (t' := .int) (by decide) (by decide))))
  obtain ⟨T8, h8, X8, e8, W8, st8⟩ := putF X6 hx hZ hown (host := "") (Or.inl (hw _ (List.mem_of_getElem? (i := 20) rfl))) Via.refl e6 f7 (((E_a1.wr W2).wr W4).wr W6) (Or.inr ⟨(hw _ (List.mem_of_getElem? (i := 21) rfl)), rfl, hnm⟩) (hw _ (List.mem_of_getElem? (i := 1) rfl)) (ty := .long) (by decide) rfl rfl (g := (mkF m 22 #[.val (.ref a1), .val (.int p2), .val (.int p3), .val (.int p4), .val (.long q5), .second] [(.long q5), (.ref a1)])) rfl rfl (hb hby d1_22)
  have Fw8 := f7.same W8
  have N8 := Fr.snoc X8 N6 g_a1
  refine go st8 ?_
  show Go p e below _ (T8.setTop (mkF m 25 #[.val (.ref a1), .val (.int p2), .val (.int p3), .val (.int p4), .val (.long q5), .second] []))
  obtain ⟨fs, hr, hrun, hended, hW, hsame⟩ := X8.leave (v := none) (fun _ => rfl)
  have K9 : Keep h0 h8 [a1] := (((((Keep.refl h0 [a1]).wr W2 (Or.inl (List.mem_of_getElem? (i := 0) rfl))).wr W4 (Or.inl (List.mem_of_getElem? (i := 0) rfl))).wr W6 (Or.inl (List.mem_of_getElem? (i := 0) rfl))).wr W8 (Or.inl (List.mem_of_getElem? (i := 0) rfl)))
  have f10 := ((Fw4.other W6 (Or.inr (slot_ne (Or.inr (hw _ (List.mem_of_getElem? (i := 17) rfl))) (Or.inr (hw _ (List.mem_of_getElem? (i := 19) rfl))) (by decide) (t := .int) (t' := .int) (by decide) (by decide)))).other W8 (Or.inr (slot_ne (Or.inr (hw _ (List.mem_of_getElem? (i := 17) rfl))) (Or.inr (hw _ (List.mem_of_getElem? (i := 21) rfl))) (by decide) (t := .int) (t' := .long) (by decide) (by decide))))
  refine leaf (T := T8) ⟨fs, X8.returnOut hx Bd.returns (hb hby d1_25) hr, hrun, hended, hW, hsame⟩ ?_ (by decide) (by decide)
  show Q1 Z a1 p2 p3 p4 q5 u1 u2 u3 u4 h0 n0 _ T8.heap _
  rw [e8]
  exact ⟨rfl, N8, K9, ((((E_a1.wr W2).wr W4).wr W6).wr W8), f10⟩
theorem d4_0 : decode prog_28_method_4_code 0 = .ok (.aload_n 0, 1) := by decide +kernel
theorem d4_1 : decode prog_28_method_4_code 1 = .ok (.getfield 13, 3) := by decide +kernel
theorem d4_4 : decode prog_28_method_4_code 4 = .ok (.iload_n 1, 1) := by decide +kernel
theorem d4_5 : decode prog_28_method_4_code 5 = .ok (.iand, 1) := by decide +kernel
theorem d4_6 : decode prog_28_method_4_code 6 = .ok (.ifCond .eq 7, 3) := by decide +kernel
theorem d4_9 : decode prog_28_method_4_code 9 = .ok (.iconst 1, 1) := by decide +kernel
theorem d4_10 : decode prog_28_method_4_code 10 = .ok (.goto 4, 3) := by decide +kernel
theorem d4_13 : decode prog_28_method_4_code 13 = .ok (.iconst 0, 1) := by decide +kernel
theorem d4_14 : decode prog_28_method_4_code 14 = .ok (.ireturn, 1) := by decide +kernel
theorem ef_rm4 (m : MethodId) (a1 : Addr) (p2 : Int32) : entryFrame m #[(.ref a1), (.int p2)] 2 = mkF m 0 #[.val (.ref a1), .val (.int p2)] [] := by first | (simp [entryFrame, mkF, argsToLocals, Value.category]; done) | rfl
def Q4 (Z : State) (a1 : Addr) (p2 : Int32) (w1 : Int32) (h0 : Heap) (n0 : Nat) (v : Option Value) (h : Heap) (L : List Loc) : Prop := v = some (.int (bz (¬ ((w1 &&& p2) = (0 : Int32))))) ∧ Fr n0 L ∧ h = h0
set_option maxRecDepth 65536 in
set_option maxHeartbeats 40000000 in
theorem rm4 (l : Launch) (Z : State) (a0 : Array Value) (hw : ∀ d ∈ tables_1, d.before a0 Z = true) (ws : List Jvm.Cond) (a1 : Addr) (p2 : Int32) (w1 : Int32) (h0 : Heap) (n0 : Nat) (Z0 : n0 ≤ h0.size) (E_a1 : Exa Z h0 a1 "com/example/nuthatch/nuthatch/p2p/yamux/YamuxFrame") (F_flags_a1 : Fld Z h0 a1 "com/example/nuthatch/nuthatch/p2p/yamux/YamuxFrame" "flags" "I" (.int w1)) :
    MetFree l (⟨"com/example/nuthatch/nuthatch/p2p/yamux/YamuxFrame", "has", "(I)Z"⟩ : MethodName) (head1 (Jvm.Cond.code (⟨"com/example/nuthatch/nuthatch/p2p/yamux/YamuxFrame", "has", "(I)Z"⟩ : MethodName) prog_28_method_4_code 2 (some .boolean) :: ws) ({ frames := 0, cells := 0, slots := 0, locals := 0 } : Room)) (fun a U => a = #[(.ref a1), (.int p2)] ∧ Z.Warmed39 U.vm ∧ U.heap = h0) (fun _ _ _ _ _ => True) (fun _ U o U' => ∃ v L, o = .returned v ∧ Q4 Z a1 p2 w1 h0 n0 v U'.heap L ∧ FrameEnd U o U' L ({ frames := 0, cells := 0, slots := 0, locals := 0 } : Room).cells ({ frames := 0, cells := 0, slots := 0, locals := 0 } : Room).slots) := by
  refine MetFree.of_bodySF (plainFor_of_name pn_1) hisR ?_
  intro p e s m args below meth c s₁ Bd hml0 hP hK
  obtain ⟨rfl, hZ, hh⟩ := hP
  have hx := Bd.exec
  have hby := Bd.bytes
  have hml : c.maxLocals = 2 := hml0
  have hown : s.vm.findClass "com/example/nuthatch/nuthatch/p2p/yamux/YamuxFrame" = some m.cls := findClass_of_methodNamed Bd.named
  have hnm := (name_of_methodNamed Bd.named Bd.method).1
  have X0 : Stand p l e ({ frames := 0, cells := 0, slots := 0, locals := 0 } : Room) s m #[(.ref a1), (.int p2)] below meth c s₁ [] 0 0 := Stand.of_body Bd
  have e0 : s₁.heap = h0 := by rw [← hh, Bd.state]; rfl
  have N0 := Fr.nil n0
  show Go p e below (PP s below (Q4 Z a1 p2 w1 h0 n0) ({ frames := 0, cells := 0, slots := 0, locals := 0 } : Room).cells ({ frames := 0, cells := 0, slots := 0, locals := 0 } : Room).slots) (s₁.setTop (entryFrame m #[(.ref a1), (.int p2)] 2))
  refine go (fun _ k => castTop (ef_rm4 m a1 p2) k) ?_
  show Go p e below _ (s₁.setTop (mkF m 0 #[.val (.ref a1), .val (.int p2)] []))
  refine go (fun _ k => XS.aloadN X0.here hx rfl (hb hby d4_0) rfl rfl  k) ?_
  show Go p e below _ (s₁.setTop (mkF m 1 #[.val (.ref a1), .val (.int p2)] [(.ref a1)]))
  obtain ⟨T1, X1, e1, st1⟩ := getF X0 hx hZ hown (host := "") (Or.inl (hw _ (List.mem_of_getElem? (i := 16) rfl))) Via.refl e0 F_flags_a1 (g := (mkF m 1 #[.val (.ref a1), .val (.int p2)] [(.ref a1)])) rfl rfl (hb hby d4_1)
  refine go st1 ?_
  show Go p e below _ (T1.setTop (mkF m 4 #[.val (.ref a1), .val (.int p2)] [(.int w1)]))
  refine go (fun _ k => XS.iloadN X1.here hx rfl (hb hby d4_4) rfl  k) ?_
  show Go p e below _ (T1.setTop (mkF m 5 #[.val (.ref a1), .val (.int p2)] [(.int p2), (.int w1)]))
  refine go (fun _ k => XS.iand X1.here hx rfl (hb hby d4_5) rfl k) ?_
  show Go p e below _ (T1.setTop (mkF m 6 #[.val (.ref a1), .val (.int p2)] [(.int (w1 &&& p2))]))
  by_cases hc6_1 : (w1 &&& p2) = (0 : Int32)
  · skip
    refine go (fun _ k => XS.ifYes X1.here hx rfl (pc0 := 6) (pc' := 13) rfl (hb hby d4_6) rfl ((if0 _ _).trans (teq hc6_1).1) (by decide) (by decide) k) ?_
    show Go p e below _ (T1.setTop (mkF m 13 #[.val (.ref a1), .val (.int p2)] []))
    refine go (fun _ k => XS.iconst X1.here hx rfl (hb hby d4_13) k) ?_
    show Go p e below _ (T1.setTop (mkF m 14 #[.val (.ref a1), .val (.int p2)] [(.int (0 : Int32))]))
    obtain ⟨fs, hr, hrun, hended, hW, hsame⟩ := X1.leave (v := some (.int (0 : Int32))) (fun h => by rw [Bd.returns] at h; cases h)
    refine leaf (T := T1) ⟨fs, retN X1 hx (t := .boolean) Bd.returns (by simp) (hb hby d4_14) hr, hrun, hended, hW, hsame⟩ ?_ (by decide) (by decide)
    show Q4 Z a1 p2 w1 h0 n0 _ T1.heap _
    rw [e1]
    exact ⟨(by rw [bz_f (fun q => q hc6_1)]), N0, rfl⟩
  · skip
    refine go (fun _ k => XS.ifNo X1.here hx rfl (hb hby d4_6) rfl ((if0 _ _).trans (feq hc6_1).1) k) ?_
    show Go p e below _ (T1.setTop (mkF m 9 #[.val (.ref a1), .val (.int p2)] []))
    refine go (fun _ k => XS.iconst X1.here hx rfl (hb hby d4_9) k) ?_
    show Go p e below _ (T1.setTop (mkF m 10 #[.val (.ref a1), .val (.int p2)] [(.int (1 : Int32))]))
    refine go (fun _ k => XS.goto X1.here hx rfl (pc0 := 10) (pc' := 14) rfl (hb hby d4_10) (by decide) (by decide) k) ?_
    show Go p e below _ (T1.setTop (mkF m 14 #[.val (.ref a1), .val (.int p2)] [(.int (1 : Int32))]))
    obtain ⟨fs, hr, hrun, hended, hW, hsame⟩ := X1.leave (v := some (.int (1 : Int32))) (fun h => by rw [Bd.returns] at h; cases h)
    refine leaf (T := T1) ⟨fs, retN X1 hx (t := .boolean) Bd.returns (by simp) (hb hby d4_14) hr, hrun, hended, hW, hsame⟩ ?_ (by decide) (by decide)
    show Q4 Z a1 p2 w1 h0 n0 _ T1.heap _
    rw [e1]
    exact ⟨(by rw [bz_t hc6_1]), N0, rfl⟩
theorem pd_1 : parseMethodDescriptor "(IIIJ)V" = some ⟨[.int, .int, .int, .long], none⟩ := by decide +kernel
theorem pd_2 : parseMethodDescriptor "(I)Z" = some ⟨[.int], some .boolean⟩ := by decide +kernel
theorem pn_2 : plainName "com/example/nuthatch/nuthatch/p2p/yamux/YamuxFrameHasPinLaw" = true := by first | (simp [plainName, overriddenIn]; done) | decide +kernel
theorem ef_rm0 (m : MethodId) (p1 : Int32) (p2 : Int32) (p3 : Int32) (p4 : Int32) (p5 : Int32) (q6 : Int64) : entryFrame m #[(.int p1), (.int p2), (.int p3), (.int p4), (.int p5), (.long q6)] maxLocals = mkF m 0 #[.val (.int p1), .val (.int p2), .val (.int p3), .val (.int p4), .val (.int p5), .val (.long q6), .second, .unset, .unset, .unset, .unset, .unset, .unset, .unset, .unset, .unset, .unset, .unset] [] := by first | (simp [entryFrame, mkF, argsToLocals, Value.category, maxLocals]; done) | rfl
def Q0 (Z : State) (p1 : Int32) (p2 : Int32) (p3 : Int32) (p4 : Int32) (p5 : Int32) (q6 : Int64) (h0 : Heap) (n0 : Nat) (v : Option Value) (h : Heap) (L : List Loc) : Prop := v = some (.int (1 : Int32)) ∧ Fr n0 L
set_option maxRecDepth 65536 in
set_option maxHeartbeats 40000000 in
theorem rm0 (l : Launch) (Z : State) (a0 : Array Value) (hw : ∀ d ∈ tables_1, d.before a0 Z = true) (ws : List Jvm.Cond) (p1 : Int32) (p2 : Int32) (p3 : Int32) (p4 : Int32) (p5 : Int32) (q6 : Int64) (h0 : Heap) (n0 : Nat) (Z0 : n0 ≤ h0.size) :
    MetFree l x (head1 (Jvm.Cond.code x code maxLocals ret :: ws) room_1) (fun a U => a = #[(.int p1), (.int p2), (.int p3), (.int p4), (.int p5), (.long q6)] ∧ Z.Warmed39 U.vm ∧ U.heap = h0) (fun _ _ _ _ _ => True) (fun _ U o U' => ∃ v L, o = .returned v ∧ Q0 Z p1 p2 p3 p4 p5 q6 h0 n0 v U'.heap L ∧ FrameEnd U o U' L room_1.cells room_1.slots) := by
  refine MetFree.of_bodySF (plainFor_of_name pn_2) hisR ?_
  intro p e s m args below meth c s₁ Bd hml0 hP hK
  obtain ⟨rfl, hZ, hh⟩ := hP
  have hx := Bd.exec
  have hby := Bd.bytes
  have hml : c.maxLocals = 18 := hml0
  have hown : s.vm.findClass "com/example/nuthatch/nuthatch/p2p/yamux/YamuxFrameHasPinLaw" = some m.cls := findClass_of_methodNamed Bd.named
  have hnm := (name_of_methodNamed Bd.named Bd.method).1
  have X0 : Stand p l e room_1 s m #[(.int p1), (.int p2), (.int p3), (.int p4), (.int p5), (.long q6)] below meth c s₁ [] 0 0 := Stand.of_body Bd
  have e0 : s₁.heap = h0 := by rw [← hh, Bd.state]; rfl
  have N0 := Fr.nil n0
  show Go p e below (PP s below (Q0 Z p1 p2 p3 p4 p5 q6 h0 n0) room_1.cells room_1.slots) (s₁.setTop (entryFrame m #[(.int p1), (.int p2), (.int p3), (.int p4), (.int p5), (.long q6)] maxLocals))
  refine go (fun _ k => castTop (ef_rm0 m p1 p2 p3 p4 p5 q6) k) ?_
  show Go p e below _ (s₁.setTop (mkF m 0 #[.val (.int p1), .val (.int p2), .val (.int p3), .val (.int p4), .val (.int p5), .val (.long q6), .second, .unset, .unset, .unset, .unset, .unset, .unset, .unset, .unset, .unset, .unset, .unset] []))
  obtain ⟨T1, h1, X1, e1, E1, A1, D1, -, st1⟩ := newO X0 hx hZ hown (hw _ (List.mem_of_getElem? (i := 0) rfl)) (hw _ (List.mem_of_getElem? (i := 1) rfl)) (hw _ (List.mem_of_getElem? (i := 2) rfl)) e0 (g := (mkF m 0 #[.val (.int p1), .val (.int p2), .val (.int p3), .val (.int p4), .val (.int p5), .val (.long q6), .second, .unset, .unset, .unset, .unset, .unset, .unset, .unset, .unset, .unset, .unset, .unset] [])) rfl (hb hby at_0) (by decide) (by decide)
  obtain ⟨b1, g1⟩ : ∃ z, z = h0.size := ⟨_, rfl⟩
  rw [← g1] at A1 D1 st1
  have sz_b1 : h0.size ≤ b1 := Nat.le_trans (Keep.refl h0 []).1 (Nat.le_of_eq g1.symm)
  have g_b1 : n0 ≤ b1 := Nat.le_trans Z0 sz_b1
  have F_type_b1 : Fld Z h1 b1 "com/example/nuthatch/nuthatch/p2p/yamux/YamuxFrame" "type" "I" (.int (0 : Int32)) := D1 (Or.inr (hw _ (List.mem_of_getElem? (i := 15) rfl))) (ty := .int) (by decide)
  have F_flags_b1 : Fld Z h1 b1 "com/example/nuthatch/nuthatch/p2p/yamux/YamuxFrame" "flags" "I" (.int (0 : Int32)) := D1 (Or.inr (hw _ (List.mem_of_getElem? (i := 17) rfl))) (ty := .int) (by decide)
  have F_streamId_b1 : Fld Z h1 b1 "com/example/nuthatch/nuthatch/p2p/yamux/YamuxFrame" "streamId" "I" (.int (0 : Int32)) := D1 (Or.inr (hw _ (List.mem_of_getElem? (i := 19) rfl))) (ty := .int) (by decide)
  have F_length_b1 : Fld Z h1 b1 "com/example/nuthatch/nuthatch/p2p/yamux/YamuxFrame" "length" "J" (.long (0 : Int64)) := D1 (Or.inr (hw _ (List.mem_of_getElem? (i := 21) rfl))) (ty := .long) (by decide)
  refine go st1 ?_
  show Go p e below _ (T1.setTop (mkF m 3 #[.val (.int p1), .val (.int p2), .val (.int p3), .val (.int p4), .val (.int p5), .val (.long q6), .second, .unset, .unset, .unset, .unset, .unset, .unset, .unset, .unset, .unset, .unset, .unset] [(.ref b1)]))
  refine go (fun _ k => XS.dup X1.here hx rfl (hb hby at_3) rfl rfl k) ?_
  show Go p e below _ (T1.setTop (mkF m 4 #[.val (.int p1), .val (.int p2), .val (.int p3), .val (.int p4), .val (.int p5), .val (.long q6), .second, .unset, .unset, .unset, .unset, .unset, .unset, .unset, .unset, .unset, .unset, .unset] [(.ref b1), (.ref b1)]))
  refine go (fun _ k => XS.iloadN X1.here hx rfl (hb hby at_4) rfl  k) ?_
  show Go p e below _ (T1.setTop (mkF m 5 #[.val (.int p1), .val (.int p2), .val (.int p3), .val (.int p4), .val (.int p5), .val (.long q6), .second, .unset, .unset, .unset, .unset, .unset, .unset, .unset, .unset, .unset, .unset, .unset] [(.int p4), (.ref b1), (.ref b1)]))
  refine go (fun _ k => XS.iloadN X1.here hx rfl (hb hby at_5) rfl  k) ?_
  show Go p e below _ (T1.setTop (mkF m 6 #[.val (.int p1), .val (.int p2), .val (.int p3), .val (.int p4), .val (.int p5), .val (.long q6), .second, .unset, .unset, .unset, .unset, .unset, .unset, .unset, .unset, .unset, .unset, .unset] [(.int p1), (.int p4), (.ref b1), (.ref b1)]))
  refine go (fun _ k => XS.iload X1.here hx rfl (hb hby at_6) rfl  k) ?_
  show Go p e below _ (T1.setTop (mkF m 8 #[.val (.int p1), .val (.int p2), .val (.int p3), .val (.int p4), .val (.int p5), .val (.long q6), .second, .unset, .unset, .unset, .unset, .unset, .unset, .unset, .unset, .unset, .unset, .unset] [(.int p5), (.int p1), (.int p4), (.ref b1), (.ref b1)]))
  refine go (fun _ k => XS.lload X1.here hx rfl (hb hby at_8) rfl  k) ?_
  show Go p e below _ (T1.setTop (mkF m 10 #[.val (.int p1), .val (.int p2), .val (.int p3), .val (.int p4), .val (.int p5), .val (.long q6), .second, .unset, .unset, .unset, .unset, .unset, .unset, .unset, .unset, .unset, .unset, .unset] [(.long q6), (.int p5), (.int p1), (.int p4), (.ref b1), (.ref b1)]))
  have K3 : Keep h0 h1 [] := ((Keep.refl h0 []).ext E1)
  obtain ⟨_, _, ⟨T2, L2, k2, n2⟩, -, X2, ⟨Lc2, hQ2, l2, y2, z2⟩, st2⟩ := X1.specialBack hx (y := (⟨"com/example/nuthatch/nuthatch/p2p/yamux/YamuxFrame", "<init>", "(IIIJ)V"⟩ : MethodName)) rfl hown (mvT hZ (hw _ (List.mem_of_getElem? (i := 3) rfl))) (mvT hZ (hw _ (List.mem_of_getElem? (i := 4) rfl))) (mvT hZ (hw _ (List.mem_of_getElem? (i := 5) rfl))) (by decide) (backOf (W := 1) (rm1 l Z a0 hw [] b1 p4 p1 p5 q6 (.int (0 : Int32)) (.int (0 : Int32)) (.int (0 : Int32)) (.long (0 : Int64)) h1 n0 (Nat.le_trans Z0 K3.1) A1 g_b1 F_type_b1 F_flags_b1 F_streamId_b1 F_length_b1) hZ (hw _ (List.mem_of_getElem? (i := 5) rfl)) (hw _ (List.mem_of_getElem? (i := 2) rfl)) (by decide) (by decide)) (g := (mkF m 10 #[.val (.int p1), .val (.int p2), .val (.int p3), .val (.int p4), .val (.int p5), .val (.long q6), .second, .unset, .unset, .unset, .unset, .unset, .unset, .unset, .unset, .unset, .unset, .unset] [(.long q6), (.int p5), (.int p1), (.int p4), (.ref b1), (.ref b1)])) rfl (by rw [hml]; rfl) (Steps.refl _) (a := b1) (argsL := [(.int p4), (.int p1), (.int p5), (.long q6)]) (rest := [(.ref b1)]) (lenOf pd_1 rfl) rfl (by show 2 * 0 + _ ≤ _; exact Nat.le_of_eq rfl) (hb hby at_10) (fun _ _ => ⟨rfl, e1, (by decide : 1 + 0 ≤ _), (by decide : 4 + 0 ≤ _)⟩)
  dsimp only [Pt.U, Pt.locs, Pt.cells, Pt.slots] at X2 l2 y2 z2 st2 hQ2
  subst l2 y2 z2
  obtain ⟨rfl, N2q, r2_0, r2_1, r2_2⟩ := hQ2
  have N2 := Fr.app N0 N2q
  refine go (fun _ k => st2.trans k) ?_
  show Go p e below _ (T2.setTop (mkF m 13 #[.val (.int p1), .val (.int p2), .val (.int p3), .val (.int p4), .val (.int p5), .val (.long q6), .second, .unset, .unset, .unset, .unset, .unset, .unset, .unset, .unset, .unset, .unset, .unset] [(.ref b1)]))
  refine go (fun _ k => XS.astore X2.here hx rfl (hb hby at_13) rfl rfl (l' := #[.val (.int p1), .val (.int p2), .val (.int p3), .val (.int p4), .val (.int p5), .val (.long q6), .second, .val (.ref b1), .unset, .unset, .unset, .unset, .unset, .unset, .unset, .unset, .unset, .unset]) rfl k) ?_
  show Go p e below _ (T2.setTop (mkF m 15 #[.val (.int p1), .val (.int p2), .val (.int p3), .val (.int p4), .val (.int p5), .val (.long q6), .second, .val (.ref b1), .unset, .unset, .unset, .unset, .unset, .unset, .unset, .unset, .unset, .unset] []))
  refine go (fun _ k => XS.iloadN X2.here hx rfl (hb hby at_15) rfl  k) ?_
  show Go p e below _ (T2.setTop (mkF m 16 #[.val (.int p1), .val (.int p2), .val (.int p3), .val (.int p4), .val (.int p5), .val (.long q6), .second, .val (.ref b1), .unset, .unset, .unset, .unset, .unset, .unset, .unset, .unset, .unset, .unset] [(.int p2)]))
  refine go (fun _ k => XS.bipush X2.here hx rfl (hb hby at_16) k) ?_
  show Go p e below _ (T2.setTop (mkF m 18 #[.val (.int p1), .val (.int p2), .val (.int p3), .val (.int p4), .val (.int p5), .val (.long q6), .second, .val (.ref b1), .unset, .unset, .unset, .unset, .unset, .unset, .unset, .unset, .unset, .unset] [(.int (31 : Int32)), (.int p2)]))
  refine go (fun _ k => XS.iand X2.here hx rfl (hb hby at_18) rfl k) ?_
  show Go p e below _ (T2.setTop (mkF m 19 #[.val (.int p1), .val (.int p2), .val (.int p3), .val (.int p4), .val (.int p5), .val (.long q6), .second, .val (.ref b1), .unset, .unset, .unset, .unset, .unset, .unset, .unset, .unset, .unset, .unset] [(.int (p2 &&& (31 : Int32)))]))
  refine go (fun _ k => XS.istore X2.here hx rfl (hb hby at_19) rfl (l' := #[.val (.int p1), .val (.int p2), .val (.int p3), .val (.int p4), .val (.int p5), .val (.long q6), .second, .val (.ref b1), .val (.int (p2 &&& (31 : Int32))), .unset, .unset, .unset, .unset, .unset, .unset, .unset, .unset, .unset]) rfl k) ?_
  show Go p e below _ (T2.setTop (mkF m 21 #[.val (.int p1), .val (.int p2), .val (.int p3), .val (.int p4), .val (.int p5), .val (.long q6), .second, .val (.ref b1), .val (.int (p2 &&& (31 : Int32))), .unset, .unset, .unset, .unset, .unset, .unset, .unset, .unset, .unset] []))
  refine go (fun _ k => XS.iconst X2.here hx rfl (hb hby at_21) k) ?_
  show Go p e below _ (T2.setTop (mkF m 22 #[.val (.int p1), .val (.int p2), .val (.int p3), .val (.int p4), .val (.int p5), .val (.long q6), .second, .val (.ref b1), .val (.int (p2 &&& (31 : Int32))), .unset, .unset, .unset, .unset, .unset, .unset, .unset, .unset, .unset] [(.int (1 : Int32))]))
  refine go (fun _ k => XS.iload X2.here hx rfl (hb hby at_22) rfl  k) ?_
  show Go p e below _ (T2.setTop (mkF m 24 #[.val (.int p1), .val (.int p2), .val (.int p3), .val (.int p4), .val (.int p5), .val (.long q6), .second, .val (.ref b1), .val (.int (p2 &&& (31 : Int32))), .unset, .unset, .unset, .unset, .unset, .unset, .unset, .unset, .unset] [(.int (p2 &&& (31 : Int32))), (.int (1 : Int32))]))
  refine go (fun _ k => XS.ishl X2.here hx rfl (hb hby at_24) rfl k) ?_
  show Go p e below _ (T2.setTop (mkF m 25 #[.val (.int p1), .val (.int p2), .val (.int p3), .val (.int p4), .val (.int p5), .val (.long q6), .second, .val (.ref b1), .val (.int (p2 &&& (31 : Int32))), .unset, .unset, .unset, .unset, .unset, .unset, .unset, .unset, .unset] [(.int ((1 : Int32) <<< ((p2 &&& (31 : Int32)) &&& 31)))]))
  refine go (fun _ k => XS.istore X2.here hx rfl (hb hby at_25) rfl (l' := #[.val (.int p1), .val (.int p2), .val (.int p3), .val (.int p4), .val (.int p5), .val (.long q6), .second, .val (.ref b1), .val (.int (p2 &&& (31 : Int32))), .val (.int ((1 : Int32) <<< ((p2 &&& (31 : Int32)) &&& 31))), .unset, .unset, .unset, .unset, .unset, .unset, .unset, .unset]) rfl k) ?_
  show Go p e below _ (T2.setTop (mkF m 27 #[.val (.int p1), .val (.int p2), .val (.int p3), .val (.int p4), .val (.int p5), .val (.long q6), .second, .val (.ref b1), .val (.int (p2 &&& (31 : Int32))), .val (.int ((1 : Int32) <<< ((p2 &&& (31 : Int32)) &&& 31))), .unset, .unset, .unset, .unset, .unset, .unset, .unset, .unset] []))
  refine go (fun _ k => XS.aload X2.here hx rfl (hb hby at_27) rfl rfl  k) ?_
  show Go p e below _ (T2.setTop (mkF m 29 #[.val (.int p1), .val (.int p2), .val (.int p3), .val (.int p4), .val (.int p5), .val (.long q6), .second, .val (.ref b1), .val (.int (p2 &&& (31 : Int32))), .val (.int ((1 : Int32) <<< ((p2 &&& (31 : Int32)) &&& 31))), .unset, .unset, .unset, .unset, .unset, .unset, .unset, .unset] [(.ref b1)]))
  refine go (fun _ k => XS.iloadN X2.here hx rfl (hb hby at_29) rfl  k) ?_
  show Go p e below _ (T2.setTop (mkF m 30 #[.val (.int p1), .val (.int p2), .val (.int p3), .val (.int p4), .val (.int p5), .val (.long q6), .second, .val (.ref b1), .val (.int (p2 &&& (31 : Int32))), .val (.int ((1 : Int32) <<< ((p2 &&& (31 : Int32)) &&& 31))), .unset, .unset, .unset, .unset, .unset, .unset, .unset, .unset] [(.int p2), (.ref b1)]))
  refine go (fun _ k => XS.iloadN X2.here hx rfl (hb hby at_30) rfl  k) ?_
  show Go p e below _ (T2.setTop (mkF m 31 #[.val (.int p1), .val (.int p2), .val (.int p3), .val (.int p4), .val (.int p5), .val (.long q6), .second, .val (.ref b1), .val (.int (p2 &&& (31 : Int32))), .val (.int ((1 : Int32) <<< ((p2 &&& (31 : Int32)) &&& 31))), .unset, .unset, .unset, .unset, .unset, .unset, .unset, .unset] [(.int p3), (.int p2), (.ref b1)]))
  refine go (fun _ k => XS.ior X2.here hx rfl (hb hby at_31) rfl k) ?_
  show Go p e below _ (T2.setTop (mkF m 32 #[.val (.int p1), .val (.int p2), .val (.int p3), .val (.int p4), .val (.int p5), .val (.long q6), .second, .val (.ref b1), .val (.int (p2 &&& (31 : Int32))), .val (.int ((1 : Int32) <<< ((p2 &&& (31 : Int32)) &&& 31))), .unset, .unset, .unset, .unset, .unset, .unset, .unset, .unset] [(.int (p2 ||| p3)), (.ref b1)]))
  have K5 : Keep h0 T2.heap [] := (K3.trans r2_0 (allS (Or.inr sz_b1) all0))
  obtain ⟨cq4, kq4, q4a, q4b, q4c⟩ := isOf hZ rfl r2_1
  obtain ⟨_, _, ⟨T4, L4, k4, n4⟩, -, X4, ⟨Lc4, hQ4, l4, y4, z4⟩, st4⟩ := X2.virtualBack hx (y := (⟨"com/example/nuthatch/nuthatch/p2p/yamux/YamuxFrame", "has", "(I)Z"⟩ : MethodName)) (z := (⟨"com/example/nuthatch/nuthatch/p2p/yamux/YamuxFrame", "has", "(I)Z"⟩ : MethodName)) hown (mvT hZ (hw _ (List.mem_of_getElem? (i := 22) rfl))) (mvT hZ (hw _ (List.mem_of_getElem? (i := 23) rfl))) (notFace_of_selects (args := #[]) (mvT hZ (hw _ (List.mem_of_getElem? (i := 25) rfl)))) (mvT hZ (hw _ (List.mem_of_getElem? (i := 25) rfl))) (mvT hZ (hw _ (List.mem_of_getElem? (i := 24) rfl))) (by decide) (backOf (W := 0) (rm4 l Z a0 hw [] b1 (p2 ||| p3) p1 T2.heap n0 (Nat.le_trans Z0 K5.1) r2_1 r2_2) hZ (hw _ (List.mem_of_getElem? (i := 26) rfl)) (hw _ (List.mem_of_getElem? (i := 2) rfl)) (by decide) (by decide)) q4a q4c (g := (mkF m 32 #[.val (.int p1), .val (.int p2), .val (.int p3), .val (.int p4), .val (.int p5), .val (.long q6), .second, .val (.ref b1), .val (.int (p2 &&& (31 : Int32))), .val (.int ((1 : Int32) <<< ((p2 &&& (31 : Int32)) &&& 31))), .unset, .unset, .unset, .unset, .unset, .unset, .unset, .unset] [(.int (p2 ||| p3)), (.ref b1)])) rfl (by rw [hml]; rfl) (Steps.refl _) (argsL := [(.int (p2 ||| p3))]) (rest := []) (lenOf pd_2 rfl) rfl (by show 2 * 0 + _ ≤ _; exact Nat.le_of_eq rfl) (hb hby at_32) (fun _ _ => ⟨rfl, rfl, (by decide : 1 + 0 ≤ _), (by decide : 4 + 0 ≤ _)⟩)
  dsimp only [Pt.U, Pt.locs, Pt.cells, Pt.slots] at X4 l4 y4 z4 st4 hQ4
  subst l4 y4 z4
  obtain ⟨rfl, N4q, e4⟩ := hQ4
  have N4 := Fr.app N2 N4q
  skip
  refine go (fun _ k => st4.trans k) ?_
  show Go p e below _ (T4.setTop (mkF m 35 #[.val (.int p1), .val (.int p2), .val (.int p3), .val (.int p4), .val (.int p5), .val (.long q6), .second, .val (.ref b1), .val (.int (p2 &&& (31 : Int32))), .val (.int ((1 : Int32) <<< ((p2 &&& (31 : Int32)) &&& 31))), .unset, .unset, .unset, .unset, .unset, .unset, .unset, .unset] [(.int (bz (¬ ((p1 &&& (p2 ||| p3)) = (0 : Int32)))))]))
  refine go (fun _ k => XS.istore X4.here hx rfl (hb hby at_35) rfl (l' := #[.val (.int p1), .val (.int p2), .val (.int p3), .val (.int p4), .val (.int p5), .val (.long q6), .second, .val (.ref b1), .val (.int (p2 &&& (31 : Int32))), .val (.int ((1 : Int32) <<< ((p2 &&& (31 : Int32)) &&& 31))), .val (.int (bz (¬ ((p1 &&& (p2 ||| p3)) = (0 : Int32))))), .unset, .unset, .unset, .unset, .unset, .unset, .unset]) rfl k) ?_
  show Go p e below _ (T4.setTop (mkF m 37 #[.val (.int p1), .val (.int p2), .val (.int p3), .val (.int p4), .val (.int p5), .val (.long q6), .second, .val (.ref b1), .val (.int (p2 &&& (31 : Int32))), .val (.int ((1 : Int32) <<< ((p2 &&& (31 : Int32)) &&& 31))), .val (.int (bz (¬ ((p1 &&& (p2 ||| p3)) = (0 : Int32))))), .unset, .unset, .unset, .unset, .unset, .unset, .unset] []))
  refine go (fun _ k => XS.aload X4.here hx rfl (hb hby at_37) rfl rfl  k) ?_
  show Go p e below _ (T4.setTop (mkF m 39 #[.val (.int p1), .val (.int p2), .val (.int p3), .val (.int p4), .val (.int p5), .val (.long q6), .second, .val (.ref b1), .val (.int (p2 &&& (31 : Int32))), .val (.int ((1 : Int32) <<< ((p2 &&& (31 : Int32)) &&& 31))), .val (.int (bz (¬ ((p1 &&& (p2 ||| p3)) = (0 : Int32))))), .unset, .unset, .unset, .unset, .unset, .unset, .unset] [(.ref b1)]))
  refine go (fun _ k => XS.iloadN X4.here hx rfl (hb hby at_39) rfl  k) ?_
  show Go p e below _ (T4.setTop (mkF m 40 #[.val (.int p1), .val (.int p2), .val (.int p3), .val (.int p4), .val (.int p5), .val (.long q6), .second, .val (.ref b1), .val (.int (p2 &&& (31 : Int32))), .val (.int ((1 : Int32) <<< ((p2 &&& (31 : Int32)) &&& 31))), .val (.int (bz (¬ ((p1 &&& (p2 ||| p3)) = (0 : Int32))))), .unset, .unset, .unset, .unset, .unset, .unset, .unset] [(.int p2), (.ref b1)]))
  obtain ⟨cq6, kq6, q6a, q6b, q6c⟩ := isOf hZ e4 r2_1
  obtain ⟨_, _, ⟨T6, L6, k6, n6⟩, -, X6, ⟨Lc6, hQ6, l6, y6, z6⟩, st6⟩ := X4.virtualBack hx (y := (⟨"com/example/nuthatch/nuthatch/p2p/yamux/YamuxFrame", "has", "(I)Z"⟩ : MethodName)) (z := (⟨"com/example/nuthatch/nuthatch/p2p/yamux/YamuxFrame", "has", "(I)Z"⟩ : MethodName)) hown (mvT hZ (hw _ (List.mem_of_getElem? (i := 22) rfl))) (mvT hZ (hw _ (List.mem_of_getElem? (i := 23) rfl))) (notFace_of_selects (args := #[]) (mvT hZ (hw _ (List.mem_of_getElem? (i := 25) rfl)))) (mvT hZ (hw _ (List.mem_of_getElem? (i := 25) rfl))) (mvT hZ (hw _ (List.mem_of_getElem? (i := 24) rfl))) (by decide) (backOf (W := 0) (rm4 l Z a0 hw [] b1 p2 p1 T2.heap n0 (Nat.le_trans Z0 K5.1) r2_1 r2_2) hZ (hw _ (List.mem_of_getElem? (i := 26) rfl)) (hw _ (List.mem_of_getElem? (i := 2) rfl)) (by decide) (by decide)) q6a q6c (g := (mkF m 40 #[.val (.int p1), .val (.int p2), .val (.int p3), .val (.int p4), .val (.int p5), .val (.long q6), .second, .val (.ref b1), .val (.int (p2 &&& (31 : Int32))), .val (.int ((1 : Int32) <<< ((p2 &&& (31 : Int32)) &&& 31))), .val (.int (bz (¬ ((p1 &&& (p2 ||| p3)) = (0 : Int32))))), .unset, .unset, .unset, .unset, .unset, .unset, .unset] [(.int p2), (.ref b1)])) rfl (by rw [hml]; rfl) (Steps.refl _) (argsL := [(.int p2)]) (rest := []) (lenOf pd_2 rfl) rfl (by show 2 * 0 + _ ≤ _; exact Nat.le_of_eq rfl) (hb hby at_40) (fun _ _ => ⟨rfl, e4, (by decide : 1 + 0 ≤ _), (by decide : 4 + 0 ≤ _)⟩)
  dsimp only [Pt.U, Pt.locs, Pt.cells, Pt.slots] at X6 l6 y6 z6 st6 hQ6
  subst l6 y6 z6
  obtain ⟨rfl, N6q, e6⟩ := hQ6
  have N6 := Fr.app N4 N6q
  skip
  refine go (fun _ k => st6.trans k) ?_
  show Go p e below _ (T6.setTop (mkF m 43 #[.val (.int p1), .val (.int p2), .val (.int p3), .val (.int p4), .val (.int p5), .val (.long q6), .second, .val (.ref b1), .val (.int (p2 &&& (31 : Int32))), .val (.int ((1 : Int32) <<< ((p2 &&& (31 : Int32)) &&& 31))), .val (.int (bz (¬ ((p1 &&& (p2 ||| p3)) = (0 : Int32))))), .unset, .unset, .unset, .unset, .unset, .unset, .unset] [(.int (bz (¬ ((p1 &&& p2) = (0 : Int32)))))]))
  refine go (fun _ k => XS.istore X6.here hx rfl (hb hby at_43) rfl (l' := #[.val (.int p1), .val (.int p2), .val (.int p3), .val (.int p4), .val (.int p5), .val (.long q6), .second, .val (.ref b1), .val (.int (p2 &&& (31 : Int32))), .val (.int ((1 : Int32) <<< ((p2 &&& (31 : Int32)) &&& 31))), .val (.int (bz (¬ ((p1 &&& (p2 ||| p3)) = (0 : Int32))))), .val (.int (bz (¬ ((p1 &&& p2) = (0 : Int32))))), .unset, .unset, .unset, .unset, .unset, .unset]) rfl k) ?_
  show Go p e below _ (T6.setTop (mkF m 45 #[.val (.int p1), .val (.int p2), .val (.int p3), .val (.int p4), .val (.int p5), .val (.long q6), .second, .val (.ref b1), .val (.int (p2 &&& (31 : Int32))), .val (.int ((1 : Int32) <<< ((p2 &&& (31 : Int32)) &&& 31))), .val (.int (bz (¬ ((p1 &&& (p2 ||| p3)) = (0 : Int32))))), .val (.int (bz (¬ ((p1 &&& p2) = (0 : Int32))))), .unset, .unset, .unset, .unset, .unset, .unset] []))
  refine go (fun _ k => XS.aload X6.here hx rfl (hb hby at_45) rfl rfl  k) ?_
  show Go p e below _ (T6.setTop (mkF m 47 #[.val (.int p1), .val (.int p2), .val (.int p3), .val (.int p4), .val (.int p5), .val (.long q6), .second, .val (.ref b1), .val (.int (p2 &&& (31 : Int32))), .val (.int ((1 : Int32) <<< ((p2 &&& (31 : Int32)) &&& 31))), .val (.int (bz (¬ ((p1 &&& (p2 ||| p3)) = (0 : Int32))))), .val (.int (bz (¬ ((p1 &&& p2) = (0 : Int32))))), .unset, .unset, .unset, .unset, .unset, .unset] [(.ref b1)]))
  refine go (fun _ k => XS.iloadN X6.here hx rfl (hb hby at_47) rfl  k) ?_
  show Go p e below _ (T6.setTop (mkF m 48 #[.val (.int p1), .val (.int p2), .val (.int p3), .val (.int p4), .val (.int p5), .val (.long q6), .second, .val (.ref b1), .val (.int (p2 &&& (31 : Int32))), .val (.int ((1 : Int32) <<< ((p2 &&& (31 : Int32)) &&& 31))), .val (.int (bz (¬ ((p1 &&& (p2 ||| p3)) = (0 : Int32))))), .val (.int (bz (¬ ((p1 &&& p2) = (0 : Int32))))), .unset, .unset, .unset, .unset, .unset, .unset] [(.int p3), (.ref b1)]))
  obtain ⟨cq7, kq7, q7a, q7b, q7c⟩ := isOf hZ e6 r2_1
  obtain ⟨_, _, ⟨T7, L7, k7, n7⟩, -, X7, ⟨Lc7, hQ7, l7, y7, z7⟩, st7⟩ := X6.virtualBack hx (y := (⟨"com/example/nuthatch/nuthatch/p2p/yamux/YamuxFrame", "has", "(I)Z"⟩ : MethodName)) (z := (⟨"com/example/nuthatch/nuthatch/p2p/yamux/YamuxFrame", "has", "(I)Z"⟩ : MethodName)) hown (mvT hZ (hw _ (List.mem_of_getElem? (i := 22) rfl))) (mvT hZ (hw _ (List.mem_of_getElem? (i := 23) rfl))) (notFace_of_selects (args := #[]) (mvT hZ (hw _ (List.mem_of_getElem? (i := 25) rfl)))) (mvT hZ (hw _ (List.mem_of_getElem? (i := 25) rfl))) (mvT hZ (hw _ (List.mem_of_getElem? (i := 24) rfl))) (by decide) (backOf (W := 0) (rm4 l Z a0 hw [] b1 p3 p1 T2.heap n0 (Nat.le_trans Z0 K5.1) r2_1 r2_2) hZ (hw _ (List.mem_of_getElem? (i := 26) rfl)) (hw _ (List.mem_of_getElem? (i := 2) rfl)) (by decide) (by decide)) q7a q7c (g := (mkF m 48 #[.val (.int p1), .val (.int p2), .val (.int p3), .val (.int p4), .val (.int p5), .val (.long q6), .second, .val (.ref b1), .val (.int (p2 &&& (31 : Int32))), .val (.int ((1 : Int32) <<< ((p2 &&& (31 : Int32)) &&& 31))), .val (.int (bz (¬ ((p1 &&& (p2 ||| p3)) = (0 : Int32))))), .val (.int (bz (¬ ((p1 &&& p2) = (0 : Int32))))), .unset, .unset, .unset, .unset, .unset, .unset] [(.int p3), (.ref b1)])) rfl (by rw [hml]; rfl) (Steps.refl _) (argsL := [(.int p3)]) (rest := []) (lenOf pd_2 rfl) rfl (by show 2 * 0 + _ ≤ _; exact Nat.le_of_eq rfl) (hb hby at_48) (fun _ _ => ⟨rfl, e6, (by decide : 1 + 0 ≤ _), (by decide : 4 + 0 ≤ _)⟩)
  dsimp only [Pt.U, Pt.locs, Pt.cells, Pt.slots] at X7 l7 y7 z7 st7 hQ7
  subst l7 y7 z7
  obtain ⟨rfl, N7q, e7⟩ := hQ7
  have N7 := Fr.app N6 N7q
  skip
  refine go (fun _ k => st7.trans k) ?_
  show Go p e below _ (T7.setTop (mkF m 51 #[.val (.int p1), .val (.int p2), .val (.int p3), .val (.int p4), .val (.int p5), .val (.long q6), .second, .val (.ref b1), .val (.int (p2 &&& (31 : Int32))), .val (.int ((1 : Int32) <<< ((p2 &&& (31 : Int32)) &&& 31))), .val (.int (bz (¬ ((p1 &&& (p2 ||| p3)) = (0 : Int32))))), .val (.int (bz (¬ ((p1 &&& p2) = (0 : Int32))))), .unset, .unset, .unset, .unset, .unset, .unset] [(.int (bz (¬ ((p1 &&& p3) = (0 : Int32)))))]))
  refine go (fun _ k => XS.istore X7.here hx rfl (hb hby at_51) rfl (l' := #[.val (.int p1), .val (.int p2), .val (.int p3), .val (.int p4), .val (.int p5), .val (.long q6), .second, .val (.ref b1), .val (.int (p2 &&& (31 : Int32))), .val (.int ((1 : Int32) <<< ((p2 &&& (31 : Int32)) &&& 31))), .val (.int (bz (¬ ((p1 &&& (p2 ||| p3)) = (0 : Int32))))), .val (.int (bz (¬ ((p1 &&& p2) = (0 : Int32))))), .val (.int (bz (¬ ((p1 &&& p3) = (0 : Int32))))), .unset, .unset, .unset, .unset, .unset]) rfl k) ?_
  show Go p e below _ (T7.setTop (mkF m 53 #[.val (.int p1), .val (.int p2), .val (.int p3), .val (.int p4), .val (.int p5), .val (.long q6), .second, .val (.ref b1), .val (.int (p2 &&& (31 : Int32))), .val (.int ((1 : Int32) <<< ((p2 &&& (31 : Int32)) &&& 31))), .val (.int (bz (¬ ((p1 &&& (p2 ||| p3)) = (0 : Int32))))), .val (.int (bz (¬ ((p1 &&& p2) = (0 : Int32))))), .val (.int (bz (¬ ((p1 &&& p3) = (0 : Int32))))), .unset, .unset, .unset, .unset, .unset] []))
  refine go (fun _ k => XS.aload X7.here hx rfl (hb hby at_53) rfl rfl  k) ?_
  show Go p e below _ (T7.setTop (mkF m 55 #[.val (.int p1), .val (.int p2), .val (.int p3), .val (.int p4), .val (.int p5), .val (.long q6), .second, .val (.ref b1), .val (.int (p2 &&& (31 : Int32))), .val (.int ((1 : Int32) <<< ((p2 &&& (31 : Int32)) &&& 31))), .val (.int (bz (¬ ((p1 &&& (p2 ||| p3)) = (0 : Int32))))), .val (.int (bz (¬ ((p1 &&& p2) = (0 : Int32))))), .val (.int (bz (¬ ((p1 &&& p3) = (0 : Int32))))), .unset, .unset, .unset, .unset, .unset] [(.ref b1)]))
  refine go (fun _ k => XS.iload X7.here hx rfl (hb hby at_55) rfl  k) ?_
  show Go p e below _ (T7.setTop (mkF m 57 #[.val (.int p1), .val (.int p2), .val (.int p3), .val (.int p4), .val (.int p5), .val (.long q6), .second, .val (.ref b1), .val (.int (p2 &&& (31 : Int32))), .val (.int ((1 : Int32) <<< ((p2 &&& (31 : Int32)) &&& 31))), .val (.int (bz (¬ ((p1 &&& (p2 ||| p3)) = (0 : Int32))))), .val (.int (bz (¬ ((p1 &&& p2) = (0 : Int32))))), .val (.int (bz (¬ ((p1 &&& p3) = (0 : Int32))))), .unset, .unset, .unset, .unset, .unset] [(.int ((1 : Int32) <<< ((p2 &&& (31 : Int32)) &&& 31))), (.ref b1)]))
  obtain ⟨cq8, kq8, q8a, q8b, q8c⟩ := isOf hZ e7 r2_1
  obtain ⟨_, _, ⟨T8, L8, k8, n8⟩, -, X8, ⟨Lc8, hQ8, l8, y8, z8⟩, st8⟩ := X7.virtualBack hx (y := (⟨"com/example/nuthatch/nuthatch/p2p/yamux/YamuxFrame", "has", "(I)Z"⟩ : MethodName)) (z := (⟨"com/example/nuthatch/nuthatch/p2p/yamux/YamuxFrame", "has", "(I)Z"⟩ : MethodName)) hown (mvT hZ (hw _ (List.mem_of_getElem? (i := 22) rfl))) (mvT hZ (hw _ (List.mem_of_getElem? (i := 23) rfl))) (notFace_of_selects (args := #[]) (mvT hZ (hw _ (List.mem_of_getElem? (i := 25) rfl)))) (mvT hZ (hw _ (List.mem_of_getElem? (i := 25) rfl))) (mvT hZ (hw _ (List.mem_of_getElem? (i := 24) rfl))) (by decide) (backOf (W := 0) (rm4 l Z a0 hw [] b1 ((1 : Int32) <<< ((p2 &&& (31 : Int32)) &&& 31)) p1 T2.heap n0 (Nat.le_trans Z0 K5.1) r2_1 r2_2) hZ (hw _ (List.mem_of_getElem? (i := 26) rfl)) (hw _ (List.mem_of_getElem? (i := 2) rfl)) (by decide) (by decide)) q8a q8c (g := (mkF m 57 #[.val (.int p1), .val (.int p2), .val (.int p3), .val (.int p4), .val (.int p5), .val (.long q6), .second, .val (.ref b1), .val (.int (p2 &&& (31 : Int32))), .val (.int ((1 : Int32) <<< ((p2 &&& (31 : Int32)) &&& 31))), .val (.int (bz (¬ ((p1 &&& (p2 ||| p3)) = (0 : Int32))))), .val (.int (bz (¬ ((p1 &&& p2) = (0 : Int32))))), .val (.int (bz (¬ ((p1 &&& p3) = (0 : Int32))))), .unset, .unset, .unset, .unset, .unset] [(.int ((1 : Int32) <<< ((p2 &&& (31 : Int32)) &&& 31))), (.ref b1)])) rfl (by rw [hml]; rfl) (Steps.refl _) (argsL := [(.int ((1 : Int32) <<< ((p2 &&& (31 : Int32)) &&& 31)))]) (rest := []) (lenOf pd_2 rfl) rfl (by show 2 * 0 + _ ≤ _; exact Nat.le_of_eq rfl) (hb hby at_57) (fun _ _ => ⟨rfl, e7, (by decide : 1 + 0 ≤ _), (by decide : 4 + 0 ≤ _)⟩)
  dsimp only [Pt.U, Pt.locs, Pt.cells, Pt.slots] at X8 l8 y8 z8 st8 hQ8
  subst l8 y8 z8
  obtain ⟨rfl, N8q, e8⟩ := hQ8
  have N8 := Fr.app N7 N8q
  skip
  refine go (fun _ k => st8.trans k) ?_
  show Go p e below _ (T8.setTop (mkF m 60 #[.val (.int p1), .val (.int p2), .val (.int p3), .val (.int p4), .val (.int p5), .val (.long q6), .second, .val (.ref b1), .val (.int (p2 &&& (31 : Int32))), .val (.int ((1 : Int32) <<< ((p2 &&& (31 : Int32)) &&& 31))), .val (.int (bz (¬ ((p1 &&& (p2 ||| p3)) = (0 : Int32))))), .val (.int (bz (¬ ((p1 &&& p2) = (0 : Int32))))), .val (.int (bz (¬ ((p1 &&& p3) = (0 : Int32))))), .unset, .unset, .unset, .unset, .unset] [(.int (bz (¬ ((p1 &&& ((1 : Int32) <<< ((p2 &&& (31 : Int32)) &&& 31))) = (0 : Int32)))))]))
  refine go (fun _ k => XS.istore X8.here hx rfl (hb hby at_60) rfl (l' := #[.val (.int p1), .val (.int p2), .val (.int p3), .val (.int p4), .val (.int p5), .val (.long q6), .second, .val (.ref b1), .val (.int (p2 &&& (31 : Int32))), .val (.int ((1 : Int32) <<< ((p2 &&& (31 : Int32)) &&& 31))), .val (.int (bz (¬ ((p1 &&& (p2 ||| p3)) = (0 : Int32))))), .val (.int (bz (¬ ((p1 &&& p2) = (0 : Int32))))), .val (.int (bz (¬ ((p1 &&& p3) = (0 : Int32))))), .val (.int (bz (¬ ((p1 &&& ((1 : Int32) <<< ((p2 &&& (31 : Int32)) &&& 31))) = (0 : Int32))))), .unset, .unset, .unset, .unset]) rfl k) ?_
  show Go p e below _ (T8.setTop (mkF m 62 #[.val (.int p1), .val (.int p2), .val (.int p3), .val (.int p4), .val (.int p5), .val (.long q6), .second, .val (.ref b1), .val (.int (p2 &&& (31 : Int32))), .val (.int ((1 : Int32) <<< ((p2 &&& (31 : Int32)) &&& 31))), .val (.int (bz (¬ ((p1 &&& (p2 ||| p3)) = (0 : Int32))))), .val (.int (bz (¬ ((p1 &&& p2) = (0 : Int32))))), .val (.int (bz (¬ ((p1 &&& p3) = (0 : Int32))))), .val (.int (bz (¬ ((p1 &&& ((1 : Int32) <<< ((p2 &&& (31 : Int32)) &&& 31))) = (0 : Int32))))), .unset, .unset, .unset, .unset] []))
  refine go (fun _ k => XS.aload X8.here hx rfl (hb hby at_62) rfl rfl  k) ?_
  show Go p e below _ (T8.setTop (mkF m 64 #[.val (.int p1), .val (.int p2), .val (.int p3), .val (.int p4), .val (.int p5), .val (.long q6), .second, .val (.ref b1), .val (.int (p2 &&& (31 : Int32))), .val (.int ((1 : Int32) <<< ((p2 &&& (31 : Int32)) &&& 31))), .val (.int (bz (¬ ((p1 &&& (p2 ||| p3)) = (0 : Int32))))), .val (.int (bz (¬ ((p1 &&& p2) = (0 : Int32))))), .val (.int (bz (¬ ((p1 &&& p3) = (0 : Int32))))), .val (.int (bz (¬ ((p1 &&& ((1 : Int32) <<< ((p2 &&& (31 : Int32)) &&& 31))) = (0 : Int32))))), .unset, .unset, .unset, .unset] [(.ref b1)]))
  refine go (fun _ k => XS.iconst X8.here hx rfl (hb hby at_64) k) ?_
  show Go p e below _ (T8.setTop (mkF m 65 #[.val (.int p1), .val (.int p2), .val (.int p3), .val (.int p4), .val (.int p5), .val (.long q6), .second, .val (.ref b1), .val (.int (p2 &&& (31 : Int32))), .val (.int ((1 : Int32) <<< ((p2 &&& (31 : Int32)) &&& 31))), .val (.int (bz (¬ ((p1 &&& (p2 ||| p3)) = (0 : Int32))))), .val (.int (bz (¬ ((p1 &&& p2) = (0 : Int32))))), .val (.int (bz (¬ ((p1 &&& p3) = (0 : Int32))))), .val (.int (bz (¬ ((p1 &&& ((1 : Int32) <<< ((p2 &&& (31 : Int32)) &&& 31))) = (0 : Int32))))), .unset, .unset, .unset, .unset] [(.int (0 : Int32)), (.ref b1)]))
  obtain ⟨cq9, kq9, q9a, q9b, q9c⟩ := isOf hZ e8 r2_1
  obtain ⟨_, _, ⟨T9, L9, k9, n9⟩, -, X9, ⟨Lc9, hQ9, l9, y9, z9⟩, st9⟩ := X8.virtualBack hx (y := (⟨"com/example/nuthatch/nuthatch/p2p/yamux/YamuxFrame", "has", "(I)Z"⟩ : MethodName)) (z := (⟨"com/example/nuthatch/nuthatch/p2p/yamux/YamuxFrame", "has", "(I)Z"⟩ : MethodName)) hown (mvT hZ (hw _ (List.mem_of_getElem? (i := 22) rfl))) (mvT hZ (hw _ (List.mem_of_getElem? (i := 23) rfl))) (notFace_of_selects (args := #[]) (mvT hZ (hw _ (List.mem_of_getElem? (i := 25) rfl)))) (mvT hZ (hw _ (List.mem_of_getElem? (i := 25) rfl))) (mvT hZ (hw _ (List.mem_of_getElem? (i := 24) rfl))) (by decide) (backOf (W := 0) (rm4 l Z a0 hw [] b1 (0 : Int32) p1 T2.heap n0 (Nat.le_trans Z0 K5.1) r2_1 r2_2) hZ (hw _ (List.mem_of_getElem? (i := 26) rfl)) (hw _ (List.mem_of_getElem? (i := 2) rfl)) (by decide) (by decide)) q9a q9c (g := (mkF m 65 #[.val (.int p1), .val (.int p2), .val (.int p3), .val (.int p4), .val (.int p5), .val (.long q6), .second, .val (.ref b1), .val (.int (p2 &&& (31 : Int32))), .val (.int ((1 : Int32) <<< ((p2 &&& (31 : Int32)) &&& 31))), .val (.int (bz (¬ ((p1 &&& (p2 ||| p3)) = (0 : Int32))))), .val (.int (bz (¬ ((p1 &&& p2) = (0 : Int32))))), .val (.int (bz (¬ ((p1 &&& p3) = (0 : Int32))))), .val (.int (bz (¬ ((p1 &&& ((1 : Int32) <<< ((p2 &&& (31 : Int32)) &&& 31))) = (0 : Int32))))), .unset, .unset, .unset, .unset] [(.int (0 : Int32)), (.ref b1)])) rfl (by rw [hml]; rfl) (Steps.refl _) (argsL := [(.int (0 : Int32))]) (rest := []) (lenOf pd_2 rfl) rfl (by show 2 * 0 + _ ≤ _; exact Nat.le_of_eq rfl) (hb hby at_65) (fun _ _ => ⟨rfl, e8, (by decide : 1 + 0 ≤ _), (by decide : 4 + 0 ≤ _)⟩)
  dsimp only [Pt.U, Pt.locs, Pt.cells, Pt.slots] at X9 l9 y9 z9 st9 hQ9
  subst l9 y9 z9
  obtain ⟨rfl, N9q, e9⟩ := hQ9
  have N9 := Fr.app N8 N9q
  skip
  refine go (fun _ k => st9.trans k) ?_
  show Go p e below _ (T9.setTop (mkF m 68 #[.val (.int p1), .val (.int p2), .val (.int p3), .val (.int p4), .val (.int p5), .val (.long q6), .second, .val (.ref b1), .val (.int (p2 &&& (31 : Int32))), .val (.int ((1 : Int32) <<< ((p2 &&& (31 : Int32)) &&& 31))), .val (.int (bz (¬ ((p1 &&& (p2 ||| p3)) = (0 : Int32))))), .val (.int (bz (¬ ((p1 &&& p2) = (0 : Int32))))), .val (.int (bz (¬ ((p1 &&& p3) = (0 : Int32))))), .val (.int (bz (¬ ((p1 &&& ((1 : Int32) <<< ((p2 &&& (31 : Int32)) &&& 31))) = (0 : Int32))))), .unset, .unset, .unset, .unset] [(.int (bz (¬ ((p1 &&& (0 : Int32)) = (0 : Int32)))))]))
  refine go (fun _ k => XS.istore X9.here hx rfl (hb hby at_68) rfl (l' := #[.val (.int p1), .val (.int p2), .val (.int p3), .val (.int p4), .val (.int p5), .val (.long q6), .second, .val (.ref b1), .val (.int (p2 &&& (31 : Int32))), .val (.int ((1 : Int32) <<< ((p2 &&& (31 : Int32)) &&& 31))), .val (.int (bz (¬ ((p1 &&& (p2 ||| p3)) = (0 : Int32))))), .val (.int (bz (¬ ((p1 &&& p2) = (0 : Int32))))), .val (.int (bz (¬ ((p1 &&& p3) = (0 : Int32))))), .val (.int (bz (¬ ((p1 &&& ((1 : Int32) <<< ((p2 &&& (31 : Int32)) &&& 31))) = (0 : Int32))))), .val (.int (bz (¬ ((p1 &&& (0 : Int32)) = (0 : Int32))))), .unset, .unset, .unset]) rfl k) ?_
  show Go p e below _ (T9.setTop (mkF m 70 #[.val (.int p1), .val (.int p2), .val (.int p3), .val (.int p4), .val (.int p5), .val (.long q6), .second, .val (.ref b1), .val (.int (p2 &&& (31 : Int32))), .val (.int ((1 : Int32) <<< ((p2 &&& (31 : Int32)) &&& 31))), .val (.int (bz (¬ ((p1 &&& (p2 ||| p3)) = (0 : Int32))))), .val (.int (bz (¬ ((p1 &&& p2) = (0 : Int32))))), .val (.int (bz (¬ ((p1 &&& p3) = (0 : Int32))))), .val (.int (bz (¬ ((p1 &&& ((1 : Int32) <<< ((p2 &&& (31 : Int32)) &&& 31))) = (0 : Int32))))), .val (.int (bz (¬ ((p1 &&& (0 : Int32)) = (0 : Int32))))), .unset, .unset, .unset] []))
  refine go (fun _ k => XS.aload X9.here hx rfl (hb hby at_70) rfl rfl  k) ?_
  show Go p e below _ (T9.setTop (mkF m 72 #[.val (.int p1), .val (.int p2), .val (.int p3), .val (.int p4), .val (.int p5), .val (.long q6), .second, .val (.ref b1), .val (.int (p2 &&& (31 : Int32))), .val (.int ((1 : Int32) <<< ((p2 &&& (31 : Int32)) &&& 31))), .val (.int (bz (¬ ((p1 &&& (p2 ||| p3)) = (0 : Int32))))), .val (.int (bz (¬ ((p1 &&& p2) = (0 : Int32))))), .val (.int (bz (¬ ((p1 &&& p3) = (0 : Int32))))), .val (.int (bz (¬ ((p1 &&& ((1 : Int32) <<< ((p2 &&& (31 : Int32)) &&& 31))) = (0 : Int32))))), .val (.int (bz (¬ ((p1 &&& (0 : Int32)) = (0 : Int32))))), .unset, .unset, .unset] [(.ref b1)]))
  refine go (fun _ k => XS.iconst X9.here hx rfl (hb hby at_72) k) ?_
  show Go p e below _ (T9.setTop (mkF m 73 #[.val (.int p1), .val (.int p2), .val (.int p3), .val (.int p4), .val (.int p5), .val (.long q6), .second, .val (.ref b1), .val (.int (p2 &&& (31 : Int32))), .val (.int ((1 : Int32) <<< ((p2 &&& (31 : Int32)) &&& 31))), .val (.int (bz (¬ ((p1 &&& (p2 ||| p3)) = (0 : Int32))))), .val (.int (bz (¬ ((p1 &&& p2) = (0 : Int32))))), .val (.int (bz (¬ ((p1 &&& p3) = (0 : Int32))))), .val (.int (bz (¬ ((p1 &&& ((1 : Int32) <<< ((p2 &&& (31 : Int32)) &&& 31))) = (0 : Int32))))), .val (.int (bz (¬ ((p1 &&& (0 : Int32)) = (0 : Int32))))), .unset, .unset, .unset] [(.int (-1 : Int32)), (.ref b1)]))
  obtain ⟨cq10, kq10, q10a, q10b, q10c⟩ := isOf hZ e9 r2_1
  obtain ⟨_, _, ⟨T10, L10, k10, n10⟩, -, X10, ⟨Lc10, hQ10, l10, y10, z10⟩, st10⟩ := X9.virtualBack hx (y := (⟨"com/example/nuthatch/nuthatch/p2p/yamux/YamuxFrame", "has", "(I)Z"⟩ : MethodName)) (z := (⟨"com/example/nuthatch/nuthatch/p2p/yamux/YamuxFrame", "has", "(I)Z"⟩ : MethodName)) hown (mvT hZ (hw _ (List.mem_of_getElem? (i := 22) rfl))) (mvT hZ (hw _ (List.mem_of_getElem? (i := 23) rfl))) (notFace_of_selects (args := #[]) (mvT hZ (hw _ (List.mem_of_getElem? (i := 25) rfl)))) (mvT hZ (hw _ (List.mem_of_getElem? (i := 25) rfl))) (mvT hZ (hw _ (List.mem_of_getElem? (i := 24) rfl))) (by decide) (backOf (W := 0) (rm4 l Z a0 hw [] b1 (-1 : Int32) p1 T2.heap n0 (Nat.le_trans Z0 K5.1) r2_1 r2_2) hZ (hw _ (List.mem_of_getElem? (i := 26) rfl)) (hw _ (List.mem_of_getElem? (i := 2) rfl)) (by decide) (by decide)) q10a q10c (g := (mkF m 73 #[.val (.int p1), .val (.int p2), .val (.int p3), .val (.int p4), .val (.int p5), .val (.long q6), .second, .val (.ref b1), .val (.int (p2 &&& (31 : Int32))), .val (.int ((1 : Int32) <<< ((p2 &&& (31 : Int32)) &&& 31))), .val (.int (bz (¬ ((p1 &&& (p2 ||| p3)) = (0 : Int32))))), .val (.int (bz (¬ ((p1 &&& p2) = (0 : Int32))))), .val (.int (bz (¬ ((p1 &&& p3) = (0 : Int32))))), .val (.int (bz (¬ ((p1 &&& ((1 : Int32) <<< ((p2 &&& (31 : Int32)) &&& 31))) = (0 : Int32))))), .val (.int (bz (¬ ((p1 &&& (0 : Int32)) = (0 : Int32))))), .unset, .unset, .unset] [(.int (-1 : Int32)), (.ref b1)])) rfl (by rw [hml]; rfl) (Steps.refl _) (argsL := [(.int (-1 : Int32))]) (rest := []) (lenOf pd_2 rfl) rfl (by show 2 * 0 + _ ≤ _; exact Nat.le_of_eq rfl) (hb hby at_73) (fun _ _ => ⟨rfl, e9, (by decide : 1 + 0 ≤ _), (by decide : 4 + 0 ≤ _)⟩)
  dsimp only [Pt.U, Pt.locs, Pt.cells, Pt.slots] at X10 l10 y10 z10 st10 hQ10
  subst l10 y10 z10
  obtain ⟨rfl, N10q, e10⟩ := hQ10
  have N10 := Fr.app N9 N10q
  skip
  refine go (fun _ k => st10.trans k) ?_
  show Go p e below _ (T10.setTop (mkF m 76 #[.val (.int p1), .val (.int p2), .val (.int p3), .val (.int p4), .val (.int p5), .val (.long q6), .second, .val (.ref b1), .val (.int (p2 &&& (31 : Int32))), .val (.int ((1 : Int32) <<< ((p2 &&& (31 : Int32)) &&& 31))), .val (.int (bz (¬ ((p1 &&& (p2 ||| p3)) = (0 : Int32))))), .val (.int (bz (¬ ((p1 &&& p2) = (0 : Int32))))), .val (.int (bz (¬ ((p1 &&& p3) = (0 : Int32))))), .val (.int (bz (¬ ((p1 &&& ((1 : Int32) <<< ((p2 &&& (31 : Int32)) &&& 31))) = (0 : Int32))))), .val (.int (bz (¬ ((p1 &&& (0 : Int32)) = (0 : Int32))))), .unset, .unset, .unset] [(.int (bz (¬ ((p1 &&& (-1 : Int32)) = (0 : Int32)))))]))
  refine go (fun _ k => XS.istore X10.here hx rfl (hb hby at_76) rfl (l' := #[.val (.int p1), .val (.int p2), .val (.int p3), .val (.int p4), .val (.int p5), .val (.long q6), .second, .val (.ref b1), .val (.int (p2 &&& (31 : Int32))), .val (.int ((1 : Int32) <<< ((p2 &&& (31 : Int32)) &&& 31))), .val (.int (bz (¬ ((p1 &&& (p2 ||| p3)) = (0 : Int32))))), .val (.int (bz (¬ ((p1 &&& p2) = (0 : Int32))))), .val (.int (bz (¬ ((p1 &&& p3) = (0 : Int32))))), .val (.int (bz (¬ ((p1 &&& ((1 : Int32) <<< ((p2 &&& (31 : Int32)) &&& 31))) = (0 : Int32))))), .val (.int (bz (¬ ((p1 &&& (0 : Int32)) = (0 : Int32))))), .val (.int (bz (¬ ((p1 &&& (-1 : Int32)) = (0 : Int32))))), .unset, .unset]) rfl k) ?_
  show Go p e below _ (T10.setTop (mkF m 78 #[.val (.int p1), .val (.int p2), .val (.int p3), .val (.int p4), .val (.int p5), .val (.long q6), .second, .val (.ref b1), .val (.int (p2 &&& (31 : Int32))), .val (.int ((1 : Int32) <<< ((p2 &&& (31 : Int32)) &&& 31))), .val (.int (bz (¬ ((p1 &&& (p2 ||| p3)) = (0 : Int32))))), .val (.int (bz (¬ ((p1 &&& p2) = (0 : Int32))))), .val (.int (bz (¬ ((p1 &&& p3) = (0 : Int32))))), .val (.int (bz (¬ ((p1 &&& ((1 : Int32) <<< ((p2 &&& (31 : Int32)) &&& 31))) = (0 : Int32))))), .val (.int (bz (¬ ((p1 &&& (0 : Int32)) = (0 : Int32))))), .val (.int (bz (¬ ((p1 &&& (-1 : Int32)) = (0 : Int32))))), .unset, .unset] []))
  refine go (fun _ k => XS.iloadN X10.here hx rfl (hb hby at_78) rfl  k) ?_
  show Go p e below _ (T10.setTop (mkF m 79 #[.val (.int p1), .val (.int p2), .val (.int p3), .val (.int p4), .val (.int p5), .val (.long q6), .second, .val (.ref b1), .val (.int (p2 &&& (31 : Int32))), .val (.int ((1 : Int32) <<< ((p2 &&& (31 : Int32)) &&& 31))), .val (.int (bz (¬ ((p1 &&& (p2 ||| p3)) = (0 : Int32))))), .val (.int (bz (¬ ((p1 &&& p2) = (0 : Int32))))), .val (.int (bz (¬ ((p1 &&& p3) = (0 : Int32))))), .val (.int (bz (¬ ((p1 &&& ((1 : Int32) <<< ((p2 &&& (31 : Int32)) &&& 31))) = (0 : Int32))))), .val (.int (bz (¬ ((p1 &&& (0 : Int32)) = (0 : Int32))))), .val (.int (bz (¬ ((p1 &&& (-1 : Int32)) = (0 : Int32))))), .unset, .unset] [(.int p1)]))
  refine go (fun _ k => XS.iload X10.here hx rfl (hb hby at_79) rfl  k) ?_
  show Go p e below _ (T10.setTop (mkF m 81 #[.val (.int p1), .val (.int p2), .val (.int p3), .val (.int p4), .val (.int p5), .val (.long q6), .second, .val (.ref b1), .val (.int (p2 &&& (31 : Int32))), .val (.int ((1 : Int32) <<< ((p2 &&& (31 : Int32)) &&& 31))), .val (.int (bz (¬ ((p1 &&& (p2 ||| p3)) = (0 : Int32))))), .val (.int (bz (¬ ((p1 &&& p2) = (0 : Int32))))), .val (.int (bz (¬ ((p1 &&& p3) = (0 : Int32))))), .val (.int (bz (¬ ((p1 &&& ((1 : Int32) <<< ((p2 &&& (31 : Int32)) &&& 31))) = (0 : Int32))))), .val (.int (bz (¬ ((p1 &&& (0 : Int32)) = (0 : Int32))))), .val (.int (bz (¬ ((p1 &&& (-1 : Int32)) = (0 : Int32))))), .unset, .unset] [(.int (p2 &&& (31 : Int32))), (.int p1)]))
  refine go (fun _ k => XS.iushr X10.here hx rfl (hb hby at_81) rfl k) ?_
  show Go p e below _ (T10.setTop (mkF m 82 #[.val (.int p1), .val (.int p2), .val (.int p3), .val (.int p4), .val (.int p5), .val (.long q6), .second, .val (.ref b1), .val (.int (p2 &&& (31 : Int32))), .val (.int ((1 : Int32) <<< ((p2 &&& (31 : Int32)) &&& 31))), .val (.int (bz (¬ ((p1 &&& (p2 ||| p3)) = (0 : Int32))))), .val (.int (bz (¬ ((p1 &&& p2) = (0 : Int32))))), .val (.int (bz (¬ ((p1 &&& p3) = (0 : Int32))))), .val (.int (bz (¬ ((p1 &&& ((1 : Int32) <<< ((p2 &&& (31 : Int32)) &&& 31))) = (0 : Int32))))), .val (.int (bz (¬ ((p1 &&& (0 : Int32)) = (0 : Int32))))), .val (.int (bz (¬ ((p1 &&& (-1 : Int32)) = (0 : Int32))))), .unset, .unset] [(.int ((p1.toUInt32 >>> ((p2 &&& (31 : Int32)) &&& 31).toUInt32).toInt32))]))
  refine go (fun _ k => XS.iconst X10.here hx rfl (hb hby at_82) k) ?_
  show Go p e below _ (T10.setTop (mkF m 83 #[.val (.int p1), .val (.int p2), .val (.int p3), .val (.int p4), .val (.int p5), .val (.long q6), .second, .val (.ref b1), .val (.int (p2 &&& (31 : Int32))), .val (.int ((1 : Int32) <<< ((p2 &&& (31 : Int32)) &&& 31))), .val (.int (bz (¬ ((p1 &&& (p2 ||| p3)) = (0 : Int32))))), .val (.int (bz (¬ ((p1 &&& p2) = (0 : Int32))))), .val (.int (bz (¬ ((p1 &&& p3) = (0 : Int32))))), .val (.int (bz (¬ ((p1 &&& ((1 : Int32) <<< ((p2 &&& (31 : Int32)) &&& 31))) = (0 : Int32))))), .val (.int (bz (¬ ((p1 &&& (0 : Int32)) = (0 : Int32))))), .val (.int (bz (¬ ((p1 &&& (-1 : Int32)) = (0 : Int32))))), .unset, .unset] [(.int (1 : Int32)), (.int ((p1.toUInt32 >>> ((p2 &&& (31 : Int32)) &&& 31).toUInt32).toInt32))]))
  refine go (fun _ k => XS.iand X10.here hx rfl (hb hby at_83) rfl k) ?_
  show Go p e below _ (T10.setTop (mkF m 84 #[.val (.int p1), .val (.int p2), .val (.int p3), .val (.int p4), .val (.int p5), .val (.long q6), .second, .val (.ref b1), .val (.int (p2 &&& (31 : Int32))), .val (.int ((1 : Int32) <<< ((p2 &&& (31 : Int32)) &&& 31))), .val (.int (bz (¬ ((p1 &&& (p2 ||| p3)) = (0 : Int32))))), .val (.int (bz (¬ ((p1 &&& p2) = (0 : Int32))))), .val (.int (bz (¬ ((p1 &&& p3) = (0 : Int32))))), .val (.int (bz (¬ ((p1 &&& ((1 : Int32) <<< ((p2 &&& (31 : Int32)) &&& 31))) = (0 : Int32))))), .val (.int (bz (¬ ((p1 &&& (0 : Int32)) = (0 : Int32))))), .val (.int (bz (¬ ((p1 &&& (-1 : Int32)) = (0 : Int32))))), .unset, .unset] [(.int (((p1.toUInt32 >>> ((p2 &&& (31 : Int32)) &&& 31).toUInt32).toInt32) &&& (1 : Int32)))]))
  have J92_11 : ∀ (v92_2 : Int32), v92_2 = (bz (¬ ((((p1.toUInt32 >>> ((p2 &&& (31 : Int32)) &&& 31).toUInt32).toInt32) &&& (1 : Int32)) = (0 : Int32)))) → Go p e below (PP s below (Q0 Z p1 p2 p3 p4 p5 q6 h0 n0) room_1.cells room_1.slots) (T10.setTop (mkF m 92 #[.val (.int p1), .val (.int p2), .val (.int p3), .val (.int p4), .val (.int p5), .val (.long q6), .second, .val (.ref b1), .val (.int (p2 &&& (31 : Int32))), .val (.int ((1 : Int32) <<< ((p2 &&& (31 : Int32)) &&& 31))), .val (.int (bz (¬ ((p1 &&& (p2 ||| p3)) = (0 : Int32))))), .val (.int (bz (¬ ((p1 &&& p2) = (0 : Int32))))), .val (.int (bz (¬ ((p1 &&& p3) = (0 : Int32))))), .val (.int (bz (¬ ((p1 &&& ((1 : Int32) <<< ((p2 &&& (31 : Int32)) &&& 31))) = (0 : Int32))))), .val (.int (bz (¬ ((p1 &&& (0 : Int32)) = (0 : Int32))))), .val (.int (bz (¬ ((p1 &&& (-1 : Int32)) = (0 : Int32))))), .unset, .unset] [(.int v92_2)])) := by
    intro v92_2 hv92_2
    subst hv92_2
    show Go p e below _ (T10.setTop (mkF m 92 #[.val (.int p1), .val (.int p2), .val (.int p3), .val (.int p4), .val (.int p5), .val (.long q6), .second, .val (.ref b1), .val (.int (p2 &&& (31 : Int32))), .val (.int ((1 : Int32) <<< ((p2 &&& (31 : Int32)) &&& 31))), .val (.int (bz (¬ ((p1 &&& (p2 ||| p3)) = (0 : Int32))))), .val (.int (bz (¬ ((p1 &&& p2) = (0 : Int32))))), .val (.int (bz (¬ ((p1 &&& p3) = (0 : Int32))))), .val (.int (bz (¬ ((p1 &&& ((1 : Int32) <<< ((p2 &&& (31 : Int32)) &&& 31))) = (0 : Int32))))), .val (.int (bz (¬ ((p1 &&& (0 : Int32)) = (0 : Int32))))), .val (.int (bz (¬ ((p1 &&& (-1 : Int32)) = (0 : Int32))))), .unset, .unset] [(.int (bz (¬ ((((p1.toUInt32 >>> ((p2 &&& (31 : Int32)) &&& 31).toUInt32).toInt32) &&& (1 : Int32)) = (0 : Int32)))))]))
    refine go (fun _ k => XS.istore X10.here hx rfl (hb hby at_92) rfl (l' := #[.val (.int p1), .val (.int p2), .val (.int p3), .val (.int p4), .val (.int p5), .val (.long q6), .second, .val (.ref b1), .val (.int (p2 &&& (31 : Int32))), .val (.int ((1 : Int32) <<< ((p2 &&& (31 : Int32)) &&& 31))), .val (.int (bz (¬ ((p1 &&& (p2 ||| p3)) = (0 : Int32))))), .val (.int (bz (¬ ((p1 &&& p2) = (0 : Int32))))), .val (.int (bz (¬ ((p1 &&& p3) = (0 : Int32))))), .val (.int (bz (¬ ((p1 &&& ((1 : Int32) <<< ((p2 &&& (31 : Int32)) &&& 31))) = (0 : Int32))))), .val (.int (bz (¬ ((p1 &&& (0 : Int32)) = (0 : Int32))))), .val (.int (bz (¬ ((p1 &&& (-1 : Int32)) = (0 : Int32))))), .val (.int (bz (¬ ((((p1.toUInt32 >>> ((p2 &&& (31 : Int32)) &&& 31).toUInt32).toInt32) &&& (1 : Int32)) = (0 : Int32))))), .unset]) rfl k) ?_
    show Go p e below _ (T10.setTop (mkF m 94 #[.val (.int p1), .val (.int p2), .val (.int p3), .val (.int p4), .val (.int p5), .val (.long q6), .second, .val (.ref b1), .val (.int (p2 &&& (31 : Int32))), .val (.int ((1 : Int32) <<< ((p2 &&& (31 : Int32)) &&& 31))), .val (.int (bz (¬ ((p1 &&& (p2 ||| p3)) = (0 : Int32))))), .val (.int (bz (¬ ((p1 &&& p2) = (0 : Int32))))), .val (.int (bz (¬ ((p1 &&& p3) = (0 : Int32))))), .val (.int (bz (¬ ((p1 &&& ((1 : Int32) <<< ((p2 &&& (31 : Int32)) &&& 31))) = (0 : Int32))))), .val (.int (bz (¬ ((p1 &&& (0 : Int32)) = (0 : Int32))))), .val (.int (bz (¬ ((p1 &&& (-1 : Int32)) = (0 : Int32))))), .val (.int (bz (¬ ((((p1.toUInt32 >>> ((p2 &&& (31 : Int32)) &&& 31).toUInt32).toInt32) &&& (1 : Int32)) = (0 : Int32))))), .unset] []))
    refine go (fun _ k => XS.iloadN X10.here hx rfl (hb hby at_94) rfl  k) ?_
    show Go p e below _ (T10.setTop (mkF m 95 #[.val (.int p1), .val (.int p2), .val (.int p3), .val (.int p4), .val (.int p5), .val (.long q6), .second, .val (.ref b1), .val (.int (p2 &&& (31 : Int32))), .val (.int ((1 : Int32) <<< ((p2 &&& (31 : Int32)) &&& 31))), .val (.int (bz (¬ ((p1 &&& (p2 ||| p3)) = (0 : Int32))))), .val (.int (bz (¬ ((p1 &&& p2) = (0 : Int32))))), .val (.int (bz (¬ ((p1 &&& p3) = (0 : Int32))))), .val (.int (bz (¬ ((p1 &&& ((1 : Int32) <<< ((p2 &&& (31 : Int32)) &&& 31))) = (0 : Int32))))), .val (.int (bz (¬ ((p1 &&& (0 : Int32)) = (0 : Int32))))), .val (.int (bz (¬ ((p1 &&& (-1 : Int32)) = (0 : Int32))))), .val (.int (bz (¬ ((((p1.toUInt32 >>> ((p2 &&& (31 : Int32)) &&& 31).toUInt32).toInt32) &&& (1 : Int32)) = (0 : Int32))))), .unset] [(.int p1)]))
    have J103_12 : ∀ (v103_4 : Int32), v103_4 = (bz (¬ (p1 = (0 : Int32)))) → Go p e below (PP s below (Q0 Z p1 p2 p3 p4 p5 q6 h0 n0) room_1.cells room_1.slots) (T10.setTop (mkF m 103 #[.val (.int p1), .val (.int p2), .val (.int p3), .val (.int p4), .val (.int p5), .val (.long q6), .second, .val (.ref b1), .val (.int (p2 &&& (31 : Int32))), .val (.int ((1 : Int32) <<< ((p2 &&& (31 : Int32)) &&& 31))), .val (.int (bz (¬ ((p1 &&& (p2 ||| p3)) = (0 : Int32))))), .val (.int (bz (¬ ((p1 &&& p2) = (0 : Int32))))), .val (.int (bz (¬ ((p1 &&& p3) = (0 : Int32))))), .val (.int (bz (¬ ((p1 &&& ((1 : Int32) <<< ((p2 &&& (31 : Int32)) &&& 31))) = (0 : Int32))))), .val (.int (bz (¬ ((p1 &&& (0 : Int32)) = (0 : Int32))))), .val (.int (bz (¬ ((p1 &&& (-1 : Int32)) = (0 : Int32))))), .val (.int (bz (¬ ((((p1.toUInt32 >>> ((p2 &&& (31 : Int32)) &&& 31).toUInt32).toInt32) &&& (1 : Int32)) = (0 : Int32))))), .unset] [(.int v103_4)])) := by
      intro v103_4 hv103_4
      subst hv103_4
      show Go p e below _ (T10.setTop (mkF m 103 #[.val (.int p1), .val (.int p2), .val (.int p3), .val (.int p4), .val (.int p5), .val (.long q6), .second, .val (.ref b1), .val (.int (p2 &&& (31 : Int32))), .val (.int ((1 : Int32) <<< ((p2 &&& (31 : Int32)) &&& 31))), .val (.int (bz (¬ ((p1 &&& (p2 ||| p3)) = (0 : Int32))))), .val (.int (bz (¬ ((p1 &&& p2) = (0 : Int32))))), .val (.int (bz (¬ ((p1 &&& p3) = (0 : Int32))))), .val (.int (bz (¬ ((p1 &&& ((1 : Int32) <<< ((p2 &&& (31 : Int32)) &&& 31))) = (0 : Int32))))), .val (.int (bz (¬ ((p1 &&& (0 : Int32)) = (0 : Int32))))), .val (.int (bz (¬ ((p1 &&& (-1 : Int32)) = (0 : Int32))))), .val (.int (bz (¬ ((((p1.toUInt32 >>> ((p2 &&& (31 : Int32)) &&& 31).toUInt32).toInt32) &&& (1 : Int32)) = (0 : Int32))))), .unset] [(.int (bz (¬ (p1 = (0 : Int32)))))]))
      refine go (fun _ k => XS.istore X10.here hx rfl (hb hby at_103) rfl (l' := #[.val (.int p1), .val (.int p2), .val (.int p3), .val (.int p4), .val (.int p5), .val (.long q6), .second, .val (.ref b1), .val (.int (p2 &&& (31 : Int32))), .val (.int ((1 : Int32) <<< ((p2 &&& (31 : Int32)) &&& 31))), .val (.int (bz (¬ ((p1 &&& (p2 ||| p3)) = (0 : Int32))))), .val (.int (bz (¬ ((p1 &&& p2) = (0 : Int32))))), .val (.int (bz (¬ ((p1 &&& p3) = (0 : Int32))))), .val (.int (bz (¬ ((p1 &&& ((1 : Int32) <<< ((p2 &&& (31 : Int32)) &&& 31))) = (0 : Int32))))), .val (.int (bz (¬ ((p1 &&& (0 : Int32)) = (0 : Int32))))), .val (.int (bz (¬ ((p1 &&& (-1 : Int32)) = (0 : Int32))))), .val (.int (bz (¬ ((((p1.toUInt32 >>> ((p2 &&& (31 : Int32)) &&& 31).toUInt32).toInt32) &&& (1 : Int32)) = (0 : Int32))))), .val (.int (bz (¬ (p1 = (0 : Int32)))))]) rfl k) ?_
      show Go p e below _ (T10.setTop (mkF m 105 #[.val (.int p1), .val (.int p2), .val (.int p3), .val (.int p4), .val (.int p5), .val (.long q6), .second, .val (.ref b1), .val (.int (p2 &&& (31 : Int32))), .val (.int ((1 : Int32) <<< ((p2 &&& (31 : Int32)) &&& 31))), .val (.int (bz (¬ ((p1 &&& (p2 ||| p3)) = (0 : Int32))))), .val (.int (bz (¬ ((p1 &&& p2) = (0 : Int32))))), .val (.int (bz (¬ ((p1 &&& p3) = (0 : Int32))))), .val (.int (bz (¬ ((p1 &&& ((1 : Int32) <<< ((p2 &&& (31 : Int32)) &&& 31))) = (0 : Int32))))), .val (.int (bz (¬ ((p1 &&& (0 : Int32)) = (0 : Int32))))), .val (.int (bz (¬ ((p1 &&& (-1 : Int32)) = (0 : Int32))))), .val (.int (bz (¬ ((((p1.toUInt32 >>> ((p2 &&& (31 : Int32)) &&& 31).toUInt32).toInt32) &&& (1 : Int32)) = (0 : Int32))))), .val (.int (bz (¬ (p1 = (0 : Int32)))))] []))
      refine go (fun _ k => XS.iload X10.here hx rfl (hb hby at_105) rfl  k) ?_
      show Go p e below _ (T10.setTop (mkF m 107 #[.val (.int p1), .val (.int p2), .val (.int p3), .val (.int p4), .val (.int p5), .val (.long q6), .second, .val (.ref b1), .val (.int (p2 &&& (31 : Int32))), .val (.int ((1 : Int32) <<< ((p2 &&& (31 : Int32)) &&& 31))), .val (.int (bz (¬ ((p1 &&& (p2 ||| p3)) = (0 : Int32))))), .val (.int (bz (¬ ((p1 &&& p2) = (0 : Int32))))), .val (.int (bz (¬ ((p1 &&& p3) = (0 : Int32))))), .val (.int (bz (¬ ((p1 &&& ((1 : Int32) <<< ((p2 &&& (31 : Int32)) &&& 31))) = (0 : Int32))))), .val (.int (bz (¬ ((p1 &&& (0 : Int32)) = (0 : Int32))))), .val (.int (bz (¬ ((p1 &&& (-1 : Int32)) = (0 : Int32))))), .val (.int (bz (¬ ((((p1.toUInt32 >>> ((p2 &&& (31 : Int32)) &&& 31).toUInt32).toInt32) &&& (1 : Int32)) = (0 : Int32))))), .val (.int (bz (¬ (p1 = (0 : Int32)))))] [(.int (bz (¬ ((p1 &&& (p2 ||| p3)) = (0 : Int32)))))]))
      refine go (fun _ k => XS.iload X10.here hx rfl (hb hby at_107) rfl  k) ?_
      show Go p e below _ (T10.setTop (mkF m 109 #[.val (.int p1), .val (.int p2), .val (.int p3), .val (.int p4), .val (.int p5), .val (.long q6), .second, .val (.ref b1), .val (.int (p2 &&& (31 : Int32))), .val (.int ((1 : Int32) <<< ((p2 &&& (31 : Int32)) &&& 31))), .val (.int (bz (¬ ((p1 &&& (p2 ||| p3)) = (0 : Int32))))), .val (.int (bz (¬ ((p1 &&& p2) = (0 : Int32))))), .val (.int (bz (¬ ((p1 &&& p3) = (0 : Int32))))), .val (.int (bz (¬ ((p1 &&& ((1 : Int32) <<< ((p2 &&& (31 : Int32)) &&& 31))) = (0 : Int32))))), .val (.int (bz (¬ ((p1 &&& (0 : Int32)) = (0 : Int32))))), .val (.int (bz (¬ ((p1 &&& (-1 : Int32)) = (0 : Int32))))), .val (.int (bz (¬ ((((p1.toUInt32 >>> ((p2 &&& (31 : Int32)) &&& 31).toUInt32).toInt32) &&& (1 : Int32)) = (0 : Int32))))), .val (.int (bz (¬ (p1 = (0 : Int32)))))] [(.int (bz (¬ ((p1 &&& p2) = (0 : Int32))))), (.int (bz (¬ ((p1 &&& (p2 ||| p3)) = (0 : Int32)))))]))
      have J122_13 : ∀ (v122_7 : Int32), v122_7 = (if ¬ ((p1 &&& p2) = (0 : Int32)) then (1 : Int32) else (bz (¬ ((p1 &&& p3) = (0 : Int32))))) → Go p e below (PP s below (Q0 Z p1 p2 p3 p4 p5 q6 h0 n0) room_1.cells room_1.slots) (T10.setTop (mkF m 122 #[.val (.int p1), .val (.int p2), .val (.int p3), .val (.int p4), .val (.int p5), .val (.long q6), .second, .val (.ref b1), .val (.int (p2 &&& (31 : Int32))), .val (.int ((1 : Int32) <<< ((p2 &&& (31 : Int32)) &&& 31))), .val (.int (bz (¬ ((p1 &&& (p2 ||| p3)) = (0 : Int32))))), .val (.int (bz (¬ ((p1 &&& p2) = (0 : Int32))))), .val (.int (bz (¬ ((p1 &&& p3) = (0 : Int32))))), .val (.int (bz (¬ ((p1 &&& ((1 : Int32) <<< ((p2 &&& (31 : Int32)) &&& 31))) = (0 : Int32))))), .val (.int (bz (¬ ((p1 &&& (0 : Int32)) = (0 : Int32))))), .val (.int (bz (¬ ((p1 &&& (-1 : Int32)) = (0 : Int32))))), .val (.int (bz (¬ ((((p1.toUInt32 >>> ((p2 &&& (31 : Int32)) &&& 31).toUInt32).toInt32) &&& (1 : Int32)) = (0 : Int32))))), .val (.int (bz (¬ (p1 = (0 : Int32)))))] [(.int v122_7), (.int (bz (¬ ((p1 &&& (p2 ||| p3)) = (0 : Int32)))))])) := by
        intro v122_7 hv122_7
        show Go p e below _ (T10.setTop (mkF m 122 #[.val (.int p1), .val (.int p2), .val (.int p3), .val (.int p4), .val (.int p5), .val (.long q6), .second, .val (.ref b1), .val (.int (p2 &&& (31 : Int32))), .val (.int ((1 : Int32) <<< ((p2 &&& (31 : Int32)) &&& 31))), .val (.int (bz (¬ ((p1 &&& (p2 ||| p3)) = (0 : Int32))))), .val (.int (bz (¬ ((p1 &&& p2) = (0 : Int32))))), .val (.int (bz (¬ ((p1 &&& p3) = (0 : Int32))))), .val (.int (bz (¬ ((p1 &&& ((1 : Int32) <<< ((p2 &&& (31 : Int32)) &&& 31))) = (0 : Int32))))), .val (.int (bz (¬ ((p1 &&& (0 : Int32)) = (0 : Int32))))), .val (.int (bz (¬ ((p1 &&& (-1 : Int32)) = (0 : Int32))))), .val (.int (bz (¬ ((((p1.toUInt32 >>> ((p2 &&& (31 : Int32)) &&& 31).toUInt32).toInt32) &&& (1 : Int32)) = (0 : Int32))))), .val (.int (bz (¬ (p1 = (0 : Int32)))))] [(.int v122_7), (.int (bz (¬ ((p1 &&& (p2 ||| p3)) = (0 : Int32)))))]))
        have hc122_8 : (bz (¬ ((p1 &&& (p2 ||| p3)) = (0 : Int32)))) = v122_7 := own_f1 p1 p2 p3 _ hv122_7
        refine go (fun _ k => XS.icmpNo X10.here hx rfl (hb hby at_122) rfl (teq hc122_8).2 k) ?_
        show Go p e below _ (T10.setTop (mkF m 125 #[.val (.int p1), .val (.int p2), .val (.int p3), .val (.int p4), .val (.int p5), .val (.long q6), .second, .val (.ref b1), .val (.int (p2 &&& (31 : Int32))), .val (.int ((1 : Int32) <<< ((p2 &&& (31 : Int32)) &&& 31))), .val (.int (bz (¬ ((p1 &&& (p2 ||| p3)) = (0 : Int32))))), .val (.int (bz (¬ ((p1 &&& p2) = (0 : Int32))))), .val (.int (bz (¬ ((p1 &&& p3) = (0 : Int32))))), .val (.int (bz (¬ ((p1 &&& ((1 : Int32) <<< ((p2 &&& (31 : Int32)) &&& 31))) = (0 : Int32))))), .val (.int (bz (¬ ((p1 &&& (0 : Int32)) = (0 : Int32))))), .val (.int (bz (¬ ((p1 &&& (-1 : Int32)) = (0 : Int32))))), .val (.int (bz (¬ ((((p1.toUInt32 >>> ((p2 &&& (31 : Int32)) &&& 31).toUInt32).toInt32) &&& (1 : Int32)) = (0 : Int32))))), .val (.int (bz (¬ (p1 = (0 : Int32)))))] []))
        refine go (fun _ k => XS.iload X10.here hx rfl (hb hby at_125) rfl  k) ?_
        show Go p e below _ (T10.setTop (mkF m 127 #[.val (.int p1), .val (.int p2), .val (.int p3), .val (.int p4), .val (.int p5), .val (.long q6), .second, .val (.ref b1), .val (.int (p2 &&& (31 : Int32))), .val (.int ((1 : Int32) <<< ((p2 &&& (31 : Int32)) &&& 31))), .val (.int (bz (¬ ((p1 &&& (p2 ||| p3)) = (0 : Int32))))), .val (.int (bz (¬ ((p1 &&& p2) = (0 : Int32))))), .val (.int (bz (¬ ((p1 &&& p3) = (0 : Int32))))), .val (.int (bz (¬ ((p1 &&& ((1 : Int32) <<< ((p2 &&& (31 : Int32)) &&& 31))) = (0 : Int32))))), .val (.int (bz (¬ ((p1 &&& (0 : Int32)) = (0 : Int32))))), .val (.int (bz (¬ ((p1 &&& (-1 : Int32)) = (0 : Int32))))), .val (.int (bz (¬ ((((p1.toUInt32 >>> ((p2 &&& (31 : Int32)) &&& 31).toUInt32).toInt32) &&& (1 : Int32)) = (0 : Int32))))), .val (.int (bz (¬ (p1 = (0 : Int32)))))] [(.int (bz (¬ ((p1 &&& ((1 : Int32) <<< ((p2 &&& (31 : Int32)) &&& 31))) = (0 : Int32)))))]))
        refine go (fun _ k => XS.iload X10.here hx rfl (hb hby at_127) rfl  k) ?_
        show Go p e below _ (T10.setTop (mkF m 129 #[.val (.int p1), .val (.int p2), .val (.int p3), .val (.int p4), .val (.int p5), .val (.long q6), .second, .val (.ref b1), .val (.int (p2 &&& (31 : Int32))), .val (.int ((1 : Int32) <<< ((p2 &&& (31 : Int32)) &&& 31))), .val (.int (bz (¬ ((p1 &&& (p2 ||| p3)) = (0 : Int32))))), .val (.int (bz (¬ ((p1 &&& p2) = (0 : Int32))))), .val (.int (bz (¬ ((p1 &&& p3) = (0 : Int32))))), .val (.int (bz (¬ ((p1 &&& ((1 : Int32) <<< ((p2 &&& (31 : Int32)) &&& 31))) = (0 : Int32))))), .val (.int (bz (¬ ((p1 &&& (0 : Int32)) = (0 : Int32))))), .val (.int (bz (¬ ((p1 &&& (-1 : Int32)) = (0 : Int32))))), .val (.int (bz (¬ ((((p1.toUInt32 >>> ((p2 &&& (31 : Int32)) &&& 31).toUInt32).toInt32) &&& (1 : Int32)) = (0 : Int32))))), .val (.int (bz (¬ (p1 = (0 : Int32)))))] [(.int (bz (¬ ((((p1.toUInt32 >>> ((p2 &&& (31 : Int32)) &&& 31).toUInt32).toInt32) &&& (1 : Int32)) = (0 : Int32))))), (.int (bz (¬ ((p1 &&& ((1 : Int32) <<< ((p2 &&& (31 : Int32)) &&& 31))) = (0 : Int32)))))]))
        have hc129_9 : (bz (¬ ((p1 &&& ((1 : Int32) <<< ((p2 &&& (31 : Int32)) &&& 31))) = (0 : Int32)))) = (bz (¬ ((((p1.toUInt32 >>> ((p2 &&& (31 : Int32)) &&& 31).toUInt32).toInt32) &&& (1 : Int32)) = (0 : Int32)))) := own_f2 p1 p2
        refine go (fun _ k => XS.icmpNo X10.here hx rfl (hb hby at_129) rfl (teq hc129_9).2 k) ?_
        show Go p e below _ (T10.setTop (mkF m 132 #[.val (.int p1), .val (.int p2), .val (.int p3), .val (.int p4), .val (.int p5), .val (.long q6), .second, .val (.ref b1), .val (.int (p2 &&& (31 : Int32))), .val (.int ((1 : Int32) <<< ((p2 &&& (31 : Int32)) &&& 31))), .val (.int (bz (¬ ((p1 &&& (p2 ||| p3)) = (0 : Int32))))), .val (.int (bz (¬ ((p1 &&& p2) = (0 : Int32))))), .val (.int (bz (¬ ((p1 &&& p3) = (0 : Int32))))), .val (.int (bz (¬ ((p1 &&& ((1 : Int32) <<< ((p2 &&& (31 : Int32)) &&& 31))) = (0 : Int32))))), .val (.int (bz (¬ ((p1 &&& (0 : Int32)) = (0 : Int32))))), .val (.int (bz (¬ ((p1 &&& (-1 : Int32)) = (0 : Int32))))), .val (.int (bz (¬ ((((p1.toUInt32 >>> ((p2 &&& (31 : Int32)) &&& 31).toUInt32).toInt32) &&& (1 : Int32)) = (0 : Int32))))), .val (.int (bz (¬ (p1 = (0 : Int32)))))] []))
        refine go (fun _ k => XS.iload X10.here hx rfl (hb hby at_132) rfl  k) ?_
        show Go p e below _ (T10.setTop (mkF m 134 #[.val (.int p1), .val (.int p2), .val (.int p3), .val (.int p4), .val (.int p5), .val (.long q6), .second, .val (.ref b1), .val (.int (p2 &&& (31 : Int32))), .val (.int ((1 : Int32) <<< ((p2 &&& (31 : Int32)) &&& 31))), .val (.int (bz (¬ ((p1 &&& (p2 ||| p3)) = (0 : Int32))))), .val (.int (bz (¬ ((p1 &&& p2) = (0 : Int32))))), .val (.int (bz (¬ ((p1 &&& p3) = (0 : Int32))))), .val (.int (bz (¬ ((p1 &&& ((1 : Int32) <<< ((p2 &&& (31 : Int32)) &&& 31))) = (0 : Int32))))), .val (.int (bz (¬ ((p1 &&& (0 : Int32)) = (0 : Int32))))), .val (.int (bz (¬ ((p1 &&& (-1 : Int32)) = (0 : Int32))))), .val (.int (bz (¬ ((((p1.toUInt32 >>> ((p2 &&& (31 : Int32)) &&& 31).toUInt32).toInt32) &&& (1 : Int32)) = (0 : Int32))))), .val (.int (bz (¬ (p1 = (0 : Int32)))))] [(.int (bz (¬ ((p1 &&& (0 : Int32)) = (0 : Int32)))))]))
        have hc134_10 : ¬ (¬ ((p1 &&& (0 : Int32)) = (0 : Int32))) := own_f3 p1
        refine go (fun _ k => XS.ifNo X10.here hx rfl (hb hby at_134) rfl ((if0 _ _).trans (teq (bz_f hc134_10)).2) k) ?_
        show Go p e below _ (T10.setTop (mkF m 137 #[.val (.int p1), .val (.int p2), .val (.int p3), .val (.int p4), .val (.int p5), .val (.long q6), .second, .val (.ref b1), .val (.int (p2 &&& (31 : Int32))), .val (.int ((1 : Int32) <<< ((p2 &&& (31 : Int32)) &&& 31))), .val (.int (bz (¬ ((p1 &&& (p2 ||| p3)) = (0 : Int32))))), .val (.int (bz (¬ ((p1 &&& p2) = (0 : Int32))))), .val (.int (bz (¬ ((p1 &&& p3) = (0 : Int32))))), .val (.int (bz (¬ ((p1 &&& ((1 : Int32) <<< ((p2 &&& (31 : Int32)) &&& 31))) = (0 : Int32))))), .val (.int (bz (¬ ((p1 &&& (0 : Int32)) = (0 : Int32))))), .val (.int (bz (¬ ((p1 &&& (-1 : Int32)) = (0 : Int32))))), .val (.int (bz (¬ ((((p1.toUInt32 >>> ((p2 &&& (31 : Int32)) &&& 31).toUInt32).toInt32) &&& (1 : Int32)) = (0 : Int32))))), .val (.int (bz (¬ (p1 = (0 : Int32)))))] []))
        refine go (fun _ k => XS.iload X10.here hx rfl (hb hby at_137) rfl  k) ?_
        show Go p e below _ (T10.setTop (mkF m 139 #[.val (.int p1), .val (.int p2), .val (.int p3), .val (.int p4), .val (.int p5), .val (.long q6), .second, .val (.ref b1), .val (.int (p2 &&& (31 : Int32))), .val (.int ((1 : Int32) <<< ((p2 &&& (31 : Int32)) &&& 31))), .val (.int (bz (¬ ((p1 &&& (p2 ||| p3)) = (0 : Int32))))), .val (.int (bz (¬ ((p1 &&& p2) = (0 : Int32))))), .val (.int (bz (¬ ((p1 &&& p3) = (0 : Int32))))), .val (.int (bz (¬ ((p1 &&& ((1 : Int32) <<< ((p2 &&& (31 : Int32)) &&& 31))) = (0 : Int32))))), .val (.int (bz (¬ ((p1 &&& (0 : Int32)) = (0 : Int32))))), .val (.int (bz (¬ ((p1 &&& (-1 : Int32)) = (0 : Int32))))), .val (.int (bz (¬ ((((p1.toUInt32 >>> ((p2 &&& (31 : Int32)) &&& 31).toUInt32).toInt32) &&& (1 : Int32)) = (0 : Int32))))), .val (.int (bz (¬ (p1 = (0 : Int32)))))] [(.int (bz (¬ ((p1 &&& (-1 : Int32)) = (0 : Int32)))))]))
        refine go (fun _ k => XS.iload X10.here hx rfl (hb hby at_139) rfl  k) ?_
        show Go p e below _ (T10.setTop (mkF m 141 #[.val (.int p1), .val (.int p2), .val (.int p3), .val (.int p4), .val (.int p5), .val (.long q6), .second, .val (.ref b1), .val (.int (p2 &&& (31 : Int32))), .val (.int ((1 : Int32) <<< ((p2 &&& (31 : Int32)) &&& 31))), .val (.int (bz (¬ ((p1 &&& (p2 ||| p3)) = (0 : Int32))))), .val (.int (bz (¬ ((p1 &&& p2) = (0 : Int32))))), .val (.int (bz (¬ ((p1 &&& p3) = (0 : Int32))))), .val (.int (bz (¬ ((p1 &&& ((1 : Int32) <<< ((p2 &&& (31 : Int32)) &&& 31))) = (0 : Int32))))), .val (.int (bz (¬ ((p1 &&& (0 : Int32)) = (0 : Int32))))), .val (.int (bz (¬ ((p1 &&& (-1 : Int32)) = (0 : Int32))))), .val (.int (bz (¬ ((((p1.toUInt32 >>> ((p2 &&& (31 : Int32)) &&& 31).toUInt32).toInt32) &&& (1 : Int32)) = (0 : Int32))))), .val (.int (bz (¬ (p1 = (0 : Int32)))))] [(.int (bz (¬ (p1 = (0 : Int32))))), (.int (bz (¬ ((p1 &&& (-1 : Int32)) = (0 : Int32)))))]))
        have hc141_11 : (bz (¬ ((p1 &&& (-1 : Int32)) = (0 : Int32)))) = (bz (¬ (p1 = (0 : Int32)))) := own_f4 p1
        refine go (fun _ k => XS.icmpNo X10.here hx rfl (hb hby at_141) rfl (teq hc141_11).2 k) ?_
        show Go p e below _ (T10.setTop (mkF m 144 #[.val (.int p1), .val (.int p2), .val (.int p3), .val (.int p4), .val (.int p5), .val (.long q6), .second, .val (.ref b1), .val (.int (p2 &&& (31 : Int32))), .val (.int ((1 : Int32) <<< ((p2 &&& (31 : Int32)) &&& 31))), .val (.int (bz (¬ ((p1 &&& (p2 ||| p3)) = (0 : Int32))))), .val (.int (bz (¬ ((p1 &&& p2) = (0 : Int32))))), .val (.int (bz (¬ ((p1 &&& p3) = (0 : Int32))))), .val (.int (bz (¬ ((p1 &&& ((1 : Int32) <<< ((p2 &&& (31 : Int32)) &&& 31))) = (0 : Int32))))), .val (.int (bz (¬ ((p1 &&& (0 : Int32)) = (0 : Int32))))), .val (.int (bz (¬ ((p1 &&& (-1 : Int32)) = (0 : Int32))))), .val (.int (bz (¬ ((((p1.toUInt32 >>> ((p2 &&& (31 : Int32)) &&& 31).toUInt32).toInt32) &&& (1 : Int32)) = (0 : Int32))))), .val (.int (bz (¬ (p1 = (0 : Int32)))))] []))
        refine go (fun _ k => XS.iconst X10.here hx rfl (hb hby at_144) k) ?_
        show Go p e below _ (T10.setTop (mkF m 145 #[.val (.int p1), .val (.int p2), .val (.int p3), .val (.int p4), .val (.int p5), .val (.long q6), .second, .val (.ref b1), .val (.int (p2 &&& (31 : Int32))), .val (.int ((1 : Int32) <<< ((p2 &&& (31 : Int32)) &&& 31))), .val (.int (bz (¬ ((p1 &&& (p2 ||| p3)) = (0 : Int32))))), .val (.int (bz (¬ ((p1 &&& p2) = (0 : Int32))))), .val (.int (bz (¬ ((p1 &&& p3) = (0 : Int32))))), .val (.int (bz (¬ ((p1 &&& ((1 : Int32) <<< ((p2 &&& (31 : Int32)) &&& 31))) = (0 : Int32))))), .val (.int (bz (¬ ((p1 &&& (0 : Int32)) = (0 : Int32))))), .val (.int (bz (¬ ((p1 &&& (-1 : Int32)) = (0 : Int32))))), .val (.int (bz (¬ ((((p1.toUInt32 >>> ((p2 &&& (31 : Int32)) &&& 31).toUInt32).toInt32) &&& (1 : Int32)) = (0 : Int32))))), .val (.int (bz (¬ (p1 = (0 : Int32)))))] [(.int (1 : Int32))]))
        refine go (fun _ k => XS.goto X10.here hx rfl (pc0 := 145) (pc' := 149) rfl (hb hby at_145) (by decide) (by decide) k) ?_
        show Go p e below _ (T10.setTop (mkF m 149 #[.val (.int p1), .val (.int p2), .val (.int p3), .val (.int p4), .val (.int p5), .val (.long q6), .second, .val (.ref b1), .val (.int (p2 &&& (31 : Int32))), .val (.int ((1 : Int32) <<< ((p2 &&& (31 : Int32)) &&& 31))), .val (.int (bz (¬ ((p1 &&& (p2 ||| p3)) = (0 : Int32))))), .val (.int (bz (¬ ((p1 &&& p2) = (0 : Int32))))), .val (.int (bz (¬ ((p1 &&& p3) = (0 : Int32))))), .val (.int (bz (¬ ((p1 &&& ((1 : Int32) <<< ((p2 &&& (31 : Int32)) &&& 31))) = (0 : Int32))))), .val (.int (bz (¬ ((p1 &&& (0 : Int32)) = (0 : Int32))))), .val (.int (bz (¬ ((p1 &&& (-1 : Int32)) = (0 : Int32))))), .val (.int (bz (¬ ((((p1.toUInt32 >>> ((p2 &&& (31 : Int32)) &&& 31).toUInt32).toInt32) &&& (1 : Int32)) = (0 : Int32))))), .val (.int (bz (¬ (p1 = (0 : Int32)))))] [(.int (1 : Int32))]))
        obtain ⟨fs, hr, hrun, hended, hW, hsame⟩ := X10.leave (v := some (.int (1 : Int32))) (fun h => by rw [Bd.returns] at h; cases h)
        refine leaf (T := T10) ⟨fs, retN X10 hx (t := .boolean) Bd.returns (by simp) (hb hby at_149) hr, hrun, hended, hW, hsame⟩ ?_ (by decide) (by decide)
        show Q0 Z p1 p2 p3 p4 p5 q6 h0 n0 _ T10.heap _
        rw [e10]
        exact ⟨rfl, N10⟩
      by_cases hc109_5 : ¬ ((p1 &&& p2) = (0 : Int32))
      · skip
        refine go (fun _ k => XS.ifYes X10.here hx rfl (pc0 := 109) (pc' := 117) rfl (hb hby at_109) rfl ((if0 _ _).trans (feq (bz_ne hc109_5)).2) (by decide) (by decide) k) ?_
        show Go p e below _ (T10.setTop (mkF m 117 #[.val (.int p1), .val (.int p2), .val (.int p3), .val (.int p4), .val (.int p5), .val (.long q6), .second, .val (.ref b1), .val (.int (p2 &&& (31 : Int32))), .val (.int ((1 : Int32) <<< ((p2 &&& (31 : Int32)) &&& 31))), .val (.int (bz (¬ ((p1 &&& (p2 ||| p3)) = (0 : Int32))))), .val (.int (bz (¬ ((p1 &&& p2) = (0 : Int32))))), .val (.int (bz (¬ ((p1 &&& p3) = (0 : Int32))))), .val (.int (bz (¬ ((p1 &&& ((1 : Int32) <<< ((p2 &&& (31 : Int32)) &&& 31))) = (0 : Int32))))), .val (.int (bz (¬ ((p1 &&& (0 : Int32)) = (0 : Int32))))), .val (.int (bz (¬ ((p1 &&& (-1 : Int32)) = (0 : Int32))))), .val (.int (bz (¬ ((((p1.toUInt32 >>> ((p2 &&& (31 : Int32)) &&& 31).toUInt32).toInt32) &&& (1 : Int32)) = (0 : Int32))))), .val (.int (bz (¬ (p1 = (0 : Int32)))))] [(.int (bz (¬ ((p1 &&& (p2 ||| p3)) = (0 : Int32)))))]))
        refine go (fun _ k => XS.iconst X10.here hx rfl (hb hby at_117) k) ?_
        show Go p e below _ (T10.setTop (mkF m 118 #[.val (.int p1), .val (.int p2), .val (.int p3), .val (.int p4), .val (.int p5), .val (.long q6), .second, .val (.ref b1), .val (.int (p2 &&& (31 : Int32))), .val (.int ((1 : Int32) <<< ((p2 &&& (31 : Int32)) &&& 31))), .val (.int (bz (¬ ((p1 &&& (p2 ||| p3)) = (0 : Int32))))), .val (.int (bz (¬ ((p1 &&& p2) = (0 : Int32))))), .val (.int (bz (¬ ((p1 &&& p3) = (0 : Int32))))), .val (.int (bz (¬ ((p1 &&& ((1 : Int32) <<< ((p2 &&& (31 : Int32)) &&& 31))) = (0 : Int32))))), .val (.int (bz (¬ ((p1 &&& (0 : Int32)) = (0 : Int32))))), .val (.int (bz (¬ ((p1 &&& (-1 : Int32)) = (0 : Int32))))), .val (.int (bz (¬ ((((p1.toUInt32 >>> ((p2 &&& (31 : Int32)) &&& 31).toUInt32).toInt32) &&& (1 : Int32)) = (0 : Int32))))), .val (.int (bz (¬ (p1 = (0 : Int32)))))] [(.int (1 : Int32)), (.int (bz (¬ ((p1 &&& (p2 ||| p3)) = (0 : Int32)))))]))
        refine go (fun _ k => XS.goto X10.here hx rfl (pc0 := 118) (pc' := 122) rfl (hb hby at_118) (by decide) (by decide) k) ?_
        show Go p e below _ (T10.setTop (mkF m 122 #[.val (.int p1), .val (.int p2), .val (.int p3), .val (.int p4), .val (.int p5), .val (.long q6), .second, .val (.ref b1), .val (.int (p2 &&& (31 : Int32))), .val (.int ((1 : Int32) <<< ((p2 &&& (31 : Int32)) &&& 31))), .val (.int (bz (¬ ((p1 &&& (p2 ||| p3)) = (0 : Int32))))), .val (.int (bz (¬ ((p1 &&& p2) = (0 : Int32))))), .val (.int (bz (¬ ((p1 &&& p3) = (0 : Int32))))), .val (.int (bz (¬ ((p1 &&& ((1 : Int32) <<< ((p2 &&& (31 : Int32)) &&& 31))) = (0 : Int32))))), .val (.int (bz (¬ ((p1 &&& (0 : Int32)) = (0 : Int32))))), .val (.int (bz (¬ ((p1 &&& (-1 : Int32)) = (0 : Int32))))), .val (.int (bz (¬ ((((p1.toUInt32 >>> ((p2 &&& (31 : Int32)) &&& 31).toUInt32).toInt32) &&& (1 : Int32)) = (0 : Int32))))), .val (.int (bz (¬ (p1 = (0 : Int32)))))] [(.int (1 : Int32)), (.int (bz (¬ ((p1 &&& (p2 ||| p3)) = (0 : Int32)))))]))
        exact J122_13 _ (by simp only [if_pos hc109_5, bz_t hc109_5, bz_f (fun q => q hc109_5 : ¬ ¬ (¬ ((p1 &&& p2) = (0 : Int32))))])
      · skip
        refine go (fun _ k => XS.ifNo X10.here hx rfl (hb hby at_109) rfl ((if0 _ _).trans (teq (bz_f hc109_5)).2) k) ?_
        show Go p e below _ (T10.setTop (mkF m 112 #[.val (.int p1), .val (.int p2), .val (.int p3), .val (.int p4), .val (.int p5), .val (.long q6), .second, .val (.ref b1), .val (.int (p2 &&& (31 : Int32))), .val (.int ((1 : Int32) <<< ((p2 &&& (31 : Int32)) &&& 31))), .val (.int (bz (¬ ((p1 &&& (p2 ||| p3)) = (0 : Int32))))), .val (.int (bz (¬ ((p1 &&& p2) = (0 : Int32))))), .val (.int (bz (¬ ((p1 &&& p3) = (0 : Int32))))), .val (.int (bz (¬ ((p1 &&& ((1 : Int32) <<< ((p2 &&& (31 : Int32)) &&& 31))) = (0 : Int32))))), .val (.int (bz (¬ ((p1 &&& (0 : Int32)) = (0 : Int32))))), .val (.int (bz (¬ ((p1 &&& (-1 : Int32)) = (0 : Int32))))), .val (.int (bz (¬ ((((p1.toUInt32 >>> ((p2 &&& (31 : Int32)) &&& 31).toUInt32).toInt32) &&& (1 : Int32)) = (0 : Int32))))), .val (.int (bz (¬ (p1 = (0 : Int32)))))] [(.int (bz (¬ ((p1 &&& (p2 ||| p3)) = (0 : Int32)))))]))
        refine go (fun _ k => XS.iload X10.here hx rfl (hb hby at_112) rfl  k) ?_
        show Go p e below _ (T10.setTop (mkF m 114 #[.val (.int p1), .val (.int p2), .val (.int p3), .val (.int p4), .val (.int p5), .val (.long q6), .second, .val (.ref b1), .val (.int (p2 &&& (31 : Int32))), .val (.int ((1 : Int32) <<< ((p2 &&& (31 : Int32)) &&& 31))), .val (.int (bz (¬ ((p1 &&& (p2 ||| p3)) = (0 : Int32))))), .val (.int (bz (¬ ((p1 &&& p2) = (0 : Int32))))), .val (.int (bz (¬ ((p1 &&& p3) = (0 : Int32))))), .val (.int (bz (¬ ((p1 &&& ((1 : Int32) <<< ((p2 &&& (31 : Int32)) &&& 31))) = (0 : Int32))))), .val (.int (bz (¬ ((p1 &&& (0 : Int32)) = (0 : Int32))))), .val (.int (bz (¬ ((p1 &&& (-1 : Int32)) = (0 : Int32))))), .val (.int (bz (¬ ((((p1.toUInt32 >>> ((p2 &&& (31 : Int32)) &&& 31).toUInt32).toInt32) &&& (1 : Int32)) = (0 : Int32))))), .val (.int (bz (¬ (p1 = (0 : Int32)))))] [(.int (bz (¬ ((p1 &&& p3) = (0 : Int32))))), (.int (bz (¬ ((p1 &&& (p2 ||| p3)) = (0 : Int32)))))]))
        by_cases hc114_12 : ¬ ((p1 &&& p3) = (0 : Int32))
        · skip
          refine go (fun _ k => XS.ifNo X10.here hx rfl (hb hby at_114) rfl ((if0 _ _).trans (feq (bz_ne hc114_12)).1) k) ?_
          show Go p e below _ (T10.setTop (mkF m 117 #[.val (.int p1), .val (.int p2), .val (.int p3), .val (.int p4), .val (.int p5), .val (.long q6), .second, .val (.ref b1), .val (.int (p2 &&& (31 : Int32))), .val (.int ((1 : Int32) <<< ((p2 &&& (31 : Int32)) &&& 31))), .val (.int (bz (¬ ((p1 &&& (p2 ||| p3)) = (0 : Int32))))), .val (.int (bz (¬ ((p1 &&& p2) = (0 : Int32))))), .val (.int (bz (¬ ((p1 &&& p3) = (0 : Int32))))), .val (.int (bz (¬ ((p1 &&& ((1 : Int32) <<< ((p2 &&& (31 : Int32)) &&& 31))) = (0 : Int32))))), .val (.int (bz (¬ ((p1 &&& (0 : Int32)) = (0 : Int32))))), .val (.int (bz (¬ ((p1 &&& (-1 : Int32)) = (0 : Int32))))), .val (.int (bz (¬ ((((p1.toUInt32 >>> ((p2 &&& (31 : Int32)) &&& 31).toUInt32).toInt32) &&& (1 : Int32)) = (0 : Int32))))), .val (.int (bz (¬ (p1 = (0 : Int32)))))] [(.int (bz (¬ ((p1 &&& (p2 ||| p3)) = (0 : Int32)))))]))
          refine go (fun _ k => XS.iconst X10.here hx rfl (hb hby at_117) k) ?_
          show Go p e below _ (T10.setTop (mkF m 118 #[.val (.int p1), .val (.int p2), .val (.int p3), .val (.int p4), .val (.int p5), .val (.long q6), .second, .val (.ref b1), .val (.int (p2 &&& (31 : Int32))), .val (.int ((1 : Int32) <<< ((p2 &&& (31 : Int32)) &&& 31))), .val (.int (bz (¬ ((p1 &&& (p2 ||| p3)) = (0 : Int32))))), .val (.int (bz (¬ ((p1 &&& p2) = (0 : Int32))))), .val (.int (bz (¬ ((p1 &&& p3) = (0 : Int32))))), .val (.int (bz (¬ ((p1 &&& ((1 : Int32) <<< ((p2 &&& (31 : Int32)) &&& 31))) = (0 : Int32))))), .val (.int (bz (¬ ((p1 &&& (0 : Int32)) = (0 : Int32))))), .val (.int (bz (¬ ((p1 &&& (-1 : Int32)) = (0 : Int32))))), .val (.int (bz (¬ ((((p1.toUInt32 >>> ((p2 &&& (31 : Int32)) &&& 31).toUInt32).toInt32) &&& (1 : Int32)) = (0 : Int32))))), .val (.int (bz (¬ (p1 = (0 : Int32)))))] [(.int (1 : Int32)), (.int (bz (¬ ((p1 &&& (p2 ||| p3)) = (0 : Int32)))))]))
          refine go (fun _ k => XS.goto X10.here hx rfl (pc0 := 118) (pc' := 122) rfl (hb hby at_118) (by decide) (by decide) k) ?_
          show Go p e below _ (T10.setTop (mkF m 122 #[.val (.int p1), .val (.int p2), .val (.int p3), .val (.int p4), .val (.int p5), .val (.long q6), .second, .val (.ref b1), .val (.int (p2 &&& (31 : Int32))), .val (.int ((1 : Int32) <<< ((p2 &&& (31 : Int32)) &&& 31))), .val (.int (bz (¬ ((p1 &&& (p2 ||| p3)) = (0 : Int32))))), .val (.int (bz (¬ ((p1 &&& p2) = (0 : Int32))))), .val (.int (bz (¬ ((p1 &&& p3) = (0 : Int32))))), .val (.int (bz (¬ ((p1 &&& ((1 : Int32) <<< ((p2 &&& (31 : Int32)) &&& 31))) = (0 : Int32))))), .val (.int (bz (¬ ((p1 &&& (0 : Int32)) = (0 : Int32))))), .val (.int (bz (¬ ((p1 &&& (-1 : Int32)) = (0 : Int32))))), .val (.int (bz (¬ ((((p1.toUInt32 >>> ((p2 &&& (31 : Int32)) &&& 31).toUInt32).toInt32) &&& (1 : Int32)) = (0 : Int32))))), .val (.int (bz (¬ (p1 = (0 : Int32)))))] [(.int (1 : Int32)), (.int (bz (¬ ((p1 &&& (p2 ||| p3)) = (0 : Int32)))))]))
          exact J122_13 _ (by simp only [if_neg hc109_5, bz_f hc109_5, bz_t hc109_5, if_pos hc114_12, bz_t hc114_12, bz_f (fun q => q hc114_12 : ¬ ¬ (¬ ((p1 &&& p3) = (0 : Int32))))])
        · skip
          refine go (fun _ k => XS.ifYes X10.here hx rfl (pc0 := 114) (pc' := 121) rfl (hb hby at_114) rfl ((if0 _ _).trans (teq (bz_f hc114_12)).1) (by decide) (by decide) k) ?_
          show Go p e below _ (T10.setTop (mkF m 121 #[.val (.int p1), .val (.int p2), .val (.int p3), .val (.int p4), .val (.int p5), .val (.long q6), .second, .val (.ref b1), .val (.int (p2 &&& (31 : Int32))), .val (.int ((1 : Int32) <<< ((p2 &&& (31 : Int32)) &&& 31))), .val (.int (bz (¬ ((p1 &&& (p2 ||| p3)) = (0 : Int32))))), .val (.int (bz (¬ ((p1 &&& p2) = (0 : Int32))))), .val (.int (bz (¬ ((p1 &&& p3) = (0 : Int32))))), .val (.int (bz (¬ ((p1 &&& ((1 : Int32) <<< ((p2 &&& (31 : Int32)) &&& 31))) = (0 : Int32))))), .val (.int (bz (¬ ((p1 &&& (0 : Int32)) = (0 : Int32))))), .val (.int (bz (¬ ((p1 &&& (-1 : Int32)) = (0 : Int32))))), .val (.int (bz (¬ ((((p1.toUInt32 >>> ((p2 &&& (31 : Int32)) &&& 31).toUInt32).toInt32) &&& (1 : Int32)) = (0 : Int32))))), .val (.int (bz (¬ (p1 = (0 : Int32)))))] [(.int (bz (¬ ((p1 &&& (p2 ||| p3)) = (0 : Int32)))))]))
          refine go (fun _ k => XS.iconst X10.here hx rfl (hb hby at_121) k) ?_
          show Go p e below _ (T10.setTop (mkF m 122 #[.val (.int p1), .val (.int p2), .val (.int p3), .val (.int p4), .val (.int p5), .val (.long q6), .second, .val (.ref b1), .val (.int (p2 &&& (31 : Int32))), .val (.int ((1 : Int32) <<< ((p2 &&& (31 : Int32)) &&& 31))), .val (.int (bz (¬ ((p1 &&& (p2 ||| p3)) = (0 : Int32))))), .val (.int (bz (¬ ((p1 &&& p2) = (0 : Int32))))), .val (.int (bz (¬ ((p1 &&& p3) = (0 : Int32))))), .val (.int (bz (¬ ((p1 &&& ((1 : Int32) <<< ((p2 &&& (31 : Int32)) &&& 31))) = (0 : Int32))))), .val (.int (bz (¬ ((p1 &&& (0 : Int32)) = (0 : Int32))))), .val (.int (bz (¬ ((p1 &&& (-1 : Int32)) = (0 : Int32))))), .val (.int (bz (¬ ((((p1.toUInt32 >>> ((p2 &&& (31 : Int32)) &&& 31).toUInt32).toInt32) &&& (1 : Int32)) = (0 : Int32))))), .val (.int (bz (¬ (p1 = (0 : Int32)))))] [(.int (0 : Int32)), (.int (bz (¬ ((p1 &&& (p2 ||| p3)) = (0 : Int32)))))]))
          exact J122_13 _ (by simp only [if_neg hc109_5, bz_f hc109_5, bz_t hc109_5, if_neg hc114_12, bz_f hc114_12, bz_t hc114_12])
    by_cases hc95_3 : p1 = (0 : Int32)
    · skip
      refine go (fun _ k => XS.ifYes X10.here hx rfl (pc0 := 95) (pc' := 102) rfl (hb hby at_95) rfl ((if0 _ _).trans (teq hc95_3).1) (by decide) (by decide) k) ?_
      show Go p e below _ (T10.setTop (mkF m 102 #[.val (.int p1), .val (.int p2), .val (.int p3), .val (.int p4), .val (.int p5), .val (.long q6), .second, .val (.ref b1), .val (.int (p2 &&& (31 : Int32))), .val (.int ((1 : Int32) <<< ((p2 &&& (31 : Int32)) &&& 31))), .val (.int (bz (¬ ((p1 &&& (p2 ||| p3)) = (0 : Int32))))), .val (.int (bz (¬ ((p1 &&& p2) = (0 : Int32))))), .val (.int (bz (¬ ((p1 &&& p3) = (0 : Int32))))), .val (.int (bz (¬ ((p1 &&& ((1 : Int32) <<< ((p2 &&& (31 : Int32)) &&& 31))) = (0 : Int32))))), .val (.int (bz (¬ ((p1 &&& (0 : Int32)) = (0 : Int32))))), .val (.int (bz (¬ ((p1 &&& (-1 : Int32)) = (0 : Int32))))), .val (.int (bz (¬ ((((p1.toUInt32 >>> ((p2 &&& (31 : Int32)) &&& 31).toUInt32).toInt32) &&& (1 : Int32)) = (0 : Int32))))), .unset] []))
      refine go (fun _ k => XS.iconst X10.here hx rfl (hb hby at_102) k) ?_
      show Go p e below _ (T10.setTop (mkF m 103 #[.val (.int p1), .val (.int p2), .val (.int p3), .val (.int p4), .val (.int p5), .val (.long q6), .second, .val (.ref b1), .val (.int (p2 &&& (31 : Int32))), .val (.int ((1 : Int32) <<< ((p2 &&& (31 : Int32)) &&& 31))), .val (.int (bz (¬ ((p1 &&& (p2 ||| p3)) = (0 : Int32))))), .val (.int (bz (¬ ((p1 &&& p2) = (0 : Int32))))), .val (.int (bz (¬ ((p1 &&& p3) = (0 : Int32))))), .val (.int (bz (¬ ((p1 &&& ((1 : Int32) <<< ((p2 &&& (31 : Int32)) &&& 31))) = (0 : Int32))))), .val (.int (bz (¬ ((p1 &&& (0 : Int32)) = (0 : Int32))))), .val (.int (bz (¬ ((p1 &&& (-1 : Int32)) = (0 : Int32))))), .val (.int (bz (¬ ((((p1.toUInt32 >>> ((p2 &&& (31 : Int32)) &&& 31).toUInt32).toInt32) &&& (1 : Int32)) = (0 : Int32))))), .unset] [(.int (0 : Int32))]))
      exact J103_12 _ (by simp only [if_pos hc95_3, bz_t hc95_3, bz_f (fun q => q hc95_3 : ¬ ¬ (p1 = (0 : Int32)))])
    · skip
      refine go (fun _ k => XS.ifNo X10.here hx rfl (hb hby at_95) rfl ((if0 _ _).trans (feq hc95_3).1) k) ?_
      show Go p e below _ (T10.setTop (mkF m 98 #[.val (.int p1), .val (.int p2), .val (.int p3), .val (.int p4), .val (.int p5), .val (.long q6), .second, .val (.ref b1), .val (.int (p2 &&& (31 : Int32))), .val (.int ((1 : Int32) <<< ((p2 &&& (31 : Int32)) &&& 31))), .val (.int (bz (¬ ((p1 &&& (p2 ||| p3)) = (0 : Int32))))), .val (.int (bz (¬ ((p1 &&& p2) = (0 : Int32))))), .val (.int (bz (¬ ((p1 &&& p3) = (0 : Int32))))), .val (.int (bz (¬ ((p1 &&& ((1 : Int32) <<< ((p2 &&& (31 : Int32)) &&& 31))) = (0 : Int32))))), .val (.int (bz (¬ ((p1 &&& (0 : Int32)) = (0 : Int32))))), .val (.int (bz (¬ ((p1 &&& (-1 : Int32)) = (0 : Int32))))), .val (.int (bz (¬ ((((p1.toUInt32 >>> ((p2 &&& (31 : Int32)) &&& 31).toUInt32).toInt32) &&& (1 : Int32)) = (0 : Int32))))), .unset] []))
      refine go (fun _ k => XS.iconst X10.here hx rfl (hb hby at_98) k) ?_
      show Go p e below _ (T10.setTop (mkF m 99 #[.val (.int p1), .val (.int p2), .val (.int p3), .val (.int p4), .val (.int p5), .val (.long q6), .second, .val (.ref b1), .val (.int (p2 &&& (31 : Int32))), .val (.int ((1 : Int32) <<< ((p2 &&& (31 : Int32)) &&& 31))), .val (.int (bz (¬ ((p1 &&& (p2 ||| p3)) = (0 : Int32))))), .val (.int (bz (¬ ((p1 &&& p2) = (0 : Int32))))), .val (.int (bz (¬ ((p1 &&& p3) = (0 : Int32))))), .val (.int (bz (¬ ((p1 &&& ((1 : Int32) <<< ((p2 &&& (31 : Int32)) &&& 31))) = (0 : Int32))))), .val (.int (bz (¬ ((p1 &&& (0 : Int32)) = (0 : Int32))))), .val (.int (bz (¬ ((p1 &&& (-1 : Int32)) = (0 : Int32))))), .val (.int (bz (¬ ((((p1.toUInt32 >>> ((p2 &&& (31 : Int32)) &&& 31).toUInt32).toInt32) &&& (1 : Int32)) = (0 : Int32))))), .unset] [(.int (1 : Int32))]))
      refine go (fun _ k => XS.goto X10.here hx rfl (pc0 := 99) (pc' := 103) rfl (hb hby at_99) (by decide) (by decide) k) ?_
      show Go p e below _ (T10.setTop (mkF m 103 #[.val (.int p1), .val (.int p2), .val (.int p3), .val (.int p4), .val (.int p5), .val (.long q6), .second, .val (.ref b1), .val (.int (p2 &&& (31 : Int32))), .val (.int ((1 : Int32) <<< ((p2 &&& (31 : Int32)) &&& 31))), .val (.int (bz (¬ ((p1 &&& (p2 ||| p3)) = (0 : Int32))))), .val (.int (bz (¬ ((p1 &&& p2) = (0 : Int32))))), .val (.int (bz (¬ ((p1 &&& p3) = (0 : Int32))))), .val (.int (bz (¬ ((p1 &&& ((1 : Int32) <<< ((p2 &&& (31 : Int32)) &&& 31))) = (0 : Int32))))), .val (.int (bz (¬ ((p1 &&& (0 : Int32)) = (0 : Int32))))), .val (.int (bz (¬ ((p1 &&& (-1 : Int32)) = (0 : Int32))))), .val (.int (bz (¬ ((((p1.toUInt32 >>> ((p2 &&& (31 : Int32)) &&& 31).toUInt32).toInt32) &&& (1 : Int32)) = (0 : Int32))))), .unset] [(.int (1 : Int32))]))
      exact J103_12 _ (by simp only [if_neg hc95_3, bz_f hc95_3, bz_t hc95_3])
  by_cases hc84_1 : (((p1.toUInt32 >>> ((p2 &&& (31 : Int32)) &&& 31).toUInt32).toInt32) &&& (1 : Int32)) = (0 : Int32)
  · skip
    refine go (fun _ k => XS.ifYes X10.here hx rfl (pc0 := 84) (pc' := 91) rfl (hb hby at_84) rfl ((if0 _ _).trans (teq hc84_1).1) (by decide) (by decide) k) ?_
    show Go p e below _ (T10.setTop (mkF m 91 #[.val (.int p1), .val (.int p2), .val (.int p3), .val (.int p4), .val (.int p5), .val (.long q6), .second, .val (.ref b1), .val (.int (p2 &&& (31 : Int32))), .val (.int ((1 : Int32) <<< ((p2 &&& (31 : Int32)) &&& 31))), .val (.int (bz (¬ ((p1 &&& (p2 ||| p3)) = (0 : Int32))))), .val (.int (bz (¬ ((p1 &&& p2) = (0 : Int32))))), .val (.int (bz (¬ ((p1 &&& p3) = (0 : Int32))))), .val (.int (bz (¬ ((p1 &&& ((1 : Int32) <<< ((p2 &&& (31 : Int32)) &&& 31))) = (0 : Int32))))), .val (.int (bz (¬ ((p1 &&& (0 : Int32)) = (0 : Int32))))), .val (.int (bz (¬ ((p1 &&& (-1 : Int32)) = (0 : Int32))))), .unset, .unset] []))
    refine go (fun _ k => XS.iconst X10.here hx rfl (hb hby at_91) k) ?_
    show Go p e below _ (T10.setTop (mkF m 92 #[.val (.int p1), .val (.int p2), .val (.int p3), .val (.int p4), .val (.int p5), .val (.long q6), .second, .val (.ref b1), .val (.int (p2 &&& (31 : Int32))), .val (.int ((1 : Int32) <<< ((p2 &&& (31 : Int32)) &&& 31))), .val (.int (bz (¬ ((p1 &&& (p2 ||| p3)) = (0 : Int32))))), .val (.int (bz (¬ ((p1 &&& p2) = (0 : Int32))))), .val (.int (bz (¬ ((p1 &&& p3) = (0 : Int32))))), .val (.int (bz (¬ ((p1 &&& ((1 : Int32) <<< ((p2 &&& (31 : Int32)) &&& 31))) = (0 : Int32))))), .val (.int (bz (¬ ((p1 &&& (0 : Int32)) = (0 : Int32))))), .val (.int (bz (¬ ((p1 &&& (-1 : Int32)) = (0 : Int32))))), .unset, .unset] [(.int (0 : Int32))]))
    exact J92_11 _ (by simp only [if_pos hc84_1, bz_t hc84_1, bz_f (fun q => q hc84_1 : ¬ ¬ ((((p1.toUInt32 >>> ((p2 &&& (31 : Int32)) &&& 31).toUInt32).toInt32) &&& (1 : Int32)) = (0 : Int32)))])
  · skip
    refine go (fun _ k => XS.ifNo X10.here hx rfl (hb hby at_84) rfl ((if0 _ _).trans (feq hc84_1).1) k) ?_
    show Go p e below _ (T10.setTop (mkF m 87 #[.val (.int p1), .val (.int p2), .val (.int p3), .val (.int p4), .val (.int p5), .val (.long q6), .second, .val (.ref b1), .val (.int (p2 &&& (31 : Int32))), .val (.int ((1 : Int32) <<< ((p2 &&& (31 : Int32)) &&& 31))), .val (.int (bz (¬ ((p1 &&& (p2 ||| p3)) = (0 : Int32))))), .val (.int (bz (¬ ((p1 &&& p2) = (0 : Int32))))), .val (.int (bz (¬ ((p1 &&& p3) = (0 : Int32))))), .val (.int (bz (¬ ((p1 &&& ((1 : Int32) <<< ((p2 &&& (31 : Int32)) &&& 31))) = (0 : Int32))))), .val (.int (bz (¬ ((p1 &&& (0 : Int32)) = (0 : Int32))))), .val (.int (bz (¬ ((p1 &&& (-1 : Int32)) = (0 : Int32))))), .unset, .unset] []))
    refine go (fun _ k => XS.iconst X10.here hx rfl (hb hby at_87) k) ?_
    show Go p e below _ (T10.setTop (mkF m 88 #[.val (.int p1), .val (.int p2), .val (.int p3), .val (.int p4), .val (.int p5), .val (.long q6), .second, .val (.ref b1), .val (.int (p2 &&& (31 : Int32))), .val (.int ((1 : Int32) <<< ((p2 &&& (31 : Int32)) &&& 31))), .val (.int (bz (¬ ((p1 &&& (p2 ||| p3)) = (0 : Int32))))), .val (.int (bz (¬ ((p1 &&& p2) = (0 : Int32))))), .val (.int (bz (¬ ((p1 &&& p3) = (0 : Int32))))), .val (.int (bz (¬ ((p1 &&& ((1 : Int32) <<< ((p2 &&& (31 : Int32)) &&& 31))) = (0 : Int32))))), .val (.int (bz (¬ ((p1 &&& (0 : Int32)) = (0 : Int32))))), .val (.int (bz (¬ ((p1 &&& (-1 : Int32)) = (0 : Int32))))), .unset, .unset] [(.int (1 : Int32))]))
    refine go (fun _ k => XS.goto X10.here hx rfl (pc0 := 88) (pc' := 92) rfl (hb hby at_88) (by decide) (by decide) k) ?_
    show Go p e below _ (T10.setTop (mkF m 92 #[.val (.int p1), .val (.int p2), .val (.int p3), .val (.int p4), .val (.int p5), .val (.long q6), .second, .val (.ref b1), .val (.int (p2 &&& (31 : Int32))), .val (.int ((1 : Int32) <<< ((p2 &&& (31 : Int32)) &&& 31))), .val (.int (bz (¬ ((p1 &&& (p2 ||| p3)) = (0 : Int32))))), .val (.int (bz (¬ ((p1 &&& p2) = (0 : Int32))))), .val (.int (bz (¬ ((p1 &&& p3) = (0 : Int32))))), .val (.int (bz (¬ ((p1 &&& ((1 : Int32) <<< ((p2 &&& (31 : Int32)) &&& 31))) = (0 : Int32))))), .val (.int (bz (¬ ((p1 &&& (0 : Int32)) = (0 : Int32))))), .val (.int (bz (¬ ((p1 &&& (-1 : Int32)) = (0 : Int32))))), .unset, .unset] [(.int (1 : Int32))]))
    exact J92_11 _ (by simp only [if_neg hc84_1, bz_f hc84_1, bz_t hc84_1])
set_option maxRecDepth 65536 in
set_option maxHeartbeats 40000000 in
theorem comes_1 {Post : Tables → Env → Array Value → State → Outcome → State → Prop} (hpost : ∀ tb e args s v u, (limb_1_1.after args s (.returned v) u = true ∧ limb_1_2.after args s (.returned v) u = true ∧ True) → FrameEnd s (.returned v) u (Jvm.fieldLocs frame_1_writes args s ++ Jvm.arrayLocs frame_1_arrays args s ++ Jvm.staticLocs frame_1_statics s) 16 128 → Post tb e args s (.returned v) u) :
    ArmFor flags0 classFile x code maxLocals ret World_1 tables_1 room_1 Calls_1 rest_1 Pre_1 Post := by
  intro l hfl _ _ p e ha hc hk s m args below hf hA hF happ hP
  obtain ⟨hcalls, hrest, hpre⟩ := hP
  obtain ⟨-, -, -, hnamed, -, -, -, hat⟩ := (Spec.applies_iff hf).mp happ
  obtain ⟨hg, hn⟩ := and_e (Cond.before_iff.mp (show (Jvm.Cond.and given_1 narrow_1).before args s = true from hpre))
  obtain ⟨hg1, hg2⟩ := and_e hg
  obtain ⟨hg3, hg4⟩ := and_e hg2
  obtain ⟨hg5, hg6⟩ := and_e hg4
  obtain ⟨hg7, hg8⟩ := and_e hg6
  obtain ⟨hg9, hg10⟩ := and_e hg8
  obtain ⟨hg11, hg12⟩ := and_e hg10
  obtain ⟨w0, w1, w2, w3, w4, w5, rfl⟩ : ∃ w0 w1 w2 w3 w4 w5 : Value, args = #[w0, w1, w2, w3, w4, w5] := by
    have hs : args.size = 6 := by simpa [Cond.value, given_1] using hg1
    obtain ⟨L⟩ := args
    match L, hs with
    | [w0, w1, w2, w3, w4, w5], _ => exact ⟨w0, w1, w2, w3, w4, w5, rfl⟩
  have hw := fun d (hd : d ∈ tables_1) => atoms_spec (ws := Jvm.Cond.code x code maxLocals ret :: tables_1) hat d (List.mem_cons_of_mem _ hd)
  have hfit : Fit s := fun {y c} hc i hi => by
    obtain ⟨ha, rfl⟩ := Array.getElem?_eq_some_iff.mp hc
    have q := List.all_eq_true.mp ((Array.all_eq_true_iff_forall_mem.mp hF) _ (Array.getElem_mem ha)) i (List.mem_range.mpr hi)
    simpa [Array.getElem?_eq_getElem hi] using q
  obtain ⟨i0, ei0⟩ := is_v hg3
  obtain rfl : w0 = (.int i0) := Option.some.inj ei0
  obtain ⟨i1, ei1⟩ := is_v hg5
  obtain rfl : w1 = (.int i1) := Option.some.inj ei1
  obtain ⟨i2, ei2⟩ := is_v hg7
  obtain rfl : w2 = (.int i2) := Option.some.inj ei2
  obtain ⟨i3, ei3⟩ := is_v hg9
  obtain rfl : w3 = (.int i3) := Option.some.inj ei3
  obtain ⟨i4, ei4⟩ := is_v hg11
  obtain rfl : w4 = (.int i4) := Option.some.inj ei4
  obtain ⟨i5, ei5⟩ := isL_v hg12
  obtain rfl : w5 = (.long i5) := Option.some.inj ei5
  obtain ⟨n, o, h1, h2, h3, _, L, rfl, ⟨rfl, N⟩, hq⟩ := rm0 l s _ hw tables_1 i0 i1 i2 i3 i4 i5 s.heap s.heap.size (Nat.le_refl _)  p e ha hc hk s m _ below hf ((Spec.applies_iff_loose hf).mp happ).1 ⟨rfl, State.Warmed39.refl s, rfl⟩ trivial
  refine ⟨n, _, h1, h2, h3, hpost _ _ _ _ _ _ ⟨Cond.after_iff.mpr rfl, Cond.after_iff.mpr (eq_i res_at (Term.int_eval (1)) rfl), trivial⟩ ⟨hq.1, hq.2.1, (hq.2.2.sift fun y hy => Or.inr (N y hy)).mono (by decide) (by decide)⟩⟩
theorem main_1_1 : Claimed_1_1 := comes_1 fun _ _ _ _ _ _ h hF => ⟨h.1, hF⟩
theorem main_1_2 : Claimed_1_2 := comes_1 fun _ _ _ _ _ _ h hF => ⟨h.2.1, hF⟩
end Jvm.Pilot.@@N@@
namespace Jvm.Pilot.@@N@@
open Jvm Jvm.ClassFile Sem Op Lib Jvm.Free Jvm.Stand Jvm.Pilot.@@N@@.Jvm.D
/-! MADE BY PROGRAM (witnessworld.py) out of the Statement's table words and the real class files: 10 classes; the members and pool entries that the words name. The judged class is class 1, her method 1. -/
namespace start1
open Jvm.ClassFile
def u (s : String) : CpInfo := .utf8 (stringToUtf16 s)
/-- a pool by its gaps: so many unusable entries, then the entry; so many at the end -/
def gap : Nat → List CpInfo → List CpInfo
  | 0, r => r
  | n + 1, r => .unusable :: gap n r
def poolList (es : List (Nat × CpInfo)) (last : Nat) : List CpInfo := es.foldr (fun e r => gap e.1 (e.2 :: r)) (gap last [])
def pool (es : List (Nat × CpInfo)) (last : Nat) : Array CpInfo := ⟨poolList es last⟩
def fileOf (pool : Array CpInfo) (this : Nat) (attrs : Array Attribute := #[]) (ms : Array MethodInfo := #[]) (fl : Nat := 33) (sup : Nat := 0) (ifs : Array Nat := #[]) (fds : Array FieldInfo := #[]) : ClassFile where
  minorVersion := 0
  majorVersion := 65
  constantPool := pool
  accessFlags := fl
  thisClass := this
  superClass := sup
  interfaces := ifs
  fields := fds
  methods := ms
  attributes := attrs
def plain (name : String) (sup : Option ClassId) : Class where
  name := name
  kind := .ordinary
  loader := none
  accessFlags := 33
  super := sup
  interfaces := #[]
  cf := none
  fields := #[]
  methods := #[]
  instanceTypes := #[]
  staticTypes := #[]
  resolved := #[]
  callSites := []
  init := .initialized
  statics := none
  mirror := none

def pool0 : Array CpInfo := pool [(5, u "<init>"), (0, u "()V"), (1, .class_ 10), (1, u "java/lang/Object")] 113

def k0c0 : Code := { maxStack := 0, maxLocals := 1, code := object_method_1_code, exceptionTable := #[], attributes := #[] }
def k0m0 : Method := { name := "<init>", desc := "()V", sig := { parameters := [], returnType := none }, accessFlags := 1, code := some k0c0 }
/-- java/lang/Object -/
def k0 : Class := { plain "java/lang/Object" none with
  accessFlags := 33
  interfaces := #[]
  cf := some (fileOf pool0 8 #[] #[{ accessFlags := 1, nameIndex := 5, descriptorIndex := 6, attributes := #[] }] 33 0 #[] #[])
  fields := #[]
  methods := #[k0m0]
  instanceTypes := #[]
  staticTypes := #[]
  resolved := Array.replicate 124 none
  statics := none }

def pool1 : Array CpInfo := pool [(2, .class_ 4), (1, u "java/lang/Object"), (0, u "<init>"), (0, u "()V"), (0, .class_ 8), (0, u "com/example/nuthatch/nuthatch/p2p/yamux/YamuxFrame"), (0, .methodref 7 10), (0, .nameAndType 5 11), (0, u "(IIIJ)V"), (0, .methodref 7 13), (0, .nameAndType 14 15), (0, u "has"), (0, u "(I)Z"), (0, .class_ 17), (0, u "com/example/nuthatch/nuthatch/p2p/yamux/YamuxFrameHasPinLaw"), (2, u "law"), (0, u "(IIIIIJ)Z")] 3

def k1m0 : Method := { name := "<init>", desc := "()V", sig := { parameters := [], returnType := none }, accessFlags := 2, code := none }
def k1c1 : Code := { maxStack := 7, maxLocals := 18, code := code, exceptionTable := #[], attributes := #[] }
def k1m1 : Method := { name := "law", desc := "(IIIIIJ)Z", sig := { parameters := [.int, .int, .int, .int, .int, .long], returnType := some .boolean }, accessFlags := 9, code := some k1c1 }
/-- com/example/nuthatch/nuthatch/p2p/yamux/YamuxFrameHasPinLaw -/
def k1 : Class := { plain "com/example/nuthatch/nuthatch/p2p/yamux/YamuxFrameHasPinLaw" (some 0) with
  accessFlags := 49
  interfaces := #[]
  cf := some (fileOf pool1 16 #[] #[{ accessFlags := 2, nameIndex := 5, descriptorIndex := 6, attributes := #[] }, { accessFlags := 9, nameIndex := 20, descriptorIndex := 21, attributes := #[] }] 49 2 #[] #[])
  fields := #[]
  methods := #[k1m0, k1m1]
  instanceTypes := #[]
  staticTypes := #[]
  resolved := Array.replicate 25 none
  statics := none }

def pool2 : Array CpInfo := pool [(1, .methodref 2 3), (0, .class_ 4), (0, .nameAndType 5 6), (0, u "java/lang/Object"), (0, u "<init>"), (0, u "()V"), (0, .class_ 8), (0, u "java/lang/Record")] 13

def k2c0 : Code := { maxStack := 1, maxLocals := 1, code := jdk_30_method_1_code, exceptionTable := #[], attributes := #[] }
def k2m0 : Method := { name := "<init>", desc := "()V", sig := { parameters := [], returnType := none }, accessFlags := 4, code := some k2c0 }
/-- java/lang/Record -/
def k2 : Class := { plain "java/lang/Record" (some 0) with
  accessFlags := 1057
  interfaces := #[]
  cf := some (fileOf pool2 7 #[] #[{ accessFlags := 4, nameIndex := 5, descriptorIndex := 6, attributes := #[] }] 1057 2 #[] #[])
  fields := #[]
  methods := #[k2m0]
  instanceTypes := #[]
  staticTypes := #[]
  resolved := Array.replicate 22 none
  statics := none }

def pool3 : Array CpInfo := pool [(1, .methodref 2 3), (0, .class_ 4), (0, .nameAndType 5 6), (0, u "java/lang/Record"), (0, u "<init>"), (0, u "()V"), (0, .fieldref 8 9), (0, .class_ 10), (0, .nameAndType 11 12), (0, u "com/example/nuthatch/nuthatch/p2p/yamux/YamuxFrame"), (0, u "type"), (0, u "I"), (0, .fieldref 8 14), (0, .nameAndType 15 12), (0, u "flags"), (0, .fieldref 8 17), (0, .nameAndType 18 12), (0, u "streamId"), (0, .fieldref 8 20), (0, .nameAndType 21 22), (0, u "length"), (0, u "J"), (52, u "(IIIJ)V"), (34, u "HEADER_BYTES"), (2, u "VERSION"), (1, u "DATA"), (0, u "WINDOW_UPDATE"), (1, u "PING"), (1, u "GO_AWAY"), (1, u "SYN"), (0, u "ACK"), (0, u "FIN"), (1, u "RST"), (1, u "NORMAL"), (0, u "PROTOCOL_ERROR"), (0, u "INTERNAL_ERROR"), (9, u "has"), (0, u "(I)Z")] 39

def k3c0 : Code := { maxStack := 3, maxLocals := 6, code := prog_28_method_1_code, exceptionTable := #[], attributes := #[] }
def k3m0 : Method := { name := "<init>", desc := "(IIIJ)V", sig := { parameters := [.int, .int, .int, .long], returnType := none }, accessFlags := 0, code := some k3c0 }
def k3c1 : Code := { maxStack := 2, maxLocals := 2, code := prog_28_method_4_code, exceptionTable := #[], attributes := #[] }
def k3m1 : Method := { name := "has", desc := "(I)Z", sig := { parameters := [.int], returnType := some .boolean }, accessFlags := 0, code := some k3c1 }
/-- com/example/nuthatch/nuthatch/p2p/yamux/YamuxFrame -/
def k3 : Class := { plain "com/example/nuthatch/nuthatch/p2p/yamux/YamuxFrame" (some 2) with
  accessFlags := 48
  interfaces := #[]
  cf := some (fileOf pool3 8 #[] #[{ accessFlags := 0, nameIndex := 5, descriptorIndex := 75, attributes := #[] }, { accessFlags := 0, nameIndex := 140, descriptorIndex := 141, attributes := #[] }] 48 2 #[] #[{ accessFlags := 18, nameIndex := 11, descriptorIndex := 12, attributes := #[] }, { accessFlags := 18, nameIndex := 15, descriptorIndex := 12, attributes := #[] }, { accessFlags := 18, nameIndex := 18, descriptorIndex := 12, attributes := #[] }, { accessFlags := 18, nameIndex := 21, descriptorIndex := 22, attributes := #[] }, { accessFlags := 24, nameIndex := 110, descriptorIndex := 12, attributes := #[] }, { accessFlags := 24, nameIndex := 113, descriptorIndex := 12, attributes := #[] }, { accessFlags := 24, nameIndex := 115, descriptorIndex := 12, attributes := #[] }, { accessFlags := 24, nameIndex := 116, descriptorIndex := 12, attributes := #[] }, { accessFlags := 24, nameIndex := 118, descriptorIndex := 12, attributes := #[] }, { accessFlags := 24, nameIndex := 120, descriptorIndex := 12, attributes := #[] }, { accessFlags := 24, nameIndex := 122, descriptorIndex := 12, attributes := #[] }, { accessFlags := 24, nameIndex := 123, descriptorIndex := 12, attributes := #[] }, { accessFlags := 24, nameIndex := 124, descriptorIndex := 12, attributes := #[] }, { accessFlags := 24, nameIndex := 126, descriptorIndex := 12, attributes := #[] }, { accessFlags := 24, nameIndex := 128, descriptorIndex := 12, attributes := #[] }, { accessFlags := 24, nameIndex := 129, descriptorIndex := 12, attributes := #[] }, { accessFlags := 24, nameIndex := 130, descriptorIndex := 12, attributes := #[] }])
  fields := #[{ name := "type", type := .int, accessFlags := 18, slot := 0, constantValue := 0 }, { name := "flags", type := .int, accessFlags := 18, slot := 1, constantValue := 0 }, { name := "streamId", type := .int, accessFlags := 18, slot := 2, constantValue := 0 }, { name := "length", type := .long, accessFlags := 18, slot := 3, constantValue := 0 }, { name := "HEADER_BYTES", type := .int, accessFlags := 24, slot := 0, constantValue := 0 }, { name := "VERSION", type := .int, accessFlags := 24, slot := 1, constantValue := 0 }, { name := "DATA", type := .int, accessFlags := 24, slot := 2, constantValue := 0 }, { name := "WINDOW_UPDATE", type := .int, accessFlags := 24, slot := 3, constantValue := 0 }, { name := "PING", type := .int, accessFlags := 24, slot := 4, constantValue := 0 }, { name := "GO_AWAY", type := .int, accessFlags := 24, slot := 5, constantValue := 0 }, { name := "SYN", type := .int, accessFlags := 24, slot := 6, constantValue := 0 }, { name := "ACK", type := .int, accessFlags := 24, slot := 7, constantValue := 0 }, { name := "FIN", type := .int, accessFlags := 24, slot := 8, constantValue := 0 }, { name := "RST", type := .int, accessFlags := 24, slot := 9, constantValue := 0 }, { name := "NORMAL", type := .int, accessFlags := 24, slot := 10, constantValue := 0 }, { name := "PROTOCOL_ERROR", type := .int, accessFlags := 24, slot := 11, constantValue := 0 }, { name := "INTERNAL_ERROR", type := .int, accessFlags := 24, slot := 12, constantValue := 0 }]
  methods := #[k3m0, k3m1]
  instanceTypes := #[.int, .int, .int, .long]
  staticTypes := #[.int, .int, .int, .int, .int, .int, .int, .int, .int, .int, .int, .int, .int]
  resolved := Array.replicate 181 none
  statics := none }

def pool4 : Array CpInfo := pool [(1, u "java/lang/Cloneable"), (0, .class_ 1), (0, u "java/lang/Object"), (0, .class_ 3)] 3

/-- java/lang/Cloneable -/
def k4 : Class := { plain "java/lang/Cloneable" (some 0) with
  accessFlags := 1537
  interfaces := #[]
  cf := some (fileOf pool4 2 #[] #[] 1537 4 #[] #[])
  fields := #[]
  methods := #[]
  instanceTypes := #[]
  staticTypes := #[]
  resolved := Array.replicate 8 none
  statics := none }

def pool5 : Array CpInfo := pool [(1, u "java/io/Serializable"), (0, .class_ 1), (0, u "java/lang/Object"), (0, .class_ 3)] 3

/-- java/io/Serializable -/
def k5 : Class := { plain "java/io/Serializable" (some 0) with
  accessFlags := 1537
  interfaces := #[]
  cf := some (fileOf pool5 2 #[] #[] 1537 4 #[] #[])
  fields := #[]
  methods := #[]
  instanceTypes := #[]
  staticTypes := #[]
  resolved := Array.replicate 8 none
  statics := none }

/-- the primitive byte -/
def k6 : Class := { plain "byte" none with kind := .primitive 'B', accessFlags := 0x411 }
/-- [B -/
def k7 : Class := { plain "[B" (some 0) with kind := .array 6 .byte, interfaces := #[4, 5], accessFlags := 1041 }

/-- the primitive int -/
def k8 : Class := { plain "int" none with kind := .primitive 'I', accessFlags := 0x411 }
/-- [I -/
def k9 : Class := { plain "[I" (some 0) with kind := .array 8 .int, interfaces := #[4, 5], accessFlags := 1041 }

def heap : Heap := #[]
def classes : Array Class := #[k0, k1, k2, k3, k4, k5, k6, k7, k8, k9]
def interned : List (Array UInt16 × Addr) := []
def slotsUsed : Nat := 0
def theMethod : MethodId := ⟨1, 1⟩
def args0 : Array Value := #[.int 5, .int 9, .int 3, .int 1, .int 2, .long 7]
def aboutOver (below : List Frame) : State where
  vm := { classes := classes, interned := interned.toArray }
  heap := heap
  slotsUsed := slotsUsed
  threads := #[{ frames := .invoking theMethod args0 :: below }]
def below0 : List Frame := [.native { method := ⟨0, 0⟩, args := #[] }]
def about1 : State := aboutOver below0
def p0 : Program := .bare "" "" ""
def e0 : Env := launch0.env 0 0 0
theorem w_frames : about1.frames = Frame.invoking theMethod args0 :: below0 := rfl
set_option maxRecDepth 65536 in
theorem w_args : argsFit about1.vm theMethod args0 = true := by decide +kernel
set_option maxRecDepth 65536 in
theorem w_heap : heapFits about1 = true := by decide +kernel
set_option maxRecDepth 65536 in
theorem w_runnable : about1.curStatus? = some .runnable := by decide +kernel
set_option maxRecDepth 65536 in
theorem w_alone : about1.alone = true := by decide +kernel
set_option maxRecDepth 65536 in
theorem w_named : about1.methodNamed? x = some theMethod := by decide +kernel
set_option maxRecDepth 65536 in
theorem w_hears : about1.hears theMethod below0 = true := by decide +kernel
set_option maxRecDepth 65536 in
theorem w_ripe : about1.ripe theMethod args0 below0 = true := by decide +kernel
theorem w_running : about1.status = .running := rfl
set_option maxRecDepth 65536 in
theorem w_room : about1.hasRoom e0.platform room_1 = true :=
  launch0.hasRoom_least _ room_1 (by decide +kernel) (by decide +kernel) (by decide +kernel) (by decide +kernel) (by decide +kernel) (by decide +kernel)
theorem allAtoms_all (ts : List Jvm.Cond) (a : Array Jvm.Value) (st : Jvm.State) : (allAtoms ts).before a st = ts.all (fun c => c.before a st) := by
  induction ts with
  | nil => rfl
  | cons c t ih =>
    show (Jvm.Cond.and c (allAtoms t)).before a st = _
    rw [Jvm.Cond.before_and, ih, List.all_cons]
def words1 : List Jvm.Cond := Jvm.Cond.code x code maxLocals ret :: tables_1
/-- a 'code' word, met by the world's own term for the bytes: nothing is compared byte by byte -/
theorem code_word {y : MethodName} {bytes : ByteArray} {mx : Nat} {rt : Option FieldType} {a : Array Value} {s : State} {m : MethodId} {meth : Method} {c : Code} (h1 : s.methodNamed? y = some m) (h2 : s.vm.method? m = some meth) (h3 : meth.code = some c) (h4 : c.code = bytes)
    (h5 : (c.maxLocals == mx && c.exceptionTable.isEmpty && decide (c.maxStack ≤ mostOperands) && decide (meth.sig.returnType = rt) && !meth.locks && decide (parseMethodDescriptor y.desc = some meth.sig)) = true) : (Jvm.Cond.code y bytes mx rt).before a s = true := by
  simp only [Bool.and_eq_true, beq_iff_eq, Bool.not_eq_true', decide_eq_true_eq] at h5
  obtain ⟨⟨⟨⟨⟨g1, g2⟩, g3⟩, g4⟩, g5⟩, g6⟩ := h5
  simp [Cond.before, Cond.holds, Cond.value, h1, h2, h3, h4, g1, g2, g3, g4, g5, g6]
def isCode : Jvm.Cond → Bool
  | .code _ _ _ _ => true
  | _ => false
theorem all_split {L : List Jvm.Cond} {P : Jvm.Cond → Bool} (h1 : L.all (fun c => isCode c || P c) = true) (h2 : ∀ c ∈ L.filter isCode, P c = true) : L.all P = true := by
  refine List.all_eq_true.mpr fun c hc => ?_
  have h := List.all_eq_true.mp h1 c hc
  rcases Bool.eq_false_or_eq_true (isCode c) with hi | hi
  · exact h2 c (List.mem_filter.mpr ⟨hc, hi⟩)
  · simpa [hi] using h
set_option maxRecDepth 65536 in
theorem w_c0 : (Jvm.Cond.code x code maxLocals ret).before args0 about1 = true := code_word (m := ⟨1, 1⟩) (meth := k1m1) (c := k1c1) (by decide +kernel) rfl rfl rfl (by decide +kernel)
set_option maxRecDepth 65536 in
theorem w_c1 : (Jvm.Cond.code ({ cls := "com/example/nuthatch/nuthatch/p2p/yamux/YamuxFrame", name := "<init>", desc := "(IIIJ)V" } : Jvm.MethodName) prog_28_method_1_code (6 : Nat) (Option.none : Option Jvm.ClassFile.FieldType)).before args0 about1 = true := code_word (m := ⟨3, 0⟩) (meth := k3m0) (c := k3c0) (by decide +kernel) rfl rfl rfl (by decide +kernel)
set_option maxRecDepth 65536 in
theorem w_c2 : (Jvm.Cond.code ({ cls := "java/lang/Record", name := "<init>", desc := "()V" } : Jvm.MethodName) jdk_30_method_1_code (1 : Nat) (Option.none : Option Jvm.ClassFile.FieldType)).before args0 about1 = true := code_word (m := ⟨2, 0⟩) (meth := k2m0) (c := k2c0) (by decide +kernel) rfl rfl rfl (by decide +kernel)
set_option maxRecDepth 65536 in
theorem w_c3 : (Jvm.Cond.code ({ cls := "java/lang/Object", name := "<init>", desc := "()V" } : Jvm.MethodName) object_method_1_code (1 : Nat) (Option.none : Option Jvm.ClassFile.FieldType)).before args0 about1 = true := code_word (m := ⟨0, 0⟩) (meth := k0m0) (c := k0c0) (by decide +kernel) rfl rfl rfl (by decide +kernel)
set_option maxRecDepth 65536 in
theorem w_c4 : (Jvm.Cond.code ({ cls := "com/example/nuthatch/nuthatch/p2p/yamux/YamuxFrame", name := "has", desc := "(I)Z" } : Jvm.MethodName) prog_28_method_4_code (2 : Nat) (Option.some Jvm.ClassFile.FieldType.boolean)).before args0 about1 = true := code_word (m := ⟨3, 1⟩) (meth := k3m1) (c := k3c1) (by decide +kernel) rfl rfl rfl (by decide +kernel)
def codes1 : List Jvm.Cond := [Jvm.Cond.code x code maxLocals ret, Jvm.Cond.code ({ cls := "com/example/nuthatch/nuthatch/p2p/yamux/YamuxFrame", name := "<init>", desc := "(IIIJ)V" } : Jvm.MethodName) prog_28_method_1_code (6 : Nat) (Option.none : Option Jvm.ClassFile.FieldType), Jvm.Cond.code ({ cls := "java/lang/Record", name := "<init>", desc := "()V" } : Jvm.MethodName) jdk_30_method_1_code (1 : Nat) (Option.none : Option Jvm.ClassFile.FieldType), Jvm.Cond.code ({ cls := "java/lang/Object", name := "<init>", desc := "()V" } : Jvm.MethodName) object_method_1_code (1 : Nat) (Option.none : Option Jvm.ClassFile.FieldType), Jvm.Cond.code ({ cls := "com/example/nuthatch/nuthatch/p2p/yamux/YamuxFrame", name := "has", desc := "(I)Z" } : Jvm.MethodName) prog_28_method_4_code (2 : Nat) (Option.some Jvm.ClassFile.FieldType.boolean)]
set_option maxRecDepth 65536 in
theorem codes_eq : words1.filter isCode = codes1 := rfl
theorem w_codes : ∀ c ∈ words1.filter isCode, c.before args0 about1 = true := by
  rw [codes_eq]
  intro c hc
  simp only [codes1, List.mem_cons, List.not_mem_nil, or_false] at hc
  rcases hc with rfl | rfl | rfl | rfl | rfl
  · exact w_c0
  · exact w_c1
  · exact w_c2
  · exact w_c3
  · exact w_c4
set_option maxRecDepth 65536 in
theorem w_t1 : (words1.take 24).all (fun c => isCode c || c.before args0 about1) = true := by decide +kernel
set_option maxRecDepth 65536 in
theorem w_t2 : (words1.drop 24).all (fun c => isCode c || c.before args0 about1) = true := by decide +kernel
theorem w_tables : (allAtoms (Jvm.Cond.code x code maxLocals ret :: tables_1)).before args0 about1 = true := by
  rw [allAtoms_all]
  show words1.all (fun c => c.before args0 about1) = true
  refine all_split ?_ w_codes
  rw [← List.take_append_drop 24 words1, List.all_append, w_t1, w_t2]
  rfl
set_option maxRecDepth 65536 in
theorem w_case : (Jvm.Cond.and given_1 narrow_1).before args0 about1 = true := by decide +kernel
theorem w_applies : (headSpec (Jvm.Cond.code x code maxLocals ret :: tables_1) room_1).applies x e0.platform about1 = true :=
  (Spec.applies_iff w_frames).mpr ⟨w_running, w_runnable, w_alone, w_named, w_hears, w_ripe, w_room, w_tables⟩
theorem atStart : AtStart classFile x code maxLocals ret World_1 tables_1 room_1 Calls_1 rest_1 Pre_1 launch0 p0 e0 about1 theMethod args0 below0 :=
  ⟨lists_1, trivial, launch0.admits_env _ _ _, launch0.least_env, fairChoices_fair.cas, fairChoices_fair.clock, w_frames, w_args, w_heap, w_applies, trivial, trivial, w_case⟩
end start1
theorem witness_1 : WitnessClaimed_1 := ⟨start1.p0, start1.e0, start1.about1, start1.theMethod, start1.args0, start1.below0, start1.atStart⟩
end Jvm.Pilot.@@N@@
