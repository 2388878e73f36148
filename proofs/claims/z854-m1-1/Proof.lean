import JvmDerived
import JvmDerived.Pilot.@@N@@Statement
import JvmDerived.Pilot.@@N@@Code
set_option linter.unusedVariables false
set_option linter.unusedSimpArgs false

namespace Jvm.Pilot.@@N@@
open Jvm Jvm.ClassFile Sem Op Lib Jvm.Free Jvm.Stand Jvm.LawKit Jvm.RoadKit Bundle Jvm.Pilot.@@N@@.Jvm.D
/-! the walk's own frame: a goal that goes forward step by step -/
def Go (p : Program) (e : Env) (below : List Frame) (P : State → Outcome → Prop) (A : State) : Prop := ∃ s₂ o, Steps p.tables e below A s₂ ∧ P s₂ o
theorem go {p : Program} {e : Env} {below : List Frame} {P : State → Outcome → Prop} {A B : State} (h : ∀ t, Steps p.tables e below B t → Steps p.tables e below A t) (k : Go p e below P B) : Go p e below P A := by
  obtain ⟨t, o, a, b⟩ := k
  exact ⟨t, o, h t a, b⟩
def PP (s : State) (below : List Frame) (Q : Option Value → Heap → List Loc → Prop) (ce sl : Nat) (s₂ : State) (o : Outcome) : Prop := s₂.status = .running ∧ Ended s₂ below o ∧ ∃ v L, o = .returned v ∧ Q v s₂.heap L ∧ FrameEnd s o s₂ L ce sl
theorem leaf {p : Program} {e : Env} {s A : State} {below : List Frame} {Q : Option Value → Heap → List Loc → Prop} {ce sl : Nat} {T : State} {v : Option Value} {locs : List Loc} {cells slots : Nat}
    (h : ∃ fs, Steps p.tables e below A (T.setFrames fs) ∧ (T.setFrames fs).status = .running ∧ Ended (T.setFrames fs) below (.returned v) ∧ s.WarmedH (T.setFrames fs).vm ∧ s.sameButNew ({ T.setFrames fs with vm := s.vm } : State) locs cells slots)
    (hQ : Q v T.heap locs) (hc : cells ≤ ce) (hs : slots ≤ sl) : Go p e below (PP s below Q ce sl) A := by
  obtain ⟨fs, h1, h2, h3, h4, h5⟩ := h
  exact ⟨_, _, h1, h2, h3, v, locs, rfl, hQ, ⟨_, rfl⟩, h4, h5.mono hc hs⟩
theorem retI {p : Program} {l : Launch} {e : Env} {R : Room} {s : State} {m : MethodId} {args : Array Value} {below : List Frame} {meth : Method} {c : Code} {T : State} {locs : List Loc} {cells slots : Nat} (X : Stand p l e R s m args below meth c T locs cells slots) (hx : p.tables.exec = Jvm.exec) {pc : Nat} {Ls : Array Slot} {z : Int32} {rest : List Value} (hret : meth.sig.returnType = some .int) (hd : decode c.code pc = .ok (.ireturn, 1)) {fs : List Frame}
    (hl : ∀ (f : JFrame) (acts : List Action), f.method = m → f.locked = none → f.entered = [] → (doReturn e (T.setTop f) acts (some (.int z))).1 = T.setFrames fs) : Steps p.tables e below (T.setTop (mkF m pc Ls (.int z :: rest))) (T.setFrames fs) :=
  retOut X hx hret rfl (Or.inl ⟨rfl, Or.inl rfl, z, rfl⟩) hd hl
theorem retJ {p : Program} {l : Launch} {e : Env} {R : Room} {s : State} {m : MethodId} {args : Array Value} {below : List Frame} {meth : Method} {c : Code} {T : State} {locs : List Loc} {cells slots : Nat} (X : Stand p l e R s m args below meth c T locs cells slots) (hx : p.tables.exec = Jvm.exec) {pc : Nat} {Ls : Array Slot} {z : Int64} {rest : List Value} (hret : meth.sig.returnType = some .long) (hd : decode c.code pc = .ok (.lreturn, 1)) {fs : List Frame}
    (hl : ∀ (f : JFrame) (acts : List Action), f.method = m → f.locked = none → f.entered = [] → (doReturn e (T.setTop f) acts (some (.long z))).1 = T.setFrames fs) : Steps p.tables e below (T.setTop (mkF m pc Ls (.long z :: rest))) (T.setFrames fs) :=
  retOut X hx hret rfl (Or.inr (Or.inl ⟨rfl, rfl, z, rfl⟩)) hd hl
theorem retA {p : Program} {l : Launch} {e : Env} {R : Room} {s : State} {m : MethodId} {args : Array Value} {below : List Frame} {meth : Method} {c : Code} {T : State} {locs : List Loc} {cells slots : Nat} (X : Stand p l e R s m args below meth c T locs cells slots) (hx : p.tables.exec = Jvm.exec) {pc : Nat} {Ls : Array Slot} {w : Value} {t : FieldType} {rest : List Value} (hret : meth.sig.returnType = some t) (ht : t.isReference = true) (hw : w.isRef = true) (hn : narrow t w = w) (hd : decode c.code pc = .ok (.areturn, 1)) {fs : List Frame}
    (hl : ∀ (f : JFrame) (acts : List Action), f.method = m → f.locked = none → f.entered = [] → (doReturn e (T.setTop f) acts (some w)).1 = T.setFrames fs) : Steps p.tables e below (T.setTop (mkF m pc Ls (w :: rest))) (T.setFrames fs) :=
  retOut X hx hret hn (Or.inr (Or.inr (Or.inr (Or.inr ⟨rfl, ht, hw⟩)))) hd hl
theorem own_psel {Z s : State} {a0 args : Array Value} {y : MethodName} {n : Nat} (hZ : Z.Warmed39 s.vm) (hi : (Jvm.Cond.instantiable y.cls n).before a0 Z = true) (hp : (Jvm.Cond.privateMethod y).before a0 Z = true) (hinst : (Jvm.Cond.instanceMethod y).before a0 Z = true) (hy : y.cls ≠ "java/lang/invoke/MethodHandle" ∧ y.cls ≠ "java/lang/invoke/VarHandle") : (Jvm.Cond.selects y.cls y y).before args s = true := by
  have hi' : (Jvm.Cond.instantiable y.cls n).before args s = true := mvT hZ hi
  obtain ⟨c, k, h1, h2, h3, h4, h5, h6⟩ := Cond.instantiable_spec hi'
  have h7 : k.isInterface = false := by
    cases hq : k.isInterface
    · rfl
    · rw [hq] at h4; simp at h4
  exact selects_self_of_private h1 h2 h7 (Cond.privateMethod_at (mvP hZ hp (args := args))) (mvT hZ hinst) hy
def PPW (s : State) (below : List Frame) (Q : Option Value → Heap → List Loc → Prop) (ce sl : Nat) (s₂ : State) (o : Outcome) : Prop := s₂.status = .running ∧ Ended s₂ below o ∧ ∃ v L, o = .returned v ∧ Q v s₂.heap L ∧ ReturnedEndW s o s₂ L ce sl
theorem endW_mono {s t : State} {o : Outcome} {L : List Loc} {k n k' n' : Nat} (h : ReturnedEndW s o t L k n) (hk : k ≤ k') (hn : n ≤ n') : ReturnedEndW s o t L k' n' := ⟨h.1, h.2.1, h.2.2.1, h.2.2.2.mono hk hn⟩
theorem leafW {p : Program} {e : Env} {s A : State} {below : List Frame} {Q : Option Value → Heap → List Loc → Prop} {ce sl : Nat} {T : State} {v : Option Value} {locs : List Loc} {cells slots : Nat}
    (h : ∃ fs, Steps p.tables e below A (T.setFrames fs) ∧ (T.setFrames fs).status = .running ∧ Ended (T.setFrames fs) below (.returned v) ∧ ReturnedEndW s (.returned v) (T.setFrames fs) locs cells slots)
    (hQ : Q v T.heap locs) (hc : cells ≤ ce) (hs : slots ≤ sl) : Go p e below (PPW s below Q ce sl) A := by
  obtain ⟨fs, h1, h2, h3, h4⟩ := h
  exact ⟨_, _, h1, h2, h3, v, locs, rfl, hQ, endW_mono h4 hc hs⟩
def PPH (Z : State) (EL : List (String × Nat)) (s : State) (below : List Frame) (Q : Option Value → Heap → List Loc → Prop) (ce sl : Nat) (s₂ : State) (o : Outcome) : Prop := s₂.status = .running ∧ Ended s₂ below o ∧ ∃ v L, o = .returned v ∧ Q v s₂.heap L ∧ CHr Z EL s.vm s.heap s₂.vm s₂.heap ∧ ReturnedEndW s o s₂ L ce sl
theorem leafH {Z : State} {EL : List (String × Nat)} {p : Program} {e : Env} {s A : State} {below : List Frame} {Q : Option Value → Heap → List Loc → Prop} {ce sl : Nat} {T : State} {v : Option Value} {locs : List Loc} {cells slots : Nat}
    (h : ∃ fs, Steps p.tables e below A (T.setFrames fs) ∧ (T.setFrames fs).status = .running ∧ Ended (T.setFrames fs) below (.returned v) ∧ ReturnedEndW s (.returned v) (T.setFrames fs) locs cells slots)
    (hQ : Q v T.heap locs) (hR : CHr Z EL s.vm s.heap T.vm T.heap) (hc : cells ≤ ce) (hs : slots ≤ sl) : Go p e below (PPH Z EL s below Q ce sl) A := by
  obtain ⟨fs, h1, h2, h3, h4⟩ := h
  exact ⟨_, _, h1, h2, h3, v, locs, rfl, hQ, hR, endW_mono h4 hc hs⟩
theorem reS {p : Program} {l : Launch} {e : Env} {R : Room} {s : State} {m : MethodId} {args : Array Value} {below : List Frame} {meth : Method} {c : Code} {T : State} {locs : List Loc} {cells slots : Nat} {vm0 vm1 : Vm} (X : Stand p l e R ((s.setVm vm0).setVm vm1) m args below meth c T locs cells slots) : Stand p l e R (s.setVm vm1) m args below meth c T locs cells slots := X
theorem coldZ {Z s : State} {vm0 vm1 : Vm} {n : Nat} (hZ : Z.Warmed39 (s.setVm vm0).vm) (h2 : (s.setVm vm0).Since vm1 n) : Z.Warmed39 (s.setVm vm1).vm := State.Warmed39.trans (t := s.setVm vm0) hZ h2.1
theorem coldO {s : State} {vm0 vm1 : Vm} {n : Nat} {own : String} {c : ClassId} (hown : (s.setVm vm0).vm.findClass own = some c) (h2 : (s.setVm vm0).Since vm1 n) : (s.setVm vm1).vm.findClass own = some c := by
  rw [show (s.setVm vm1).vm = vm1 from rfl, h2.1.alike.findClass]; exact hown
theorem own_cat {v : Value} (h : v.isRef = true) : v.category = 1 := by rcases ref_cases h with rfl | ⟨_, rfl⟩ <;> rfl
theorem own_nar {t : FieldType} {v : Value} (h : v.isRef = true) (ht : t.isReference = true) : narrow t v = v := by rcases ref_cases h with rfl | ⟨_, rfl⟩ <;> cases t <;> first | rfl | (cases ht)
theorem own_fit {t : FieldType} {v : Value} (h : v.isRef = true) (ht : t.isReference = true) : fits t v = true := by rcases ref_cases h with rfl | ⟨_, rfl⟩ <;> cases t <;> first | rfl | (cases ht)
/-! a truth as Java's int -/
def bz (c : Prop) [Decidable c] : Int32 := if c then 1 else 0
theorem bz_t {c : Prop} [Decidable c] (h : c) : bz c = 1 := if_pos h
theorem bz_f {c : Prop} [Decidable c] (h : ¬ c) : bz c = 0 := if_neg h
theorem bz_ne {c : Prop} [Decidable c] (h : c) : ¬ (bz c = 0) := by rw [bz_t h]; decide
theorem bz_nf {c : Prop} [Decidable c] (h : ¬ c) : ¬ (bz c = 1) := by rw [bz_f h]; decide
theorem bz_congr {c d : Prop} [Decidable c] [Decidable d] (h : c ↔ d) : bz c = bz d := by by_cases q : c; rw [bz_t q, bz_t (h.mp q)]; rw [bz_f q, bz_f (fun z => q (h.mpr z))]
theorem bz_nar (c : Prop) [Decidable c] : nar .boolean (bz c) = bz c := by by_cases q : c; rw [bz_t q]; rfl; rw [bz_f q]; rfl

theorem own_shr0 (n : Int32) : (n >>> ((0 : Int32) &&& 31)) = n := by
  have := c_ishr n 0 0 (by decide)
  rw [← Int32.toInt_inj, this]; simp

theorem own_cs {args : Array Value} {s : State} {x : Int32} (e : (Term.static "java/lang/String" "COMPACT_STRINGS" "Z").eval args s none [] s = some (.int x)) (h : (Jvm.Cond.not (.eq (.static "java/lang/String" "COMPACT_STRINGS" "Z") (.int 0))).value args s none s [] = some true) : ¬ (x = (0 : Int32)) := by
  have h1 := not_v h
  intro q
  subst q
  have h2 : (Jvm.Cond.eq (.static "java/lang/String" "COMPACT_STRINGS" "Z") (.int 0)).value args s none s [] = some true := eq_i e (Term.int_eval 0) rfl
  rw [h2] at h1
  cases h1

theorem own_safeNull {Z : State} {EL : List (String × Nat)} {vm : Vm} {h : Heap} {x : Addr} (hal : Z.vm.Alike vm) (F : Fld Z h x "java/lang/String" "value" "[B" .null) (E : Exa Z h x "java/lang/String") : Safe Z EL vm h x := fun B => by
  obtain ⟨p, -, u, a, -, q, -, G, rfl | rfl⟩ := B
  · obtain ⟨cell, cf, k, i, f, h1, h2, -, -, -, -, h7⟩ := F
    cases (show h[q.sa]? = some q.sC from G.ha).symm.trans h1
    obtain ⟨cS, ⟨⟨-, -, -, ⟨c1, k1, i1, f1, -⟩, -, -, -, v1, -⟩, -⟩, -⟩ := G
    obtain ⟨k', hi, -⟩ := State.fieldFound?_setVm (s := Z) hal h2
    have f2 : (Z.setVm vm).fieldFound? "java/lang/String" "value" "[B" = some (c1, k1, i1, q.fSV) := f1
    rw [hi] at f2
    cases f2
    rw [h7] at v1
    cases v1
  · obtain ⟨cell, k, e1, e2, e3, -, -⟩ := E
    cases (show h[q.sd]? = some q.SA from G.hd).symm.trans e1
    obtain ⟨cS, -, -, f, -⟩ := G
    have f' : Z.vm.findClass "[B" = some q.SA.cls := by rw [← hal.findClass]; exact f
    exact ids_ne f' e2 (by decide) rfl

theorem own_wS : ∀ a ∈ Bundle.stringAtoms, a ∈ tables_1 := by decide +kernel
def ownEL : List (String × Nat) := [("java/lang/String", 7)]
theorem own_EW {Z : State} {a0 : Array Value} (hw : ∀ d ∈ tables_1, d.before a0 Z = true) : EW Z a0 ownEL := EW.cons (hw _ (List.mem_of_getElem? (i := 53) rfl)) (by decide) EW.nil
theorem own_in : ∀ p ∈ ownEL, p ∈ consts_1 := by decide
theorem own_255 (x : Int32) : ¬ ((255 : Int32) < ((x &&& (255 : Int32)).toUInt32.toUInt16.toUInt32.toInt32)) := by
  rw [i2c_mask]
  have := c_mask x 255 8 (by decide) (by decide)
  have q : (255 : Int32).toInt = 255 := by decide
  rw [Int32.lt_iff_toInt_lt, q]; omega
theorem own_255c (x : Int32) : ¬ ((255 : Int32) < (nar .char ((x &&& (255 : Int32)).toUInt32.toUInt16.toUInt32.toInt32))) := by
  rw [i2c_mask]
  exact own_255 x
theorem pn_0 : plainName "java/lang/Record" = true := by first | (simp [plainName, overriddenIn]; done) | decide +kernel
theorem d8_0 : decode jdk_30_method_1_code 0 = .ok (.aload_n 0, 1) := by decide +kernel
theorem d8_1 : decode jdk_30_method_1_code 1 = .ok (.invokespecial 1, 3) := by decide +kernel
theorem d8_4 : decode jdk_30_method_1_code 4 = .ok (.return_, 1) := by decide +kernel
theorem ef_rm8 (m : MethodId) (a1 : Addr) : entryFrame m #[(.ref a1)] 1 = mkF m 0 #[.val (.ref a1)] [] := by first | (simp [entryFrame, mkF, argsToLocals, Value.category]; done) | rfl
def Q8 (Z : State) (a1 : Addr) (h0 : Heap) (n0 : Nat) (v : Option Value) (h : Heap) (L : List Loc) : Prop := v = none ∧ Fr n0 L ∧ h = h0
set_option maxRecDepth 65536 in
set_option maxHeartbeats 40000000 in
theorem rm8 (l : Launch) (Z : State) (a0 : Array Value) (hw : ∀ d ∈ tables_1, d.before a0 Z = true) (ws : List Jvm.Cond) (a1 : Addr) (h0 : Heap) (n0 : Nat) (Z0 : n0 ≤ h0.size) :
    MetFree l (⟨"java/lang/Record", "<init>", "()V"⟩ : MethodName) (head1 (Jvm.Cond.code (⟨"java/lang/Record", "<init>", "()V"⟩ : MethodName) jdk_30_method_1_code 1 none :: ws) ({ frames := 1, cells := 0, slots := 0, locals := 12 } : Room)) (fun a U => a = #[(.ref a1)] ∧ Z.Warmed39 U.vm ∧ U.heap = h0) (fun _ _ _ _ _ => True) (fun _ U o U' => ∃ v L, o = .returned v ∧ Q8 Z a1 h0 n0 v U'.heap L ∧ FrameEnd U o U' L ({ frames := 1, cells := 0, slots := 0, locals := 12 } : Room).cells ({ frames := 1, cells := 0, slots := 0, locals := 12 } : Room).slots) := by
  refine MetFree.of_bodySF (plainFor_of_name pn_0) hisR ?_
  intro p e s m args below meth c s₁ Bd hml0 hP hK
  obtain ⟨rfl, hZ, hh⟩ := hP
  have hx := Bd.exec
  have hby := Bd.bytes
  have hml : c.maxLocals = 1 := hml0
  have hown : s.vm.findClass "java/lang/Record" = some m.cls := findClass_of_methodNamed Bd.named
  have hnm := (name_of_methodNamed Bd.named Bd.method).1
  have X0 : Stand p l e ({ frames := 1, cells := 0, slots := 0, locals := 12 } : Room) s m #[(.ref a1)] below meth c s₁ [] 0 0 := Stand.of_body Bd
  have e0 : s₁.heap = h0 := by rw [← hh, Bd.state]; rfl
  have N0 := Fr.nil n0
  show Go p e below (PP s below (Q8 Z a1 h0 n0) ({ frames := 1, cells := 0, slots := 0, locals := 12 } : Room).cells ({ frames := 1, cells := 0, slots := 0, locals := 12 } : Room).slots) (s₁.setTop (entryFrame m #[(.ref a1)] 1))
  refine go (fun _ k => castTop (ef_rm8 m a1) k) ?_
  show Go p e below _ (s₁.setTop (mkF m 0 #[.val (.ref a1)] []))
  refine go (fun _ k => XS.aloadN X0.here hx rfl (hb hby d8_0) rfl rfl  k) ?_
  show Go p e below _ (s₁.setTop (mkF m 1 #[.val (.ref a1)] [(.ref a1)]))
  obtain ⟨T1, X1, e1, st1⟩ := initO X0 hx hZ hown (hw _ (List.mem_of_getElem? (i := 41) rfl)) (hw _ (List.mem_of_getElem? (i := 12) rfl)) (hw _ (List.mem_of_getElem? (i := 13) rfl)) e0 (g := (mkF m 1 #[.val (.ref a1)] [(.ref a1)])) rfl (by rw [hml]; rfl) rfl (hb hby d8_1) (by decide) (W := 0) (by show 2 * 0 + _ ≤ _; exact Nat.le_of_eq rfl) (by decide)
  refine go st1 ?_
  show Go p e below _ (T1.setTop (mkF m 4 #[.val (.ref a1)] []))
  obtain ⟨fs, hr, hrun, hended, hW, hsame⟩ := X1.leave (v := none) (fun _ => rfl)
  refine leaf (T := T1) ⟨fs, X1.returnOut hx Bd.returns (hb hby d8_4) hr, hrun, hended, hW, hsame⟩ ?_ (by decide) (by decide)
  show Q8 Z a1 h0 n0 _ T1.heap _
  rw [e1]
  exact ⟨rfl, N0, rfl⟩
theorem pn_1 : plainName "java/lang/StringUTF16" = true := by first | (simp [plainName, overriddenIn]; done) | decide +kernel
theorem d5_0 : decode jdk_52_method_21_code 0 = .ok (.iconst 0, 1) := by decide +kernel
theorem d5_1 : decode jdk_52_method_21_code 1 = .ok (.istore 5, 2) := by decide +kernel
theorem d5_3 : decode jdk_52_method_21_code 3 = .ok (.iload 5, 2) := by decide +kernel
theorem d5_5 : decode jdk_52_method_21_code 5 = .ok (.iload 4, 2) := by decide +kernel
theorem d5_7 : decode jdk_52_method_21_code 7 = .ok (.if_icmp .ge 37, 3) := by decide +kernel
theorem d5_10 : decode jdk_52_method_21_code 10 = .ok (.aload_n 0, 1) := by decide +kernel
theorem d5_11 : decode jdk_52_method_21_code 11 = .ok (.iload_n 1, 1) := by decide +kernel
theorem d5_12 : decode jdk_52_method_21_code 12 = .ok (.caload, 1) := by decide +kernel
theorem d5_13 : decode jdk_52_method_21_code 13 = .ok (.istore 6, 2) := by decide +kernel
theorem d5_15 : decode jdk_52_method_21_code 15 = .ok (.iload 6, 2) := by decide +kernel
theorem d5_17 : decode jdk_52_method_21_code 17 = .ok (.sipush 255, 3) := by decide +kernel
theorem d5_20 : decode jdk_52_method_21_code 20 = .ok (.if_icmp .le 6, 3) := by decide +kernel
theorem d5_26 : decode jdk_52_method_21_code 26 = .ok (.aload_n 2, 1) := by decide +kernel
theorem d5_27 : decode jdk_52_method_21_code 27 = .ok (.iload_n 3, 1) := by decide +kernel
theorem d5_28 : decode jdk_52_method_21_code 28 = .ok (.iload 6, 2) := by decide +kernel
theorem d5_30 : decode jdk_52_method_21_code 30 = .ok (.i2b, 1) := by decide +kernel
theorem d5_31 : decode jdk_52_method_21_code 31 = .ok (.bastore, 1) := by decide +kernel
theorem d5_32 : decode jdk_52_method_21_code 32 = .ok (.iinc 1 1, 3) := by decide +kernel
theorem d5_35 : decode jdk_52_method_21_code 35 = .ok (.iinc 3 1, 3) := by decide +kernel
theorem d5_38 : decode jdk_52_method_21_code 38 = .ok (.iinc 5 1, 3) := by decide +kernel
theorem d5_41 : decode jdk_52_method_21_code 41 = .ok (.goto (-38), 3) := by decide +kernel
theorem d5_44 : decode jdk_52_method_21_code 44 = .ok (.iload 4, 2) := by decide +kernel
theorem d5_46 : decode jdk_52_method_21_code 46 = .ok (.ireturn, 1) := by decide +kernel
theorem ef_rmc1_1 (m : MethodId) (a1 : Addr) (a3 : Addr) : entryFrame m #[(.ref a1), (.int (0 : Int32)), (.ref a3), (.int (0 : Int32)), (.int (1 : Int32))] 7 = mkF m 0 #[.val (.ref a1), .val (.int (0 : Int32)), .val (.ref a3), .val (.int (0 : Int32)), .val (.int (1 : Int32)), .unset, .unset] [] := by first | (simp [entryFrame, mkF, argsToLocals, Value.category]; done) | rfl
def Qc1_1 (Z : State) (a1 : Addr) (a3 : Addr) (k1 : ClassId) (k3 : ClassId) (c0 : Int32) (h0 : Heap) (n0 : Nat) (v : Option Value) (h : Heap) (L : List Loc) : Prop := v = some (.int (1 : Int32)) ∧ Fr n0 L ∧ Keep h0 h [a3] ∧ Arv Z h a3 k3 .byte (1 : Int32) ([(.int (nar .byte (c0.toInt8.toInt32)))]) (.int (0 : Int32))
set_option maxRecDepth 65536 in
set_option maxHeartbeats 40000000 in
theorem rmc1_1 (l : Launch) (Z : State) (a0 : Array Value) (hw : ∀ d ∈ tables_1, d.before a0 Z = true) (ws : List Jvm.Cond) (a1 : Addr) (a3 : Addr) (k1 : ClassId) (k3 : ClassId) (c0 : Int32) (h0 : Heap) (n0 : Nat) (Z0 : n0 ≤ h0.size) (V_a1 : Arv Z h0 a1 k1 .char (1 : Int32) ([(.int c0)]) (.int (0 : Int32))) (V_a3 : Arv Z h0 a3 k3 .byte (1 : Int32) ([(.int (0 : Int32))]) (.int (0 : Int32))) (g_a3 : n0 ≤ a3) (ne1 : a1 ≠ a3) (hl0 : ¬ ((255 : Int32) < c0)) :
    MetFree l (⟨"java/lang/StringUTF16", "compress", "([CI[BII)I"⟩ : MethodName) (head1 (Jvm.Cond.code (⟨"java/lang/StringUTF16", "compress", "([CI[BII)I"⟩ : MethodName) jdk_52_method_21_code 7 (some .int) :: ws) ({ frames := 0, cells := 0, slots := 0, locals := 0 } : Room)) (fun a U => a = #[(.ref a1), (.int (0 : Int32)), (.ref a3), (.int (0 : Int32)), (.int (1 : Int32))] ∧ Z.Warmed39 U.vm ∧ U.heap = h0) (fun _ _ _ _ _ => True) (fun _ U o U' => ∃ v L, o = .returned v ∧ Qc1_1 Z a1 a3 k1 k3 c0 h0 n0 v U'.heap L ∧ FrameEnd U o U' L ({ frames := 0, cells := 0, slots := 0, locals := 0 } : Room).cells ({ frames := 0, cells := 0, slots := 0, locals := 0 } : Room).slots) := by
  refine MetFree.of_bodySF (plainFor_of_name pn_1) hisR ?_
  intro p e s m args below meth c s₁ Bd hml0 hP hK
  obtain ⟨rfl, hZ, hh⟩ := hP
  have hx := Bd.exec
  have hby := Bd.bytes
  have hml : c.maxLocals = 7 := hml0
  have hown : s.vm.findClass "java/lang/StringUTF16" = some m.cls := findClass_of_methodNamed Bd.named
  have hnm := (name_of_methodNamed Bd.named Bd.method).1
  have X0 : Stand p l e ({ frames := 0, cells := 0, slots := 0, locals := 0 } : Room) s m #[(.ref a1), (.int (0 : Int32)), (.ref a3), (.int (0 : Int32)), (.int (1 : Int32))] below meth c s₁ [] 0 0 := Stand.of_body Bd
  have e0 : s₁.heap = h0 := by rw [← hh, Bd.state]; rfl
  have N0 := Fr.nil n0
  show Go p e below (PP s below (Qc1_1 Z a1 a3 k1 k3 c0 h0 n0) ({ frames := 0, cells := 0, slots := 0, locals := 0 } : Room).cells ({ frames := 0, cells := 0, slots := 0, locals := 0 } : Room).slots) (s₁.setTop (entryFrame m #[(.ref a1), (.int (0 : Int32)), (.ref a3), (.int (0 : Int32)), (.int (1 : Int32))] 7))
  refine go (fun _ k => castTop (ef_rmc1_1 m a1 a3) k) ?_
  show Go p e below _ (s₁.setTop (mkF m 0 #[.val (.ref a1), .val (.int (0 : Int32)), .val (.ref a3), .val (.int (0 : Int32)), .val (.int (1 : Int32)), .unset, .unset] []))
  refine go (fun _ k => XS.iconst X0.here hx rfl (hb hby d5_0) k) ?_
  show Go p e below _ (s₁.setTop (mkF m 1 #[.val (.ref a1), .val (.int (0 : Int32)), .val (.ref a3), .val (.int (0 : Int32)), .val (.int (1 : Int32)), .unset, .unset] [(.int (0 : Int32))]))
  refine go (fun _ k => XS.istore X0.here hx rfl (hb hby d5_1) rfl (l' := #[.val (.ref a1), .val (.int (0 : Int32)), .val (.ref a3), .val (.int (0 : Int32)), .val (.int (1 : Int32)), .val (.int (0 : Int32)), .unset]) rfl k) ?_
  show Go p e below _ (s₁.setTop (mkF m 3 #[.val (.ref a1), .val (.int (0 : Int32)), .val (.ref a3), .val (.int (0 : Int32)), .val (.int (1 : Int32)), .val (.int (0 : Int32)), .unset] []))
  refine go (fun _ k => XS.iload X0.here hx rfl (hb hby d5_3) rfl  k) ?_
  show Go p e below _ (s₁.setTop (mkF m 5 #[.val (.ref a1), .val (.int (0 : Int32)), .val (.ref a3), .val (.int (0 : Int32)), .val (.int (1 : Int32)), .val (.int (0 : Int32)), .unset] [(.int (0 : Int32))]))
  refine go (fun _ k => XS.iload X0.here hx rfl (hb hby d5_5) rfl  k) ?_
  show Go p e below _ (s₁.setTop (mkF m 7 #[.val (.ref a1), .val (.int (0 : Int32)), .val (.ref a3), .val (.int (0 : Int32)), .val (.int (1 : Int32)), .val (.int (0 : Int32)), .unset] [(.int (1 : Int32)), (.int (0 : Int32))]))
  refine go (fun _ k => XS.icmpNo X0.here hx rfl (hb hby d5_7) rfl (tlt (by decide : (0 : Int32) < (1 : Int32))).2.1 k) ?_
  show Go p e below _ (s₁.setTop (mkF m 10 #[.val (.ref a1), .val (.int (0 : Int32)), .val (.ref a3), .val (.int (0 : Int32)), .val (.int (1 : Int32)), .val (.int (0 : Int32)), .unset] []))
  refine go (fun _ k => XS.aloadN X0.here hx rfl (hb hby d5_10) rfl rfl  k) ?_
  show Go p e below _ (s₁.setTop (mkF m 11 #[.val (.ref a1), .val (.int (0 : Int32)), .val (.ref a3), .val (.int (0 : Int32)), .val (.int (1 : Int32)), .val (.int (0 : Int32)), .unset] [(.ref a1)]))
  refine go (fun _ k => XS.iloadN X0.here hx rfl (hb hby d5_11) rfl  k) ?_
  show Go p e below _ (s₁.setTop (mkF m 12 #[.val (.ref a1), .val (.int (0 : Int32)), .val (.ref a3), .val (.int (0 : Int32)), .val (.int (1 : Int32)), .val (.int (0 : Int32)), .unset] [(.int (0 : Int32)), (.ref a1)]))
  obtain ⟨cl1, Ar1, qa1, Sa1, Ma1, Ha1, Ga1⟩ := id V_a1
  have hin1 : ¬ ((0 : Int32) < 0 ∨ cl1.slots.size ≤ ((0 : Int32)).toNatClampNeg) := inb_of Sa1 ⟨by decide, by decide⟩
  have hat1 : cl1.slots[((0 : Int32)).toNatClampNeg]? = some (.int c0) := Has.at Ha1 hin1 rfl
  refine go (X0.caload hx (j := (0 : Int32)) (v := (.int c0)) (by rw [e0]; exact Ar1.1) (State.isArrayOf_alike hZ.alike Ar1.2.1) Ar1.2.2 hin1 hat1 (g := (mkF m 12 #[.val (.ref a1), .val (.int (0 : Int32)), .val (.ref a3), .val (.int (0 : Int32)), .val (.int (1 : Int32)), .val (.int (0 : Int32)), .unset] [(.int (0 : Int32)), (.ref a1)])) rfl rfl (hb hby d5_12)) ?_
  show Go p e below _ (s₁.setTop (mkF m 13 #[.val (.ref a1), .val (.int (0 : Int32)), .val (.ref a3), .val (.int (0 : Int32)), .val (.int (1 : Int32)), .val (.int (0 : Int32)), .unset] [(.int c0)]))
  refine go (fun _ k => XS.istore X0.here hx rfl (hb hby d5_13) rfl (l' := #[.val (.ref a1), .val (.int (0 : Int32)), .val (.ref a3), .val (.int (0 : Int32)), .val (.int (1 : Int32)), .val (.int (0 : Int32)), .val (.int c0)]) rfl k) ?_
  show Go p e below _ (s₁.setTop (mkF m 15 #[.val (.ref a1), .val (.int (0 : Int32)), .val (.ref a3), .val (.int (0 : Int32)), .val (.int (1 : Int32)), .val (.int (0 : Int32)), .val (.int c0)] []))
  refine go (fun _ k => XS.iload X0.here hx rfl (hb hby d5_15) rfl  k) ?_
  show Go p e below _ (s₁.setTop (mkF m 17 #[.val (.ref a1), .val (.int (0 : Int32)), .val (.ref a3), .val (.int (0 : Int32)), .val (.int (1 : Int32)), .val (.int (0 : Int32)), .val (.int c0)] [(.int c0)]))
  refine go (fun _ k => XS.sipush X0.here hx rfl (hb hby d5_17) k) ?_
  show Go p e below _ (s₁.setTop (mkF m 20 #[.val (.ref a1), .val (.int (0 : Int32)), .val (.ref a3), .val (.int (0 : Int32)), .val (.int (1 : Int32)), .val (.int (0 : Int32)), .val (.int c0)] [(.int (255 : Int32)), (.int c0)]))
  have hc20_1 : ¬ ((255 : Int32) < c0) := hl0
  refine go (fun _ k => XS.icmpYes X0.here hx rfl (pc0 := 20) (pc' := 26) rfl (hb hby d5_20) rfl (flt hc20_1).2.2.2 (by decide) (by decide) k) ?_
  show Go p e below _ (s₁.setTop (mkF m 26 #[.val (.ref a1), .val (.int (0 : Int32)), .val (.ref a3), .val (.int (0 : Int32)), .val (.int (1 : Int32)), .val (.int (0 : Int32)), .val (.int c0)] []))
  refine go (fun _ k => XS.aloadN X0.here hx rfl (hb hby d5_26) rfl rfl  k) ?_
  show Go p e below _ (s₁.setTop (mkF m 27 #[.val (.ref a1), .val (.int (0 : Int32)), .val (.ref a3), .val (.int (0 : Int32)), .val (.int (1 : Int32)), .val (.int (0 : Int32)), .val (.int c0)] [(.ref a3)]))
  refine go (fun _ k => XS.iloadN X0.here hx rfl (hb hby d5_27) rfl  k) ?_
  show Go p e below _ (s₁.setTop (mkF m 28 #[.val (.ref a1), .val (.int (0 : Int32)), .val (.ref a3), .val (.int (0 : Int32)), .val (.int (1 : Int32)), .val (.int (0 : Int32)), .val (.int c0)] [(.int (0 : Int32)), (.ref a3)]))
  refine go (fun _ k => XS.iload X0.here hx rfl (hb hby d5_28) rfl  k) ?_
  show Go p e below _ (s₁.setTop (mkF m 30 #[.val (.ref a1), .val (.int (0 : Int32)), .val (.ref a3), .val (.int (0 : Int32)), .val (.int (1 : Int32)), .val (.int (0 : Int32)), .val (.int c0)] [(.int c0), (.int (0 : Int32)), (.ref a3)]))
  refine go (fun _ k => XS.i2b X0.here hx rfl (hb hby d5_30) rfl k) ?_
  show Go p e below _ (s₁.setTop (mkF m 31 #[.val (.ref a1), .val (.int (0 : Int32)), .val (.ref a3), .val (.int (0 : Int32)), .val (.int (1 : Int32)), .val (.int (0 : Int32)), .val (.int c0)] [(.int (c0.toInt8.toInt32)), (.int (0 : Int32)), (.ref a3)]))
  obtain ⟨cl2, Ar2, qa2, Sa2, Ma2, Ha2, Ga2⟩ := id V_a3
  have hin2 : ¬ ((0 : Int32) < 0 ∨ cl2.slots.size ≤ ((0 : Int32)).toNatClampNeg) := inb_of Sa2 ⟨by decide, by decide⟩
  obtain ⟨T2, h2, X2, e2, W2, st2⟩ := stB X0 hx hZ e0 Ar2 (j := (0 : Int32)) hin2 (g := (mkF m 31 #[.val (.ref a1), .val (.int (0 : Int32)), .val (.ref a3), .val (.int (0 : Int32)), .val (.int (1 : Int32)), .val (.int (0 : Int32)), .val (.int c0)] [(.int (c0.toInt8.toInt32)), (.int (0 : Int32)), (.ref a3)])) rfl rfl (hb hby d5_31)
  have V2 := Arv.set Ar2 qa2 Sa2 Ma2 Ha2 Ga2 (fits_nar_byte _) W2 0 rfl (Nat.le_of_ble_eq_true rfl)
  have V_a3_2 : Arv Z h2 a3 k3 .byte (1 : Int32) ([(.int (nar .byte (c0.toInt8.toInt32)))]) (.int (0 : Int32)) := V2
  have N2 := Fr.snoc X2 N0 g_a3
  refine go st2 ?_
  show Go p e below _ (T2.setTop (mkF m 32 #[.val (.ref a1), .val (.int (0 : Int32)), .val (.ref a3), .val (.int (0 : Int32)), .val (.int (1 : Int32)), .val (.int (0 : Int32)), .val (.int c0)] []))
  refine go (fun _ k => XS.iinc X2.here hx rfl (hb hby d5_32) rfl (l' := #[.val (.ref a1), .val (.int (1 : Int32)), .val (.ref a3), .val (.int (0 : Int32)), .val (.int (1 : Int32)), .val (.int (0 : Int32)), .val (.int c0)]) rfl k) ?_
  show Go p e below _ (T2.setTop (mkF m 35 #[.val (.ref a1), .val (.int (1 : Int32)), .val (.ref a3), .val (.int (0 : Int32)), .val (.int (1 : Int32)), .val (.int (0 : Int32)), .val (.int c0)] []))
  refine go (fun _ k => XS.iinc X2.here hx rfl (hb hby d5_35) rfl (l' := #[.val (.ref a1), .val (.int (1 : Int32)), .val (.ref a3), .val (.int (1 : Int32)), .val (.int (1 : Int32)), .val (.int (0 : Int32)), .val (.int c0)]) rfl k) ?_
  show Go p e below _ (T2.setTop (mkF m 38 #[.val (.ref a1), .val (.int (1 : Int32)), .val (.ref a3), .val (.int (1 : Int32)), .val (.int (1 : Int32)), .val (.int (0 : Int32)), .val (.int c0)] []))
  refine go (fun _ k => XS.iinc X2.here hx rfl (hb hby d5_38) rfl (l' := #[.val (.ref a1), .val (.int (1 : Int32)), .val (.ref a3), .val (.int (1 : Int32)), .val (.int (1 : Int32)), .val (.int (1 : Int32)), .val (.int c0)]) rfl k) ?_
  show Go p e below _ (T2.setTop (mkF m 41 #[.val (.ref a1), .val (.int (1 : Int32)), .val (.ref a3), .val (.int (1 : Int32)), .val (.int (1 : Int32)), .val (.int (1 : Int32)), .val (.int c0)] []))
  refine go (fun _ k => XS.goto X2.here hx rfl (pc0 := 41) (pc' := 3) rfl (hb hby d5_41) (by decide) (by decide) k) ?_
  show Go p e below _ (T2.setTop (mkF m 3 #[.val (.ref a1), .val (.int (1 : Int32)), .val (.ref a3), .val (.int (1 : Int32)), .val (.int (1 : Int32)), .val (.int (1 : Int32)), .val (.int c0)] []))
  refine go (fun _ k => XS.iload X2.here hx rfl (hb hby d5_3) rfl  k) ?_
  show Go p e below _ (T2.setTop (mkF m 5 #[.val (.ref a1), .val (.int (1 : Int32)), .val (.ref a3), .val (.int (1 : Int32)), .val (.int (1 : Int32)), .val (.int (1 : Int32)), .val (.int c0)] [(.int (1 : Int32))]))
  refine go (fun _ k => XS.iload X2.here hx rfl (hb hby d5_5) rfl  k) ?_
  show Go p e below _ (T2.setTop (mkF m 7 #[.val (.ref a1), .val (.int (1 : Int32)), .val (.ref a3), .val (.int (1 : Int32)), .val (.int (1 : Int32)), .val (.int (1 : Int32)), .val (.int c0)] [(.int (1 : Int32)), (.int (1 : Int32))]))
  refine go (fun _ k => XS.icmpYes X2.here hx rfl (pc0 := 7) (pc' := 44) rfl (hb hby d5_7) rfl (flt (by decide : ¬ ((1 : Int32) < (1 : Int32)))).2.1 (by decide) (by decide) k) ?_
  show Go p e below _ (T2.setTop (mkF m 44 #[.val (.ref a1), .val (.int (1 : Int32)), .val (.ref a3), .val (.int (1 : Int32)), .val (.int (1 : Int32)), .val (.int (1 : Int32)), .val (.int c0)] []))
  refine go (fun _ k => XS.iload X2.here hx rfl (hb hby d5_44) rfl  k) ?_
  show Go p e below _ (T2.setTop (mkF m 46 #[.val (.ref a1), .val (.int (1 : Int32)), .val (.ref a3), .val (.int (1 : Int32)), .val (.int (1 : Int32)), .val (.int (1 : Int32)), .val (.int c0)] [(.int (1 : Int32))]))
  obtain ⟨fs, hr, hrun, hended, hW, hsame⟩ := X2.leave (v := some (.int (1 : Int32))) (fun h => by rw [Bd.returns] at h; cases h)
  have K3 : Keep h0 h2 [a3] := ((Keep.refl h0 [a3]).wr W2 (Or.inl (List.mem_of_getElem? (i := 0) rfl)))
  refine leaf (T := T2) ⟨fs, retI X2 hx Bd.returns (hb hby d5_46) hr, hrun, hended, hW, hsame⟩ ?_ (by decide) (by decide)
  show Qc1_1 Z a1 a3 k1 k3 c0 h0 n0 _ T2.heap _
  rw [e2]
  exact ⟨rfl, N2, K3, V_a3_2⟩
theorem pd_0 : parseMethodDescriptor "([CI[BII)I" = some ⟨[(.array .char), .int, (.array .byte), .int, .int], some .int⟩ := by decide +kernel
theorem d4_0 : decode jdk_52_method_16_code 0 = .ok (.iload_n 2, 1) := by decide +kernel
theorem d4_1 : decode jdk_52_method_16_code 1 = .ok (.newarray .byte, 2) := by decide +kernel
theorem d4_3 : decode jdk_52_method_16_code 3 = .ok (.astore_n 3, 1) := by decide +kernel
theorem d4_4 : decode jdk_52_method_16_code 4 = .ok (.aload_n 0, 1) := by decide +kernel
theorem d4_5 : decode jdk_52_method_16_code 5 = .ok (.iload_n 1, 1) := by decide +kernel
theorem d4_6 : decode jdk_52_method_16_code 6 = .ok (.aload_n 3, 1) := by decide +kernel
theorem d4_7 : decode jdk_52_method_16_code 7 = .ok (.iconst 0, 1) := by decide +kernel
theorem d4_8 : decode jdk_52_method_16_code 8 = .ok (.iload_n 2, 1) := by decide +kernel
theorem d4_9 : decode jdk_52_method_16_code 9 = .ok (.invokestatic 115, 3) := by decide +kernel
theorem d4_12 : decode jdk_52_method_16_code 12 = .ok (.istore 4, 2) := by decide +kernel
theorem d4_14 : decode jdk_52_method_16_code 14 = .ok (.iload 4, 2) := by decide +kernel
theorem d4_16 : decode jdk_52_method_16_code 16 = .ok (.iload_n 2, 1) := by decide +kernel
theorem d4_17 : decode jdk_52_method_16_code 17 = .ok (.if_icmp .eq 40, 3) := by decide +kernel
theorem d4_57 : decode jdk_52_method_16_code 57 = .ok (.aload_n 3, 1) := by decide +kernel
theorem d4_58 : decode jdk_52_method_16_code 58 = .ok (.areturn, 1) := by decide +kernel
theorem ef_rmc2_1 (m : MethodId) (a1 : Addr) : entryFrame m #[(.ref a1), (.int (0 : Int32)), (.int (1 : Int32))] 6 = mkF m 0 #[.val (.ref a1), .val (.int (0 : Int32)), .val (.int (1 : Int32)), .unset, .unset, .unset] [] := by first | (simp [entryFrame, mkF, argsToLocals, Value.category]; done) | rfl
def Qc2_1 (Z : State) (a1 : Addr) (k1 : ClassId) (c0 : Int32) (h0 : Heap) (n0 : Nat) (v : Option Value) (h : Heap) (L : List Loc) : Prop := ∃ b : Addr, ∃ kb : ClassId, v = some (.ref b) ∧ Fr n0 L ∧ Keep h0 h [] ∧ h0.size ≤ b ∧ Arv Z h b kb .byte (1 : Int32) ([(.int (nar .byte (c0.toInt8.toInt32)))]) (.int (0 : Int32))
set_option maxRecDepth 65536 in
set_option maxHeartbeats 40000000 in
theorem rmc2_1 (l : Launch) (Z : State) (a0 : Array Value) (hw : ∀ d ∈ tables_1, d.before a0 Z = true) (ws : List Jvm.Cond) (a1 : Addr) (k1 : ClassId) (c0 : Int32) (h0 : Heap) (n0 : Nat) (Z0 : n0 ≤ h0.size) (V_a1 : Arv Z h0 a1 k1 .char (1 : Int32) ([(.int c0)]) (.int (0 : Int32))) (hl0 : ¬ ((255 : Int32) < c0)) :
    MetFree l (⟨"java/lang/StringUTF16", "compress", "([CII)[B"⟩ : MethodName) (head1 (Jvm.Cond.code (⟨"java/lang/StringUTF16", "compress", "([CII)[B"⟩ : MethodName) jdk_52_method_16_code 6 (some (.array .byte)) :: ws) ({ frames := 1, cells := 1, slots := 1, locals := 18 } : Room)) (fun a U => a = #[(.ref a1), (.int (0 : Int32)), (.int (1 : Int32))] ∧ Z.Warmed39 U.vm ∧ U.heap = h0) (fun _ _ _ _ _ => True) (fun _ U o U' => ∃ v L, o = .returned v ∧ Qc2_1 Z a1 k1 c0 h0 n0 v U'.heap L ∧ FrameEnd U o U' L ({ frames := 1, cells := 1, slots := 1, locals := 18 } : Room).cells ({ frames := 1, cells := 1, slots := 1, locals := 18 } : Room).slots) := by
  refine MetFree.of_bodySF (plainFor_of_name pn_1) hisR ?_
  intro p e s m args below meth c s₁ Bd hml0 hP hK
  obtain ⟨rfl, hZ, hh⟩ := hP
  have hx := Bd.exec
  have hby := Bd.bytes
  have hml : c.maxLocals = 6 := hml0
  have hown : s.vm.findClass "java/lang/StringUTF16" = some m.cls := findClass_of_methodNamed Bd.named
  have hnm := (name_of_methodNamed Bd.named Bd.method).1
  have X0 : Stand p l e ({ frames := 1, cells := 1, slots := 1, locals := 18 } : Room) s m #[(.ref a1), (.int (0 : Int32)), (.int (1 : Int32))] below meth c s₁ [] 0 0 := Stand.of_body Bd
  have e0 : s₁.heap = h0 := by rw [← hh, Bd.state]; rfl
  have N0 := Fr.nil n0
  show Go p e below (PP s below (Qc2_1 Z a1 k1 c0 h0 n0) ({ frames := 1, cells := 1, slots := 1, locals := 18 } : Room).cells ({ frames := 1, cells := 1, slots := 1, locals := 18 } : Room).slots) (s₁.setTop (entryFrame m #[(.ref a1), (.int (0 : Int32)), (.int (1 : Int32))] 6))
  refine go (fun _ k => castTop (ef_rmc2_1 m a1) k) ?_
  show Go p e below _ (s₁.setTop (mkF m 0 #[.val (.ref a1), .val (.int (0 : Int32)), .val (.int (1 : Int32)), .unset, .unset, .unset] []))
  refine go (fun _ k => XS.iloadN X0.here hx rfl (hb hby d4_0) rfl  k) ?_
  show Go p e below _ (s₁.setTop (mkF m 1 #[.val (.ref a1), .val (.int (0 : Int32)), .val (.int (1 : Int32)), .unset, .unset, .unset] [(.int (1 : Int32))]))
  obtain ⟨T1, h1, ka1, X1, e1, E1, A1, st1⟩ := newP X0 hx hZ (hw _ (List.mem_of_getElem? (i := 19) rfl)) e0 (g := (mkF m 1 #[.val (.ref a1), .val (.int (0 : Int32)), .val (.int (1 : Int32)), .unset, .unset, .unset] [(.int (1 : Int32))])) rfl (hb hby d4_1) rfl (by decide) (cap := 1) (by decide) (by decide) (by decide) (by decide)
  obtain ⟨b1, gz1⟩ : ∃ z, z = h0.size := ⟨_, rfl⟩
  rw [← gz1] at A1 st1
  have sz_b1 : h0.size ≤ b1 := Nat.le_trans (Keep.refl h0 []).1 (Nat.le_of_eq gz1.symm)
  have g_b1 : n0 ≤ b1 := Nat.le_trans Z0 sz_b1
  have V_b1 : Arv Z h1 b1 ka1 .byte (1 : Int32) [(.int (0 : Int32))] (.int (0 : Int32)) := (Arv.new A1 (by decide)).pad (pad_rep [] (.int (0 : Int32)) 1)
  refine go st1 ?_
  show Go p e below _ (T1.setTop (mkF m 3 #[.val (.ref a1), .val (.int (0 : Int32)), .val (.int (1 : Int32)), .unset, .unset, .unset] [(.ref b1)]))
  refine go (fun _ k => XS.astoreN X1.here hx rfl (hb hby d4_3) rfl rfl (l' := #[.val (.ref a1), .val (.int (0 : Int32)), .val (.int (1 : Int32)), .val (.ref b1), .unset, .unset]) rfl k) ?_
  show Go p e below _ (T1.setTop (mkF m 4 #[.val (.ref a1), .val (.int (0 : Int32)), .val (.int (1 : Int32)), .val (.ref b1), .unset, .unset] []))
  refine go (fun _ k => XS.aloadN X1.here hx rfl (hb hby d4_4) rfl rfl  k) ?_
  show Go p e below _ (T1.setTop (mkF m 5 #[.val (.ref a1), .val (.int (0 : Int32)), .val (.int (1 : Int32)), .val (.ref b1), .unset, .unset] [(.ref a1)]))
  refine go (fun _ k => XS.iloadN X1.here hx rfl (hb hby d4_5) rfl  k) ?_
  show Go p e below _ (T1.setTop (mkF m 6 #[.val (.ref a1), .val (.int (0 : Int32)), .val (.int (1 : Int32)), .val (.ref b1), .unset, .unset] [(.int (0 : Int32)), (.ref a1)]))
  refine go (fun _ k => XS.aloadN X1.here hx rfl (hb hby d4_6) rfl rfl  k) ?_
  show Go p e below _ (T1.setTop (mkF m 7 #[.val (.ref a1), .val (.int (0 : Int32)), .val (.int (1 : Int32)), .val (.ref b1), .unset, .unset] [(.ref b1), (.int (0 : Int32)), (.ref a1)]))
  refine go (fun _ k => XS.iconst X1.here hx rfl (hb hby d4_7) k) ?_
  show Go p e below _ (T1.setTop (mkF m 8 #[.val (.ref a1), .val (.int (0 : Int32)), .val (.int (1 : Int32)), .val (.ref b1), .unset, .unset] [(.int (0 : Int32)), (.ref b1), (.int (0 : Int32)), (.ref a1)]))
  refine go (fun _ k => XS.iloadN X1.here hx rfl (hb hby d4_8) rfl  k) ?_
  show Go p e below _ (T1.setTop (mkF m 9 #[.val (.ref a1), .val (.int (0 : Int32)), .val (.int (1 : Int32)), .val (.ref b1), .unset, .unset] [(.int (1 : Int32)), (.int (0 : Int32)), (.ref b1), (.int (0 : Int32)), (.ref a1)]))
  have K3 : Keep h0 h1 [] := ((Keep.refl h0 []).ext E1)
  obtain ⟨_, _, ⟨T2, Lb2, cn2, sn2⟩, -, X2, ⟨Lc2, hQ2, lq2, yq2, zq2⟩, st2⟩ := Jvm.LawKit.callS X1 hx (y := (⟨"java/lang/StringUTF16", "compress", "([CI[BII)I"⟩ : MethodName)) hown (mvT hZ (hw _ (List.mem_of_getElem? (i := 20) rfl))) (mvT hZ (hw _ (List.mem_of_getElem? (i := 21) rfl))) (mvT hZ (hw _ (List.mem_of_getElem? (i := 17) rfl))) (mvT hZ (hw _ (List.mem_of_getElem? (i := 22) rfl))) (by decide) (backOf (W := 0) (rmc1_1 l Z a0 hw [] a1 b1 k1 ka1 c0 h1 n0 (Nat.le_trans Z0 K3.1) (V_a1.ext E1) V_b1 g_b1 (Nat.ne_of_lt (Nat.lt_of_lt_of_le V_a1.lt (Nat.le_of_eq gz1.symm))) (by assumption : ¬ ((255 : Int32) < c0))) hZ (hw _ (List.mem_of_getElem? (i := 22) rfl)) (hw _ (List.mem_of_getElem? (i := 17) rfl)) (by decide) (by decide)) (g := (mkF m 9 #[.val (.ref a1), .val (.int (0 : Int32)), .val (.int (1 : Int32)), .val (.ref b1), .unset, .unset] [(.int (1 : Int32)), (.int (0 : Int32)), (.ref b1), (.int (0 : Int32)), (.ref a1)])) rfl (by rw [hml]; rfl) (argsL := [(.ref a1), (.int (0 : Int32)), (.ref b1), (.int (0 : Int32)), (.int (1 : Int32))]) (rest := []) (lenOf pd_0 rfl) rfl (by show 2 * 0 + _ ≤ _; exact Nat.le_of_eq rfl) (hb hby d4_9) (fun _ _ => ⟨rfl, e1, (by decide : 1 + 0 ≤ _), (by decide : 1 + 0 ≤ _)⟩)
  dsimp only [Pt.U, Pt.locs, Pt.cells, Pt.slots] at X2 lq2 yq2 zq2 st2 hQ2
  subst lq2 yq2 zq2
  obtain ⟨rfl, N2q, r2_0, r2_1⟩ := hQ2
  have N2 := Fr.app N0 N2q
  skip
  refine go st2 ?_
  show Go p e below _ (T2.setTop (mkF m 12 #[.val (.ref a1), .val (.int (0 : Int32)), .val (.int (1 : Int32)), .val (.ref b1), .unset, .unset] [(.int (1 : Int32))]))
  refine go (fun _ k => XS.istore X2.here hx rfl (hb hby d4_12) rfl (l' := #[.val (.ref a1), .val (.int (0 : Int32)), .val (.int (1 : Int32)), .val (.ref b1), .val (.int (1 : Int32)), .unset]) rfl k) ?_
  show Go p e below _ (T2.setTop (mkF m 14 #[.val (.ref a1), .val (.int (0 : Int32)), .val (.int (1 : Int32)), .val (.ref b1), .val (.int (1 : Int32)), .unset] []))
  refine go (fun _ k => XS.iload X2.here hx rfl (hb hby d4_14) rfl  k) ?_
  show Go p e below _ (T2.setTop (mkF m 16 #[.val (.ref a1), .val (.int (0 : Int32)), .val (.int (1 : Int32)), .val (.ref b1), .val (.int (1 : Int32)), .unset] [(.int (1 : Int32))]))
  refine go (fun _ k => XS.iloadN X2.here hx rfl (hb hby d4_16) rfl  k) ?_
  show Go p e below _ (T2.setTop (mkF m 17 #[.val (.ref a1), .val (.int (0 : Int32)), .val (.int (1 : Int32)), .val (.ref b1), .val (.int (1 : Int32)), .unset] [(.int (1 : Int32)), (.int (1 : Int32))]))
  refine go (fun _ k => XS.icmpYes X2.here hx rfl (pc0 := 17) (pc' := 57) rfl (hb hby d4_17) rfl (teq (by decide : (1 : Int32) = (1 : Int32))).1 (by decide) (by decide) k) ?_
  show Go p e below _ (T2.setTop (mkF m 57 #[.val (.ref a1), .val (.int (0 : Int32)), .val (.int (1 : Int32)), .val (.ref b1), .val (.int (1 : Int32)), .unset] []))
  refine go (fun _ k => XS.aloadN X2.here hx rfl (hb hby d4_57) rfl rfl  k) ?_
  show Go p e below _ (T2.setTop (mkF m 58 #[.val (.ref a1), .val (.int (0 : Int32)), .val (.int (1 : Int32)), .val (.ref b1), .val (.int (1 : Int32)), .unset] [(.ref b1)]))
  obtain ⟨fs, hr, hrun, hended, hW, hsame⟩ := X2.leave (v := some (.ref b1)) (fun h => by rw [Bd.returns] at h; cases h)
  have K4 : Keep h0 T2.heap [] := (K3.trans r2_0 (allS (Or.inr sz_b1) all0))
  refine leaf (T := T2) ⟨fs, retA X2 hx Bd.returns rfl rfl rfl (hb hby d4_58) hr, hrun, hended, hW, hsame⟩ ?_ (by decide) (by decide)
  show Qc2_1 Z a1 k1 c0 h0 n0 _ T2.heap _
  exact ⟨b1, ka1, rfl, N2, K4, sz_b1, r2_1⟩
theorem d6_0 : decode jdk_52_method_15_code 0 = .ok (.iload_n 1, 1) := by decide +kernel
theorem d6_1 : decode jdk_52_method_15_code 1 = .ok (.aload_n 0, 1) := by decide +kernel
theorem d6_2 : decode jdk_52_method_15_code 2 = .ok (.arraylength, 1) := by decide +kernel
theorem d6_3 : decode jdk_52_method_15_code 3 = .ok (.isub, 1) := by decide +kernel
theorem d6_4 : decode jdk_52_method_15_code 4 = .ok (.bipush 31, 2) := by decide +kernel
theorem d6_6 : decode jdk_52_method_15_code 6 = .ok (.iushr, 1) := by decide +kernel
theorem d6_7 : decode jdk_52_method_15_code 7 = .ok (.i2b, 1) := by decide +kernel
theorem d6_8 : decode jdk_52_method_15_code 8 = .ok (.ireturn, 1) := by decide +kernel
theorem ef_rmc3_1 (m : MethodId) (a1 : Addr) : entryFrame m #[(.ref a1), (.int (1 : Int32))] 2 = mkF m 0 #[.val (.ref a1), .val (.int (1 : Int32))] [] := by first | (simp [entryFrame, mkF, argsToLocals, Value.category]; done) | rfl
def Qc3_1 (Z : State) (a1 : Addr) (k1 : ClassId) (vs : List Value) (h0 : Heap) (n0 : Nat) (v : Option Value) (h : Heap) (L : List Loc) : Prop := v = some (.int (0 : Int32)) ∧ Fr n0 L ∧ h = h0
set_option maxRecDepth 65536 in
set_option maxHeartbeats 40000000 in
theorem rmc3_1 (l : Launch) (Z : State) (a0 : Array Value) (hw : ∀ d ∈ tables_1, d.before a0 Z = true) (ws : List Jvm.Cond) (a1 : Addr) (k1 : ClassId) (vs : List Value) (h0 : Heap) (n0 : Nat) (Z0 : n0 ≤ h0.size) (V_a1 : Arv Z h0 a1 k1 .byte (1 : Int32) vs (.int (0 : Int32))) :
    MetFree l (⟨"java/lang/StringUTF16", "coderFromArrayLen", "([BI)B"⟩ : MethodName) (head1 (Jvm.Cond.code (⟨"java/lang/StringUTF16", "coderFromArrayLen", "([BI)B"⟩ : MethodName) jdk_52_method_15_code 2 (some .byte) :: ws) ({ frames := 0, cells := 0, slots := 0, locals := 0 } : Room)) (fun a U => a = #[(.ref a1), (.int (1 : Int32))] ∧ Z.Warmed39 U.vm ∧ U.heap = h0) (fun _ _ _ _ _ => True) (fun _ U o U' => ∃ v L, o = .returned v ∧ Qc3_1 Z a1 k1 vs h0 n0 v U'.heap L ∧ FrameEnd U o U' L ({ frames := 0, cells := 0, slots := 0, locals := 0 } : Room).cells ({ frames := 0, cells := 0, slots := 0, locals := 0 } : Room).slots) := by
  refine MetFree.of_bodySF (plainFor_of_name pn_1) hisR ?_
  intro p e s m args below meth c s₁ Bd hml0 hP hK
  obtain ⟨rfl, hZ, hh⟩ := hP
  have hx := Bd.exec
  have hby := Bd.bytes
  have hml : c.maxLocals = 2 := hml0
  have hown : s.vm.findClass "java/lang/StringUTF16" = some m.cls := findClass_of_methodNamed Bd.named
  have hnm := (name_of_methodNamed Bd.named Bd.method).1
  have X0 : Stand p l e ({ frames := 0, cells := 0, slots := 0, locals := 0 } : Room) s m #[(.ref a1), (.int (1 : Int32))] below meth c s₁ [] 0 0 := Stand.of_body Bd
  have e0 : s₁.heap = h0 := by rw [← hh, Bd.state]; rfl
  have N0 := Fr.nil n0
  show Go p e below (PP s below (Qc3_1 Z a1 k1 vs h0 n0) ({ frames := 0, cells := 0, slots := 0, locals := 0 } : Room).cells ({ frames := 0, cells := 0, slots := 0, locals := 0 } : Room).slots) (s₁.setTop (entryFrame m #[(.ref a1), (.int (1 : Int32))] 2))
  refine go (fun _ k => castTop (ef_rmc3_1 m a1) k) ?_
  show Go p e below _ (s₁.setTop (mkF m 0 #[.val (.ref a1), .val (.int (1 : Int32))] []))
  refine go (fun _ k => XS.iloadN X0.here hx rfl (hb hby d6_0) rfl  k) ?_
  show Go p e below _ (s₁.setTop (mkF m 1 #[.val (.ref a1), .val (.int (1 : Int32))] [(.int (1 : Int32))]))
  refine go (fun _ k => XS.aloadN X0.here hx rfl (hb hby d6_1) rfl rfl  k) ?_
  show Go p e below _ (s₁.setTop (mkF m 2 #[.val (.ref a1), .val (.int (1 : Int32))] [(.ref a1), (.int (1 : Int32))]))
  obtain ⟨cl1, Ar1, -, Sa1, Ma1, -, -⟩ := id V_a1
  refine go (X0.arraylength hx (by rw [e0]; exact Ar1.1) (State.isArrayOf_alike hZ.alike Ar1.2.1) (g := (mkF m 2 #[.val (.ref a1), .val (.int (1 : Int32))] [(.ref a1), (.int (1 : Int32))])) rfl rfl (hb hby d6_2)) ?_
  rw [len_of Sa1 Ma1]
  show Go p e below _ (s₁.setTop (mkF m 3 #[.val (.ref a1), .val (.int (1 : Int32))] [(.int (1 : Int32)), (.int (1 : Int32))]))
  refine go (fun _ k => XS.isub X0.here hx rfl (hb hby d6_3) rfl k) ?_
  show Go p e below _ (s₁.setTop (mkF m 4 #[.val (.ref a1), .val (.int (1 : Int32))] [(.int (0 : Int32))]))
  refine go (fun _ k => XS.bipush X0.here hx rfl (hb hby d6_4) k) ?_
  show Go p e below _ (s₁.setTop (mkF m 6 #[.val (.ref a1), .val (.int (1 : Int32))] [(.int (31 : Int32)), (.int (0 : Int32))]))
  refine go (fun _ k => XS.iushr X0.here hx rfl (hb hby d6_6) rfl k) ?_
  show Go p e below _ (s₁.setTop (mkF m 7 #[.val (.ref a1), .val (.int (1 : Int32))] [(.int (0 : Int32))]))
  refine go (fun _ k => XS.i2b X0.here hx rfl (hb hby d6_7) rfl k) ?_
  show Go p e below _ (s₁.setTop (mkF m 8 #[.val (.ref a1), .val (.int (1 : Int32))] [(.int (0 : Int32))]))
  obtain ⟨fs, hr, hrun, hended, hW, hsame⟩ := X0.leave (v := some (.int (0 : Int32))) (fun h => by rw [Bd.returns] at h; cases h)
  refine leaf (T := s₁) ⟨fs, retN X0 hx (t := .byte) Bd.returns (by simp) (hb hby d6_8) hr, hrun, hended, hW, hsame⟩ ?_ (by decide) (by decide)
  show Qc3_1 Z a1 k1 vs h0 n0 _ s₁.heap _
  rw [e0]
  exact ⟨rfl, N0, rfl⟩
theorem pd_1 : parseMethodDescriptor "([CII)[B" = some ⟨[(.array .char), .int, .int], some (.array .byte)⟩ := by decide +kernel
theorem pd_2 : parseMethodDescriptor "([BI)B" = some ⟨[(.array .byte), .int], some .byte⟩ := by decide +kernel
theorem pn_2 : plainName "java/lang/String" = true := by first | (simp [plainName, overriddenIn]; done) | decide +kernel
theorem d2_0 : decode jdk_42_method_149_code 0 = .ok (.aload_n 0, 1) := by decide +kernel
theorem d2_1 : decode jdk_42_method_149_code 1 = .ok (.invokespecial 1, 3) := by decide +kernel
theorem d2_4 : decode jdk_42_method_149_code 4 = .ok (.iload_n 3, 1) := by decide +kernel
theorem d2_5 : decode jdk_42_method_149_code 5 = .ok (.ifCond .ne 22, 3) := by decide +kernel
theorem d2_27 : decode jdk_42_method_149_code 27 = .ok (.getstatic 38, 3) := by decide +kernel
theorem d2_30 : decode jdk_42_method_149_code 30 = .ok (.ifCond .eq 28, 3) := by decide +kernel
theorem d2_33 : decode jdk_42_method_149_code 33 = .ok (.aload_n 1, 1) := by decide +kernel
theorem d2_34 : decode jdk_42_method_149_code 34 = .ok (.iload_n 2, 1) := by decide +kernel
theorem d2_35 : decode jdk_42_method_149_code 35 = .ok (.iload_n 3, 1) := by decide +kernel
theorem d2_36 : decode jdk_42_method_149_code 36 = .ok (.invokestatic 177, 3) := by decide +kernel
theorem d2_39 : decode jdk_42_method_149_code 39 = .ok (.astore 5, 2) := by decide +kernel
theorem d2_41 : decode jdk_42_method_149_code 41 = .ok (.aload_n 0, 1) := by decide +kernel
theorem d2_42 : decode jdk_42_method_149_code 42 = .ok (.aload 5, 2) := by decide +kernel
theorem d2_44 : decode jdk_42_method_149_code 44 = .ok (.iload_n 3, 1) := by decide +kernel
theorem d2_45 : decode jdk_42_method_149_code 45 = .ok (.invokestatic 47, 3) := by decide +kernel
theorem d2_48 : decode jdk_42_method_149_code 48 = .ok (.putfield 15, 3) := by decide +kernel
theorem d2_51 : decode jdk_42_method_149_code 51 = .ok (.aload_n 0, 1) := by decide +kernel
theorem d2_52 : decode jdk_42_method_149_code 52 = .ok (.aload 5, 2) := by decide +kernel
theorem d2_54 : decode jdk_42_method_149_code 54 = .ok (.putfield 9, 3) := by decide +kernel
theorem d2_57 : decode jdk_42_method_149_code 57 = .ok (.return_, 1) := by decide +kernel
theorem ef_rmc4_1 (m : MethodId) (a1 : Addr) (a2 : Addr) : entryFrame m #[(.ref a1), (.ref a2), (.int (0 : Int32)), (.int (1 : Int32)), .null] 6 = mkF m 0 #[.val (.ref a1), .val (.ref a2), .val (.int (0 : Int32)), .val (.int (1 : Int32)), .val .null, .unset] [] := by first | (simp [entryFrame, mkF, argsToLocals, Value.category]; done) | rfl
def Qc4_1 (Z : State) (a1 : Addr) (a2 : Addr) (u1 : Value) (u2 : Value) (k2 : ClassId) (cs : Int32) (c0 : Int32) (h0 : Heap) (n0 : Nat) (v : Option Value) (h : Heap) (L : List Loc) : Prop := ∃ b : Addr, ∃ kb : ClassId, v = none ∧ Fr n0 L ∧ Keep h0 h [a1] ∧ h0.size ≤ b ∧ Exa Z h a1 "java/lang/String" ∧ Fld Z h a1 "java/lang/String" "value" "[B" (.ref b) ∧ Fld Z h a1 "java/lang/String" "coder" "B" (.int (0 : Int32)) ∧ Arv Z h b kb .byte (1 : Int32) ([(.int (nar .byte (c0.toInt8.toInt32)))]) (.int (0 : Int32))
set_option maxRecDepth 65536 in
set_option maxHeartbeats 40000000 in
theorem rmc4_1 (l : Launch) (Z : State) (a0 : Array Value) (hw : ∀ d ∈ tables_1, d.before a0 Z = true) (ws : List Jvm.Cond) (a1 : Addr) (a2 : Addr) (u1 : Value) (u2 : Value) (k2 : ClassId) (cs : Int32) (c0 : Int32) (h0 : Heap) (n0 : Nat) (Z0 : n0 ≤ h0.size) (O0 : Old Z n0 h0) (S_COMPACT_STRINGS : Sta Z Z.heap "java/lang/String" "COMPACT_STRINGS" "Z" (.int cs)) (hcs : ¬ (cs = (0 : Int32))) (E_a1 : Exa Z h0 a1 "java/lang/String") (g_a1 : n0 ≤ a1) (F_value_a1 : Fld Z h0 a1 "java/lang/String" "value" "[B" u1) (F_coder_a1 : Fld Z h0 a1 "java/lang/String" "coder" "B" u2) (V_a2 : Arv Z h0 a2 k2 .char (1 : Int32) ([(.int c0)]) (.int (0 : Int32))) (hl0 : ¬ ((255 : Int32) < c0)) :
    MetFree l (⟨"java/lang/String", "<init>", "([CIILjava/lang/Void;)V"⟩ : MethodName) (head1 (Jvm.Cond.code (⟨"java/lang/String", "<init>", "([CIILjava/lang/Void;)V"⟩ : MethodName) jdk_42_method_149_code 6 none :: ws) ({ frames := 2, cells := 1, slots := 1, locals := 35 } : Room)) (fun a U => a = #[(.ref a1), (.ref a2), (.int (0 : Int32)), (.int (1 : Int32)), .null] ∧ Z.Warmed39 U.vm ∧ U.heap = h0) (fun _ _ _ _ _ => True) (fun _ U o U' => ∃ v L, o = .returned v ∧ Qc4_1 Z a1 a2 u1 u2 k2 cs c0 h0 n0 v U'.heap L ∧ FrameEnd U o U' L ({ frames := 2, cells := 1, slots := 1, locals := 35 } : Room).cells ({ frames := 2, cells := 1, slots := 1, locals := 35 } : Room).slots) := by
  refine MetFree.of_bodySF (plainFor_of_name pn_2) hisR ?_
  intro p e s m args below meth c s₁ Bd hml0 hP hK
  obtain ⟨rfl, hZ, hh⟩ := hP
  have hx := Bd.exec
  have hby := Bd.bytes
  have hml : c.maxLocals = 6 := hml0
  have hown : s.vm.findClass "java/lang/String" = some m.cls := findClass_of_methodNamed Bd.named
  have hnm := (name_of_methodNamed Bd.named Bd.method).1
  have X0 : Stand p l e ({ frames := 2, cells := 1, slots := 1, locals := 35 } : Room) s m #[(.ref a1), (.ref a2), (.int (0 : Int32)), (.int (1 : Int32)), .null] below meth c s₁ [] 0 0 := Stand.of_body Bd
  have e0 : s₁.heap = h0 := by rw [← hh, Bd.state]; rfl
  have N0 := Fr.nil n0
  show Go p e below (PP s below (Qc4_1 Z a1 a2 u1 u2 k2 cs c0 h0 n0) ({ frames := 2, cells := 1, slots := 1, locals := 35 } : Room).cells ({ frames := 2, cells := 1, slots := 1, locals := 35 } : Room).slots) (s₁.setTop (entryFrame m #[(.ref a1), (.ref a2), (.int (0 : Int32)), (.int (1 : Int32)), .null] 6))
  refine go (fun _ k => castTop (ef_rmc4_1 m a1 a2) k) ?_
  show Go p e below _ (s₁.setTop (mkF m 0 #[.val (.ref a1), .val (.ref a2), .val (.int (0 : Int32)), .val (.int (1 : Int32)), .val .null, .unset] []))
  refine go (fun _ k => XS.aloadN X0.here hx rfl (hb hby d2_0) rfl rfl  k) ?_
  show Go p e below _ (s₁.setTop (mkF m 1 #[.val (.ref a1), .val (.ref a2), .val (.int (0 : Int32)), .val (.int (1 : Int32)), .val .null, .unset] [(.ref a1)]))
  obtain ⟨T1, X1, e1, st1⟩ := initO X0 hx hZ hown (hw _ (List.mem_of_getElem? (i := 11) rfl)) (hw _ (List.mem_of_getElem? (i := 12) rfl)) (hw _ (List.mem_of_getElem? (i := 13) rfl)) e0 (g := (mkF m 1 #[.val (.ref a1), .val (.ref a2), .val (.int (0 : Int32)), .val (.int (1 : Int32)), .val .null, .unset] [(.ref a1)])) rfl (by rw [hml]; rfl) rfl (hb hby d2_1) (by decide) (W := 0) (by show 2 * 0 + _ ≤ _; exact Nat.le_of_eq rfl) (by decide)
  refine go st1 ?_
  show Go p e below _ (T1.setTop (mkF m 4 #[.val (.ref a1), .val (.ref a2), .val (.int (0 : Int32)), .val (.int (1 : Int32)), .val .null, .unset] []))
  refine go (fun _ k => XS.iloadN X1.here hx rfl (hb hby d2_4) rfl  k) ?_
  show Go p e below _ (T1.setTop (mkF m 5 #[.val (.ref a1), .val (.ref a2), .val (.int (0 : Int32)), .val (.int (1 : Int32)), .val .null, .unset] [(.int (1 : Int32))]))
  refine go (fun _ k => XS.ifYes X1.here hx rfl (pc0 := 5) (pc' := 27) rfl (hb hby d2_5) rfl ((if0 _ _).trans (feq (by decide : ¬ ((1 : Int32) = (0 : Int32)))).2) (by decide) (by decide) k) ?_
  show Go p e below _ (T1.setTop (mkF m 27 #[.val (.ref a1), .val (.ref a2), .val (.int (0 : Int32)), .val (.int (1 : Int32)), .val .null, .unset] []))
  obtain ⟨T2, X2, e2, st2⟩ := getS2 X1 hx hZ hown (host := "") (Or.inl (hw _ (List.mem_of_getElem? (i := 14) rfl))) Via.refl e1 (S_COMPACT_STRINGS.ext O0.2) (g := (mkF m 27 #[.val (.ref a1), .val (.ref a2), .val (.int (0 : Int32)), .val (.int (1 : Int32)), .val .null, .unset] [])) rfl (hb hby d2_27)
  refine go st2 ?_
  show Go p e below _ (T2.setTop (mkF m 30 #[.val (.ref a1), .val (.ref a2), .val (.int (0 : Int32)), .val (.int (1 : Int32)), .val .null, .unset] [(.int cs)]))
  have hc30_1 : ¬ (cs = (0 : Int32)) := hcs
  refine go (fun _ k => XS.ifNo X2.here hx rfl (hb hby d2_30) rfl ((if0 _ _).trans (feq hc30_1).1) k) ?_
  show Go p e below _ (T2.setTop (mkF m 33 #[.val (.ref a1), .val (.ref a2), .val (.int (0 : Int32)), .val (.int (1 : Int32)), .val .null, .unset] []))
  refine go (fun _ k => XS.aloadN X2.here hx rfl (hb hby d2_33) rfl rfl  k) ?_
  show Go p e below _ (T2.setTop (mkF m 34 #[.val (.ref a1), .val (.ref a2), .val (.int (0 : Int32)), .val (.int (1 : Int32)), .val .null, .unset] [(.ref a2)]))
  refine go (fun _ k => XS.iloadN X2.here hx rfl (hb hby d2_34) rfl  k) ?_
  show Go p e below _ (T2.setTop (mkF m 35 #[.val (.ref a1), .val (.ref a2), .val (.int (0 : Int32)), .val (.int (1 : Int32)), .val .null, .unset] [(.int (0 : Int32)), (.ref a2)]))
  refine go (fun _ k => XS.iloadN X2.here hx rfl (hb hby d2_35) rfl  k) ?_
  show Go p e below _ (T2.setTop (mkF m 36 #[.val (.ref a1), .val (.ref a2), .val (.int (0 : Int32)), .val (.int (1 : Int32)), .val .null, .unset] [(.int (1 : Int32)), (.int (0 : Int32)), (.ref a2)]))
  obtain ⟨_, _, ⟨T3, Lb3, cn3, sn3⟩, -, X3, ⟨Lc3, hQ3, lq3, yq3, zq3⟩, st3⟩ := Jvm.LawKit.callS X2 hx (y := (⟨"java/lang/StringUTF16", "compress", "([CII)[B"⟩ : MethodName)) hown (mvT hZ (hw _ (List.mem_of_getElem? (i := 15) rfl))) (mvT hZ (hw _ (List.mem_of_getElem? (i := 16) rfl))) (mvT hZ (hw _ (List.mem_of_getElem? (i := 17) rfl))) (mvT hZ (hw _ (List.mem_of_getElem? (i := 18) rfl))) (by decide) (backOf (W := 0) (rmc2_1 l Z a0 hw [] a2 k2 c0 h0 n0 (Nat.le_trans Z0 (Keep.refl h0 [a1]).1) V_a2 (by assumption : ¬ ((255 : Int32) < c0))) hZ (hw _ (List.mem_of_getElem? (i := 18) rfl)) (hw _ (List.mem_of_getElem? (i := 17) rfl)) (by decide) (by decide)) (g := (mkF m 36 #[.val (.ref a1), .val (.ref a2), .val (.int (0 : Int32)), .val (.int (1 : Int32)), .val .null, .unset] [(.int (1 : Int32)), (.int (0 : Int32)), (.ref a2)])) rfl (by rw [hml]; rfl) (argsL := [(.ref a2), (.int (0 : Int32)), (.int (1 : Int32))]) (rest := []) (lenOf pd_1 rfl) rfl (by show 2 * 0 + _ ≤ _; exact Nat.le_of_eq rfl) (hb hby d2_36) (fun _ _ => ⟨rfl, e2, (by decide : 0 + 1 ≤ _), (by decide : 0 + 1 ≤ _)⟩)
  dsimp only [Pt.U, Pt.locs, Pt.cells, Pt.slots] at X3 lq3 yq3 zq3 st3 hQ3
  subst lq3 yq3 zq3
  obtain ⟨b_3, kb_3, rfl, N3q, r3_0, r3_1, r3_2⟩ := hQ3
  have N3 := Fr.app N0 N3q
  have sz_b_3 : h0.size ≤ b_3 := Nat.le_trans (Keep.refl h0 [a1]).1 r3_1
  have g_b_3 : n0 ≤ b_3 := Nat.le_trans Z0 sz_b_3
  skip
  refine go st3 ?_
  show Go p e below _ (T3.setTop (mkF m 39 #[.val (.ref a1), .val (.ref a2), .val (.int (0 : Int32)), .val (.int (1 : Int32)), .val .null, .unset] [(.ref b_3)]))
  refine go (fun _ k => XS.astore X3.here hx rfl (hb hby d2_39) rfl rfl (l' := #[.val (.ref a1), .val (.ref a2), .val (.int (0 : Int32)), .val (.int (1 : Int32)), .val .null, .val (.ref b_3)]) rfl k) ?_
  show Go p e below _ (T3.setTop (mkF m 41 #[.val (.ref a1), .val (.ref a2), .val (.int (0 : Int32)), .val (.int (1 : Int32)), .val .null, .val (.ref b_3)] []))
  refine go (fun _ k => XS.aloadN X3.here hx rfl (hb hby d2_41) rfl rfl  k) ?_
  show Go p e below _ (T3.setTop (mkF m 42 #[.val (.ref a1), .val (.ref a2), .val (.int (0 : Int32)), .val (.int (1 : Int32)), .val .null, .val (.ref b_3)] [(.ref a1)]))
  refine go (fun _ k => XS.aload X3.here hx rfl (hb hby d2_42) rfl rfl  k) ?_
  show Go p e below _ (T3.setTop (mkF m 44 #[.val (.ref a1), .val (.ref a2), .val (.int (0 : Int32)), .val (.int (1 : Int32)), .val .null, .val (.ref b_3)] [(.ref b_3), (.ref a1)]))
  refine go (fun _ k => XS.iloadN X3.here hx rfl (hb hby d2_44) rfl  k) ?_
  show Go p e below _ (T3.setTop (mkF m 45 #[.val (.ref a1), .val (.ref a2), .val (.int (0 : Int32)), .val (.int (1 : Int32)), .val .null, .val (.ref b_3)] [(.int (1 : Int32)), (.ref b_3), (.ref a1)]))
  have K5 : Keep h0 T3.heap [a1] := ((Keep.refl h0 [a1]).trans r3_0 all0)
  obtain ⟨_, _, ⟨T4, Lb4, cn4, sn4⟩, -, X4, ⟨Lc4, hQ4, lq4, yq4, zq4⟩, st4⟩ := Jvm.LawKit.callS X3 hx (y := (⟨"java/lang/StringUTF16", "coderFromArrayLen", "([BI)B"⟩ : MethodName)) hown (mvT hZ (hw _ (List.mem_of_getElem? (i := 23) rfl))) (mvT hZ (hw _ (List.mem_of_getElem? (i := 24) rfl))) (mvT hZ (hw _ (List.mem_of_getElem? (i := 17) rfl))) (mvT hZ (hw _ (List.mem_of_getElem? (i := 25) rfl))) (by decide) (backOf (W := 1) (rmc3_1 l Z a0 hw [] b_3 kb_3 ([(.int (nar .byte (c0.toInt8.toInt32)))]) T3.heap n0 (Nat.le_trans Z0 K5.1) r3_2) hZ (hw _ (List.mem_of_getElem? (i := 25) rfl)) (hw _ (List.mem_of_getElem? (i := 17) rfl)) (by decide) (by decide)) (g := (mkF m 45 #[.val (.ref a1), .val (.ref a2), .val (.int (0 : Int32)), .val (.int (1 : Int32)), .val .null, .val (.ref b_3)] [(.int (1 : Int32)), (.ref b_3), (.ref a1)])) rfl (by rw [hml]; rfl) (argsL := [(.ref b_3), (.int (1 : Int32))]) (rest := [(.ref a1)]) (lenOf pd_2 rfl) rfl (by show 2 * 0 + _ ≤ _; exact Nat.le_of_eq rfl) (hb hby d2_45) (fun _ _ => ⟨rfl, rfl, (by decide : 1 + 0 ≤ _), (by decide : 1 + 0 ≤ _)⟩)
  dsimp only [Pt.U, Pt.locs, Pt.cells, Pt.slots] at X4 lq4 yq4 zq4 st4 hQ4
  subst lq4 yq4 zq4
  obtain ⟨rfl, N4q, e4⟩ := hQ4
  have N4 := Fr.app N3 N4q
  skip
  refine go st4 ?_
  show Go p e below _ (T4.setTop (mkF m 48 #[.val (.ref a1), .val (.ref a2), .val (.int (0 : Int32)), .val (.int (1 : Int32)), .val .null, .val (.ref b_3)] [(.int (0 : Int32)), (.ref a1)]))
  obtain ⟨T6, h6, X6, e6, W6, st6⟩ := putFN X4 hx hZ hown (hw _ (List.mem_of_getElem? (i := 26) rfl)) Via.refl e4 (F_coder_a1.keep r3_0 nin0) (E_a1.keep r3_0) (Or.inr ⟨(hw _ (List.mem_of_getElem? (i := 27) rfl)), rfl, hnm⟩) (hw _ (List.mem_of_getElem? (i := 2) rfl)) (ty := .byte) (v' := (.int (0 : Int32))) (by decide) rfl (by decide) (g := (mkF m 48 #[.val (.ref a1), .val (.ref a2), .val (.int (0 : Int32)), .val (.int (1 : Int32)), .val .null, .val (.ref b_3)] [(.int (0 : Int32)), (.ref a1)])) rfl rfl (hb hby d2_48)
  have Fw6 := (F_coder_a1.keep r3_0 nin0).same W6
  have N6 := Fr.snoc X6 N4 g_a1
  refine go st6 ?_
  show Go p e below _ (T6.setTop (mkF m 51 #[.val (.ref a1), .val (.ref a2), .val (.int (0 : Int32)), .val (.int (1 : Int32)), .val .null, .val (.ref b_3)] []))
  refine go (fun _ k => XS.aloadN X6.here hx rfl (hb hby d2_51) rfl rfl  k) ?_
  show Go p e below _ (T6.setTop (mkF m 52 #[.val (.ref a1), .val (.ref a2), .val (.int (0 : Int32)), .val (.int (1 : Int32)), .val .null, .val (.ref b_3)] [(.ref a1)]))
  refine go (fun _ k => XS.aload X6.here hx rfl (hb hby d2_52) rfl rfl  k) ?_
  show Go p e below _ (T6.setTop (mkF m 54 #[.val (.ref a1), .val (.ref a2), .val (.int (0 : Int32)), .val (.int (1 : Int32)), .val .null, .val (.ref b_3)] [(.ref b_3), (.ref a1)]))
  have f7 := ((F_value_a1.keep r3_0 nin0).other W6 (Or.inr (slot_ne (Or.inr (hw _ (List.mem_of_getElem? (i := 29) rfl))) (Or.inr (hw _ (List.mem_of_getElem? (i := 27) rfl))) (by decide) (t := (.array .byte)) (t' := .byte) (by decide) (by decide))))
  obtain ⟨T8, h8, X8, e8, W8, st8⟩ := putF X6 hx hZ hown (host := "") (Or.inl (hw _ (List.mem_of_getElem? (i := 28) rfl))) Via.refl e6 f7 ((E_a1.keep r3_0).wr W6) (Or.inr ⟨(hw _ (List.mem_of_getElem? (i := 29) rfl)), rfl, hnm⟩) (hw _ (List.mem_of_getElem? (i := 2) rfl)) (ty := (.array .byte)) (by decide) rfl rfl (g := (mkF m 54 #[.val (.ref a1), .val (.ref a2), .val (.int (0 : Int32)), .val (.int (1 : Int32)), .val .null, .val (.ref b_3)] [(.ref b_3), (.ref a1)])) rfl rfl (hb hby d2_54)
  have Fw8 := f7.same W8
  have N8 := Fr.snoc X8 N6 g_a1
  refine go st8 ?_
  show Go p e below _ (T8.setTop (mkF m 57 #[.val (.ref a1), .val (.ref a2), .val (.int (0 : Int32)), .val (.int (1 : Int32)), .val .null, .val (.ref b_3)] []))
  obtain ⟨fs, hr, hrun, hended, hW, hsame⟩ := X8.leave (v := none) (fun _ => rfl)
  have K9 : Keep h0 h8 [a1] := ((K5.wr W6 (Or.inl (List.mem_of_getElem? (i := 0) rfl))).wr W8 (Or.inl (List.mem_of_getElem? (i := 0) rfl)))
  have f10 := (Fw6.other W8 (Or.inr (slot_ne (Or.inr (hw _ (List.mem_of_getElem? (i := 27) rfl))) (Or.inr (hw _ (List.mem_of_getElem? (i := 29) rfl))) (by decide) (t := .byte) (t' := (.array .byte)) (by decide) (by decide))))
  have f11 := ((r3_2.other W6 (Ne.symm (Nat.ne_of_lt (Nat.lt_of_lt_of_le E_a1.lt r3_1)))).other W8 (Ne.symm (Nat.ne_of_lt (Nat.lt_of_lt_of_le E_a1.lt r3_1))))
  refine leaf (T := T8) ⟨fs, X8.returnOut hx Bd.returns (hb hby d2_57) hr, hrun, hended, hW, hsame⟩ ?_ (by decide) (by decide)
  show Qc4_1 Z a1 a2 u1 u2 k2 cs c0 h0 n0 _ T8.heap _
  rw [e8]
  exact ⟨b_3, kb_3, rfl, N8, K9, sz_b_3, (((E_a1.keep r3_0).wr W6).wr W8), Fw8, f10, f11⟩
theorem pd_3 : parseMethodDescriptor "([CIILjava/lang/Void;)V" = some ⟨[(.array .char), .int, .int, (.object "java/lang/Void")], none⟩ := by decide +kernel
theorem d1_0 : decode jdk_42_method_3_code 0 = .ok (.aload_n 0, 1) := by decide +kernel
theorem d1_1 : decode jdk_42_method_3_code 1 = .ok (.aload_n 1, 1) := by decide +kernel
theorem d1_2 : decode jdk_42_method_3_code 2 = .ok (.iconst 0, 1) := by decide +kernel
theorem d1_3 : decode jdk_42_method_3_code 3 = .ok (.aload_n 1, 1) := by decide +kernel
theorem d1_4 : decode jdk_42_method_3_code 4 = .ok (.arraylength, 1) := by decide +kernel
theorem d1_5 : decode jdk_42_method_3_code 5 = .ok (.aconst_null, 1) := by decide +kernel
theorem d1_6 : decode jdk_42_method_3_code 6 = .ok (.invokespecial 27, 3) := by decide +kernel
theorem d1_9 : decode jdk_42_method_3_code 9 = .ok (.return_, 1) := by decide +kernel
theorem ef_rmc5_1 (m : MethodId) (a1 : Addr) (a2 : Addr) : entryFrame m #[(.ref a1), (.ref a2)] 2 = mkF m 0 #[.val (.ref a1), .val (.ref a2)] [] := by first | (simp [entryFrame, mkF, argsToLocals, Value.category]; done) | rfl
def Qc5_1 (Z : State) (a1 : Addr) (a2 : Addr) (u1 : Value) (u2 : Value) (k2 : ClassId) (cs : Int32) (c0 : Int32) (h0 : Heap) (n0 : Nat) (v : Option Value) (h : Heap) (L : List Loc) : Prop := ∃ b : Addr, ∃ kb : ClassId, v = none ∧ Fr n0 L ∧ Keep h0 h [a1] ∧ h0.size ≤ b ∧ Exa Z h a1 "java/lang/String" ∧ Fld Z h a1 "java/lang/String" "value" "[B" (.ref b) ∧ Fld Z h a1 "java/lang/String" "coder" "B" (.int (0 : Int32)) ∧ Arv Z h b kb .byte (1 : Int32) ([(.int (nar .byte (c0.toInt8.toInt32)))]) (.int (0 : Int32))
set_option maxRecDepth 65536 in
set_option maxHeartbeats 40000000 in
theorem rmc5_1 (l : Launch) (Z : State) (a0 : Array Value) (hw : ∀ d ∈ tables_1, d.before a0 Z = true) (ws : List Jvm.Cond) (a1 : Addr) (a2 : Addr) (u1 : Value) (u2 : Value) (k2 : ClassId) (cs : Int32) (c0 : Int32) (h0 : Heap) (n0 : Nat) (Z0 : n0 ≤ h0.size) (O0 : Old Z n0 h0) (S_COMPACT_STRINGS : Sta Z Z.heap "java/lang/String" "COMPACT_STRINGS" "Z" (.int cs)) (hcs : ¬ (cs = (0 : Int32))) (E_a1 : Exa Z h0 a1 "java/lang/String") (g_a1 : n0 ≤ a1) (F_value_a1 : Fld Z h0 a1 "java/lang/String" "value" "[B" u1) (F_coder_a1 : Fld Z h0 a1 "java/lang/String" "coder" "B" u2) (V_a2 : Arv Z h0 a2 k2 .char (1 : Int32) ([(.int c0)]) (.int (0 : Int32))) (hl0 : ¬ ((255 : Int32) < c0)) :
    MetFree l (⟨"java/lang/String", "<init>", "([C)V"⟩ : MethodName) (head1 (Jvm.Cond.code (⟨"java/lang/String", "<init>", "([C)V"⟩ : MethodName) jdk_42_method_3_code 2 none :: ws) ({ frames := 3, cells := 1, slots := 1, locals := 52 } : Room)) (fun a U => a = #[(.ref a1), (.ref a2)] ∧ Z.Warmed39 U.vm ∧ U.heap = h0) (fun _ _ _ _ _ => True) (fun _ U o U' => ∃ v L, o = .returned v ∧ Qc5_1 Z a1 a2 u1 u2 k2 cs c0 h0 n0 v U'.heap L ∧ FrameEnd U o U' L ({ frames := 3, cells := 1, slots := 1, locals := 52 } : Room).cells ({ frames := 3, cells := 1, slots := 1, locals := 52 } : Room).slots) := by
  refine MetFree.of_bodySF (plainFor_of_name pn_2) hisR ?_
  intro p e s m args below meth c s₁ Bd hml0 hP hK
  obtain ⟨rfl, hZ, hh⟩ := hP
  have hx := Bd.exec
  have hby := Bd.bytes
  have hml : c.maxLocals = 2 := hml0
  have hown : s.vm.findClass "java/lang/String" = some m.cls := findClass_of_methodNamed Bd.named
  have hnm := (name_of_methodNamed Bd.named Bd.method).1
  have X0 : Stand p l e ({ frames := 3, cells := 1, slots := 1, locals := 52 } : Room) s m #[(.ref a1), (.ref a2)] below meth c s₁ [] 0 0 := Stand.of_body Bd
  have e0 : s₁.heap = h0 := by rw [← hh, Bd.state]; rfl
  have N0 := Fr.nil n0
  show Go p e below (PP s below (Qc5_1 Z a1 a2 u1 u2 k2 cs c0 h0 n0) ({ frames := 3, cells := 1, slots := 1, locals := 52 } : Room).cells ({ frames := 3, cells := 1, slots := 1, locals := 52 } : Room).slots) (s₁.setTop (entryFrame m #[(.ref a1), (.ref a2)] 2))
  refine go (fun _ k => castTop (ef_rmc5_1 m a1 a2) k) ?_
  show Go p e below _ (s₁.setTop (mkF m 0 #[.val (.ref a1), .val (.ref a2)] []))
  refine go (fun _ k => XS.aloadN X0.here hx rfl (hb hby d1_0) rfl rfl  k) ?_
  show Go p e below _ (s₁.setTop (mkF m 1 #[.val (.ref a1), .val (.ref a2)] [(.ref a1)]))
  refine go (fun _ k => XS.aloadN X0.here hx rfl (hb hby d1_1) rfl rfl  k) ?_
  show Go p e below _ (s₁.setTop (mkF m 2 #[.val (.ref a1), .val (.ref a2)] [(.ref a2), (.ref a1)]))
  refine go (fun _ k => XS.iconst X0.here hx rfl (hb hby d1_2) k) ?_
  show Go p e below _ (s₁.setTop (mkF m 3 #[.val (.ref a1), .val (.ref a2)] [(.int (0 : Int32)), (.ref a2), (.ref a1)]))
  refine go (fun _ k => XS.aloadN X0.here hx rfl (hb hby d1_3) rfl rfl  k) ?_
  show Go p e below _ (s₁.setTop (mkF m 4 #[.val (.ref a1), .val (.ref a2)] [(.ref a2), (.int (0 : Int32)), (.ref a2), (.ref a1)]))
  obtain ⟨cl1, Ar1, -, Sa1, Ma1, -, -⟩ := id V_a2
  refine go (X0.arraylength hx (by rw [e0]; exact Ar1.1) (State.isArrayOf_alike hZ.alike Ar1.2.1) (g := (mkF m 4 #[.val (.ref a1), .val (.ref a2)] [(.ref a2), (.int (0 : Int32)), (.ref a2), (.ref a1)])) rfl rfl (hb hby d1_4)) ?_
  rw [len_of Sa1 Ma1]
  show Go p e below _ (s₁.setTop (mkF m 5 #[.val (.ref a1), .val (.ref a2)] [(.int (1 : Int32)), (.int (0 : Int32)), (.ref a2), (.ref a1)]))
  refine go (fun _ k => XS.aconstNull X0.here hx rfl (hb hby d1_5) k) ?_
  show Go p e below _ (s₁.setTop (mkF m 6 #[.val (.ref a1), .val (.ref a2)] [.null, (.int (1 : Int32)), (.int (0 : Int32)), (.ref a2), (.ref a1)]))
  obtain ⟨_, _, ⟨T2, Lb2, cn2, sn2⟩, -, X2, ⟨Lc2, hQ2, lq2, yq2, zq2⟩, st2⟩ := X0.specialBack hx (y := (⟨"java/lang/String", "<init>", "([CIILjava/lang/Void;)V"⟩ : MethodName)) rfl hown (mvT hZ (hw _ (List.mem_of_getElem? (i := 7) rfl))) (mvT hZ (hw _ (List.mem_of_getElem? (i := 8) rfl))) (mvT hZ (hw _ (List.mem_of_getElem? (i := 10) rfl))) (by decide) (backOf (W := 0) (rmc4_1 l Z a0 hw [] a1 a2 u1 u2 k2 cs c0 h0 n0 (Nat.le_trans Z0 (Keep.refl h0 [a1]).1) O0 S_COMPACT_STRINGS (by assumption : ¬ (cs = (0 : Int32))) E_a1 g_a1 F_value_a1 F_coder_a1 V_a2 (by assumption : ¬ ((255 : Int32) < c0))) hZ (hw _ (List.mem_of_getElem? (i := 10) rfl)) (hw _ (List.mem_of_getElem? (i := 3) rfl)) (by decide) (by decide)) (g := (mkF m 6 #[.val (.ref a1), .val (.ref a2)] [.null, (.int (1 : Int32)), (.int (0 : Int32)), (.ref a2), (.ref a1)])) rfl (by rw [hml]; rfl) (Steps.refl _) (a := a1) (argsL := [(.ref a2), (.int (0 : Int32)), (.int (1 : Int32)), .null]) (rest := []) (lenOf pd_3 rfl) rfl (by show 2 * 0 + _ ≤ _; exact Nat.le_of_eq rfl) (hb hby d1_6) (fun _ _ => ⟨rfl, e0, (by decide : 0 + 1 ≤ _), (by decide : 0 + 1 ≤ _)⟩)
  dsimp only [Pt.U, Pt.locs, Pt.cells, Pt.slots] at X2 lq2 yq2 zq2 st2 hQ2
  subst lq2 yq2 zq2
  obtain ⟨b_2, kb_2, rfl, N2q, r2_0, r2_1, r2_2, r2_3, r2_4, r2_5⟩ := hQ2
  have N2 := Fr.app N0 N2q
  have sz_b_2 : h0.size ≤ b_2 := Nat.le_trans (Keep.refl h0 [a1]).1 r2_1
  have g_b_2 : n0 ≤ b_2 := Nat.le_trans Z0 sz_b_2
  refine go (fun _ k => st2.trans k) ?_
  show Go p e below _ (T2.setTop (mkF m 9 #[.val (.ref a1), .val (.ref a2)] []))
  obtain ⟨fs, hr, hrun, hended, hW, hsame⟩ := X2.leave (v := none) (fun _ => rfl)
  have K3 : Keep h0 T2.heap [a1] := ((Keep.refl h0 [a1]).trans r2_0 (allS (Or.inl (List.mem_of_getElem? (i := 0) rfl)) all0))
  refine leaf (T := T2) ⟨fs, X2.returnOut hx Bd.returns (hb hby d1_9) hr, hrun, hended, hW, hsame⟩ ?_ (by decide) (by decide)
  show Qc5_1 Z a1 a2 u1 u2 k2 cs c0 h0 n0 _ T2.heap _
  exact ⟨b_2, kb_2, rfl, N2, K3, sz_b_2, r2_2, r2_3, r2_4, r2_5⟩
theorem ef_rmc1_2 (m : MethodId) (a1 : Addr) (a3 : Addr) : entryFrame m #[(.ref a1), (.int (0 : Int32)), (.ref a3), (.int (0 : Int32)), (.int (2 : Int32))] 7 = mkF m 0 #[.val (.ref a1), .val (.int (0 : Int32)), .val (.ref a3), .val (.int (0 : Int32)), .val (.int (2 : Int32)), .unset, .unset] [] := by first | (simp [entryFrame, mkF, argsToLocals, Value.category]; done) | rfl
def Qc1_2 (Z : State) (a1 : Addr) (a3 : Addr) (k1 : ClassId) (k3 : ClassId) (c0 : Int32) (c1 : Int32) (h0 : Heap) (n0 : Nat) (v : Option Value) (h : Heap) (L : List Loc) : Prop := v = some (.int (2 : Int32)) ∧ Fr n0 L ∧ Keep h0 h [a3] ∧ Arv Z h a3 k3 .byte (2 : Int32) ([(.int (nar .byte (c0.toInt8.toInt32))), (.int (nar .byte (c1.toInt8.toInt32)))]) (.int (0 : Int32))
set_option maxRecDepth 65536 in
set_option maxHeartbeats 40000000 in
theorem rmc1_2 (l : Launch) (Z : State) (a0 : Array Value) (hw : ∀ d ∈ tables_1, d.before a0 Z = true) (ws : List Jvm.Cond) (a1 : Addr) (a3 : Addr) (k1 : ClassId) (k3 : ClassId) (c0 : Int32) (c1 : Int32) (h0 : Heap) (n0 : Nat) (Z0 : n0 ≤ h0.size) (V_a1 : Arv Z h0 a1 k1 .char (2 : Int32) ([(.int c0), (.int c1)]) (.int (0 : Int32))) (V_a3 : Arv Z h0 a3 k3 .byte (2 : Int32) ([(.int (0 : Int32)), (.int (0 : Int32))]) (.int (0 : Int32))) (g_a3 : n0 ≤ a3) (ne1 : a1 ≠ a3) (hl0 : ¬ ((255 : Int32) < c0)) (hl1 : ¬ ((255 : Int32) < c1)) :
    MetFree l (⟨"java/lang/StringUTF16", "compress", "([CI[BII)I"⟩ : MethodName) (head1 (Jvm.Cond.code (⟨"java/lang/StringUTF16", "compress", "([CI[BII)I"⟩ : MethodName) jdk_52_method_21_code 7 (some .int) :: ws) ({ frames := 0, cells := 0, slots := 0, locals := 0 } : Room)) (fun a U => a = #[(.ref a1), (.int (0 : Int32)), (.ref a3), (.int (0 : Int32)), (.int (2 : Int32))] ∧ Z.Warmed39 U.vm ∧ U.heap = h0) (fun _ _ _ _ _ => True) (fun _ U o U' => ∃ v L, o = .returned v ∧ Qc1_2 Z a1 a3 k1 k3 c0 c1 h0 n0 v U'.heap L ∧ FrameEnd U o U' L ({ frames := 0, cells := 0, slots := 0, locals := 0 } : Room).cells ({ frames := 0, cells := 0, slots := 0, locals := 0 } : Room).slots) := by
  refine MetFree.of_bodySF (plainFor_of_name pn_1) hisR ?_
  intro p e s m args below meth c s₁ Bd hml0 hP hK
  obtain ⟨rfl, hZ, hh⟩ := hP
  have hx := Bd.exec
  have hby := Bd.bytes
  have hml : c.maxLocals = 7 := hml0
  have hown : s.vm.findClass "java/lang/StringUTF16" = some m.cls := findClass_of_methodNamed Bd.named
  have hnm := (name_of_methodNamed Bd.named Bd.method).1
  have X0 : Stand p l e ({ frames := 0, cells := 0, slots := 0, locals := 0 } : Room) s m #[(.ref a1), (.int (0 : Int32)), (.ref a3), (.int (0 : Int32)), (.int (2 : Int32))] below meth c s₁ [] 0 0 := Stand.of_body Bd
  have e0 : s₁.heap = h0 := by rw [← hh, Bd.state]; rfl
  have N0 := Fr.nil n0
  show Go p e below (PP s below (Qc1_2 Z a1 a3 k1 k3 c0 c1 h0 n0) ({ frames := 0, cells := 0, slots := 0, locals := 0 } : Room).cells ({ frames := 0, cells := 0, slots := 0, locals := 0 } : Room).slots) (s₁.setTop (entryFrame m #[(.ref a1), (.int (0 : Int32)), (.ref a3), (.int (0 : Int32)), (.int (2 : Int32))] 7))
  refine go (fun _ k => castTop (ef_rmc1_2 m a1 a3) k) ?_
  show Go p e below _ (s₁.setTop (mkF m 0 #[.val (.ref a1), .val (.int (0 : Int32)), .val (.ref a3), .val (.int (0 : Int32)), .val (.int (2 : Int32)), .unset, .unset] []))
  refine go (fun _ k => XS.iconst X0.here hx rfl (hb hby d5_0) k) ?_
  show Go p e below _ (s₁.setTop (mkF m 1 #[.val (.ref a1), .val (.int (0 : Int32)), .val (.ref a3), .val (.int (0 : Int32)), .val (.int (2 : Int32)), .unset, .unset] [(.int (0 : Int32))]))
  refine go (fun _ k => XS.istore X0.here hx rfl (hb hby d5_1) rfl (l' := #[.val (.ref a1), .val (.int (0 : Int32)), .val (.ref a3), .val (.int (0 : Int32)), .val (.int (2 : Int32)), .val (.int (0 : Int32)), .unset]) rfl k) ?_
  show Go p e below _ (s₁.setTop (mkF m 3 #[.val (.ref a1), .val (.int (0 : Int32)), .val (.ref a3), .val (.int (0 : Int32)), .val (.int (2 : Int32)), .val (.int (0 : Int32)), .unset] []))
  refine go (fun _ k => XS.iload X0.here hx rfl (hb hby d5_3) rfl  k) ?_
  show Go p e below _ (s₁.setTop (mkF m 5 #[.val (.ref a1), .val (.int (0 : Int32)), .val (.ref a3), .val (.int (0 : Int32)), .val (.int (2 : Int32)), .val (.int (0 : Int32)), .unset] [(.int (0 : Int32))]))
  refine go (fun _ k => XS.iload X0.here hx rfl (hb hby d5_5) rfl  k) ?_
  show Go p e below _ (s₁.setTop (mkF m 7 #[.val (.ref a1), .val (.int (0 : Int32)), .val (.ref a3), .val (.int (0 : Int32)), .val (.int (2 : Int32)), .val (.int (0 : Int32)), .unset] [(.int (2 : Int32)), (.int (0 : Int32))]))
  refine go (fun _ k => XS.icmpNo X0.here hx rfl (hb hby d5_7) rfl (tlt (by decide : (0 : Int32) < (2 : Int32))).2.1 k) ?_
  show Go p e below _ (s₁.setTop (mkF m 10 #[.val (.ref a1), .val (.int (0 : Int32)), .val (.ref a3), .val (.int (0 : Int32)), .val (.int (2 : Int32)), .val (.int (0 : Int32)), .unset] []))
  refine go (fun _ k => XS.aloadN X0.here hx rfl (hb hby d5_10) rfl rfl  k) ?_
  show Go p e below _ (s₁.setTop (mkF m 11 #[.val (.ref a1), .val (.int (0 : Int32)), .val (.ref a3), .val (.int (0 : Int32)), .val (.int (2 : Int32)), .val (.int (0 : Int32)), .unset] [(.ref a1)]))
  refine go (fun _ k => XS.iloadN X0.here hx rfl (hb hby d5_11) rfl  k) ?_
  show Go p e below _ (s₁.setTop (mkF m 12 #[.val (.ref a1), .val (.int (0 : Int32)), .val (.ref a3), .val (.int (0 : Int32)), .val (.int (2 : Int32)), .val (.int (0 : Int32)), .unset] [(.int (0 : Int32)), (.ref a1)]))
  obtain ⟨cl1, Ar1, qa1, Sa1, Ma1, Ha1, Ga1⟩ := id V_a1
  have hin1 : ¬ ((0 : Int32) < 0 ∨ cl1.slots.size ≤ ((0 : Int32)).toNatClampNeg) := inb_of Sa1 ⟨by decide, by decide⟩
  have hat1 : cl1.slots[((0 : Int32)).toNatClampNeg]? = some (.int c0) := Has.at Ha1 hin1 rfl
  refine go (X0.caload hx (j := (0 : Int32)) (v := (.int c0)) (by rw [e0]; exact Ar1.1) (State.isArrayOf_alike hZ.alike Ar1.2.1) Ar1.2.2 hin1 hat1 (g := (mkF m 12 #[.val (.ref a1), .val (.int (0 : Int32)), .val (.ref a3), .val (.int (0 : Int32)), .val (.int (2 : Int32)), .val (.int (0 : Int32)), .unset] [(.int (0 : Int32)), (.ref a1)])) rfl rfl (hb hby d5_12)) ?_
  show Go p e below _ (s₁.setTop (mkF m 13 #[.val (.ref a1), .val (.int (0 : Int32)), .val (.ref a3), .val (.int (0 : Int32)), .val (.int (2 : Int32)), .val (.int (0 : Int32)), .unset] [(.int c0)]))
  refine go (fun _ k => XS.istore X0.here hx rfl (hb hby d5_13) rfl (l' := #[.val (.ref a1), .val (.int (0 : Int32)), .val (.ref a3), .val (.int (0 : Int32)), .val (.int (2 : Int32)), .val (.int (0 : Int32)), .val (.int c0)]) rfl k) ?_
  show Go p e below _ (s₁.setTop (mkF m 15 #[.val (.ref a1), .val (.int (0 : Int32)), .val (.ref a3), .val (.int (0 : Int32)), .val (.int (2 : Int32)), .val (.int (0 : Int32)), .val (.int c0)] []))
  refine go (fun _ k => XS.iload X0.here hx rfl (hb hby d5_15) rfl  k) ?_
  show Go p e below _ (s₁.setTop (mkF m 17 #[.val (.ref a1), .val (.int (0 : Int32)), .val (.ref a3), .val (.int (0 : Int32)), .val (.int (2 : Int32)), .val (.int (0 : Int32)), .val (.int c0)] [(.int c0)]))
  refine go (fun _ k => XS.sipush X0.here hx rfl (hb hby d5_17) k) ?_
  show Go p e below _ (s₁.setTop (mkF m 20 #[.val (.ref a1), .val (.int (0 : Int32)), .val (.ref a3), .val (.int (0 : Int32)), .val (.int (2 : Int32)), .val (.int (0 : Int32)), .val (.int c0)] [(.int (255 : Int32)), (.int c0)]))
  have hc20_1 : ¬ ((255 : Int32) < c0) := hl0
  refine go (fun _ k => XS.icmpYes X0.here hx rfl (pc0 := 20) (pc' := 26) rfl (hb hby d5_20) rfl (flt hc20_1).2.2.2 (by decide) (by decide) k) ?_
  show Go p e below _ (s₁.setTop (mkF m 26 #[.val (.ref a1), .val (.int (0 : Int32)), .val (.ref a3), .val (.int (0 : Int32)), .val (.int (2 : Int32)), .val (.int (0 : Int32)), .val (.int c0)] []))
  refine go (fun _ k => XS.aloadN X0.here hx rfl (hb hby d5_26) rfl rfl  k) ?_
  show Go p e below _ (s₁.setTop (mkF m 27 #[.val (.ref a1), .val (.int (0 : Int32)), .val (.ref a3), .val (.int (0 : Int32)), .val (.int (2 : Int32)), .val (.int (0 : Int32)), .val (.int c0)] [(.ref a3)]))
  refine go (fun _ k => XS.iloadN X0.here hx rfl (hb hby d5_27) rfl  k) ?_
  show Go p e below _ (s₁.setTop (mkF m 28 #[.val (.ref a1), .val (.int (0 : Int32)), .val (.ref a3), .val (.int (0 : Int32)), .val (.int (2 : Int32)), .val (.int (0 : Int32)), .val (.int c0)] [(.int (0 : Int32)), (.ref a3)]))
  refine go (fun _ k => XS.iload X0.here hx rfl (hb hby d5_28) rfl  k) ?_
  show Go p e below _ (s₁.setTop (mkF m 30 #[.val (.ref a1), .val (.int (0 : Int32)), .val (.ref a3), .val (.int (0 : Int32)), .val (.int (2 : Int32)), .val (.int (0 : Int32)), .val (.int c0)] [(.int c0), (.int (0 : Int32)), (.ref a3)]))
  refine go (fun _ k => XS.i2b X0.here hx rfl (hb hby d5_30) rfl k) ?_
  show Go p e below _ (s₁.setTop (mkF m 31 #[.val (.ref a1), .val (.int (0 : Int32)), .val (.ref a3), .val (.int (0 : Int32)), .val (.int (2 : Int32)), .val (.int (0 : Int32)), .val (.int c0)] [(.int (c0.toInt8.toInt32)), (.int (0 : Int32)), (.ref a3)]))
  obtain ⟨cl2, Ar2, qa2, Sa2, Ma2, Ha2, Ga2⟩ := id V_a3
  have hin2 : ¬ ((0 : Int32) < 0 ∨ cl2.slots.size ≤ ((0 : Int32)).toNatClampNeg) := inb_of Sa2 ⟨by decide, by decide⟩
  obtain ⟨T2, h2, X2, e2, W2, st2⟩ := stB X0 hx hZ e0 Ar2 (j := (0 : Int32)) hin2 (g := (mkF m 31 #[.val (.ref a1), .val (.int (0 : Int32)), .val (.ref a3), .val (.int (0 : Int32)), .val (.int (2 : Int32)), .val (.int (0 : Int32)), .val (.int c0)] [(.int (c0.toInt8.toInt32)), (.int (0 : Int32)), (.ref a3)])) rfl rfl (hb hby d5_31)
  have V2 := Arv.set Ar2 qa2 Sa2 Ma2 Ha2 Ga2 (fits_nar_byte _) W2 0 rfl (Nat.le_of_ble_eq_true rfl)
  have V_a3_2 : Arv Z h2 a3 k3 .byte (2 : Int32) ([(.int (nar .byte (c0.toInt8.toInt32))), (.int (0 : Int32))]) (.int (0 : Int32)) := V2
  have N2 := Fr.snoc X2 N0 g_a3
  refine go st2 ?_
  show Go p e below _ (T2.setTop (mkF m 32 #[.val (.ref a1), .val (.int (0 : Int32)), .val (.ref a3), .val (.int (0 : Int32)), .val (.int (2 : Int32)), .val (.int (0 : Int32)), .val (.int c0)] []))
  refine go (fun _ k => XS.iinc X2.here hx rfl (hb hby d5_32) rfl (l' := #[.val (.ref a1), .val (.int (1 : Int32)), .val (.ref a3), .val (.int (0 : Int32)), .val (.int (2 : Int32)), .val (.int (0 : Int32)), .val (.int c0)]) rfl k) ?_
  show Go p e below _ (T2.setTop (mkF m 35 #[.val (.ref a1), .val (.int (1 : Int32)), .val (.ref a3), .val (.int (0 : Int32)), .val (.int (2 : Int32)), .val (.int (0 : Int32)), .val (.int c0)] []))
  refine go (fun _ k => XS.iinc X2.here hx rfl (hb hby d5_35) rfl (l' := #[.val (.ref a1), .val (.int (1 : Int32)), .val (.ref a3), .val (.int (1 : Int32)), .val (.int (2 : Int32)), .val (.int (0 : Int32)), .val (.int c0)]) rfl k) ?_
  show Go p e below _ (T2.setTop (mkF m 38 #[.val (.ref a1), .val (.int (1 : Int32)), .val (.ref a3), .val (.int (1 : Int32)), .val (.int (2 : Int32)), .val (.int (0 : Int32)), .val (.int c0)] []))
  refine go (fun _ k => XS.iinc X2.here hx rfl (hb hby d5_38) rfl (l' := #[.val (.ref a1), .val (.int (1 : Int32)), .val (.ref a3), .val (.int (1 : Int32)), .val (.int (2 : Int32)), .val (.int (1 : Int32)), .val (.int c0)]) rfl k) ?_
  show Go p e below _ (T2.setTop (mkF m 41 #[.val (.ref a1), .val (.int (1 : Int32)), .val (.ref a3), .val (.int (1 : Int32)), .val (.int (2 : Int32)), .val (.int (1 : Int32)), .val (.int c0)] []))
  refine go (fun _ k => XS.goto X2.here hx rfl (pc0 := 41) (pc' := 3) rfl (hb hby d5_41) (by decide) (by decide) k) ?_
  show Go p e below _ (T2.setTop (mkF m 3 #[.val (.ref a1), .val (.int (1 : Int32)), .val (.ref a3), .val (.int (1 : Int32)), .val (.int (2 : Int32)), .val (.int (1 : Int32)), .val (.int c0)] []))
  refine go (fun _ k => XS.iload X2.here hx rfl (hb hby d5_3) rfl  k) ?_
  show Go p e below _ (T2.setTop (mkF m 5 #[.val (.ref a1), .val (.int (1 : Int32)), .val (.ref a3), .val (.int (1 : Int32)), .val (.int (2 : Int32)), .val (.int (1 : Int32)), .val (.int c0)] [(.int (1 : Int32))]))
  refine go (fun _ k => XS.iload X2.here hx rfl (hb hby d5_5) rfl  k) ?_
  show Go p e below _ (T2.setTop (mkF m 7 #[.val (.ref a1), .val (.int (1 : Int32)), .val (.ref a3), .val (.int (1 : Int32)), .val (.int (2 : Int32)), .val (.int (1 : Int32)), .val (.int c0)] [(.int (2 : Int32)), (.int (1 : Int32))]))
  refine go (fun _ k => XS.icmpNo X2.here hx rfl (hb hby d5_7) rfl (tlt (by decide : (1 : Int32) < (2 : Int32))).2.1 k) ?_
  show Go p e below _ (T2.setTop (mkF m 10 #[.val (.ref a1), .val (.int (1 : Int32)), .val (.ref a3), .val (.int (1 : Int32)), .val (.int (2 : Int32)), .val (.int (1 : Int32)), .val (.int c0)] []))
  refine go (fun _ k => XS.aloadN X2.here hx rfl (hb hby d5_10) rfl rfl  k) ?_
  show Go p e below _ (T2.setTop (mkF m 11 #[.val (.ref a1), .val (.int (1 : Int32)), .val (.ref a3), .val (.int (1 : Int32)), .val (.int (2 : Int32)), .val (.int (1 : Int32)), .val (.int c0)] [(.ref a1)]))
  refine go (fun _ k => XS.iloadN X2.here hx rfl (hb hby d5_11) rfl  k) ?_
  show Go p e below _ (T2.setTop (mkF m 12 #[.val (.ref a1), .val (.int (1 : Int32)), .val (.ref a3), .val (.int (1 : Int32)), .val (.int (2 : Int32)), .val (.int (1 : Int32)), .val (.int c0)] [(.int (1 : Int32)), (.ref a1)]))
  obtain ⟨cl3, Ar3, qa3, Sa3, Ma3, Ha3, Ga3⟩ := id (V_a1.other W2 ne1)
  have hin3 : ¬ ((1 : Int32) < 0 ∨ cl3.slots.size ≤ ((1 : Int32)).toNatClampNeg) := inb_of Sa3 ⟨by decide, by decide⟩
  have hat3 : cl3.slots[((1 : Int32)).toNatClampNeg]? = some (.int c1) := Has.at Ha3 hin3 rfl
  refine go (X2.caload hx (j := (1 : Int32)) (v := (.int c1)) (by rw [e2]; exact Ar3.1) (State.isArrayOf_alike hZ.alike Ar3.2.1) Ar3.2.2 hin3 hat3 (g := (mkF m 12 #[.val (.ref a1), .val (.int (1 : Int32)), .val (.ref a3), .val (.int (1 : Int32)), .val (.int (2 : Int32)), .val (.int (1 : Int32)), .val (.int c0)] [(.int (1 : Int32)), (.ref a1)])) rfl rfl (hb hby d5_12)) ?_
  show Go p e below _ (T2.setTop (mkF m 13 #[.val (.ref a1), .val (.int (1 : Int32)), .val (.ref a3), .val (.int (1 : Int32)), .val (.int (2 : Int32)), .val (.int (1 : Int32)), .val (.int c0)] [(.int c1)]))
  refine go (fun _ k => XS.istore X2.here hx rfl (hb hby d5_13) rfl (l' := #[.val (.ref a1), .val (.int (1 : Int32)), .val (.ref a3), .val (.int (1 : Int32)), .val (.int (2 : Int32)), .val (.int (1 : Int32)), .val (.int c1)]) rfl k) ?_
  show Go p e below _ (T2.setTop (mkF m 15 #[.val (.ref a1), .val (.int (1 : Int32)), .val (.ref a3), .val (.int (1 : Int32)), .val (.int (2 : Int32)), .val (.int (1 : Int32)), .val (.int c1)] []))
  refine go (fun _ k => XS.iload X2.here hx rfl (hb hby d5_15) rfl  k) ?_
  show Go p e below _ (T2.setTop (mkF m 17 #[.val (.ref a1), .val (.int (1 : Int32)), .val (.ref a3), .val (.int (1 : Int32)), .val (.int (2 : Int32)), .val (.int (1 : Int32)), .val (.int c1)] [(.int c1)]))
  refine go (fun _ k => XS.sipush X2.here hx rfl (hb hby d5_17) k) ?_
  show Go p e below _ (T2.setTop (mkF m 20 #[.val (.ref a1), .val (.int (1 : Int32)), .val (.ref a3), .val (.int (1 : Int32)), .val (.int (2 : Int32)), .val (.int (1 : Int32)), .val (.int c1)] [(.int (255 : Int32)), (.int c1)]))
  have hc20_2 : ¬ ((255 : Int32) < c1) := hl1
  refine go (fun _ k => XS.icmpYes X2.here hx rfl (pc0 := 20) (pc' := 26) rfl (hb hby d5_20) rfl (flt hc20_2).2.2.2 (by decide) (by decide) k) ?_
  show Go p e below _ (T2.setTop (mkF m 26 #[.val (.ref a1), .val (.int (1 : Int32)), .val (.ref a3), .val (.int (1 : Int32)), .val (.int (2 : Int32)), .val (.int (1 : Int32)), .val (.int c1)] []))
  refine go (fun _ k => XS.aloadN X2.here hx rfl (hb hby d5_26) rfl rfl  k) ?_
  show Go p e below _ (T2.setTop (mkF m 27 #[.val (.ref a1), .val (.int (1 : Int32)), .val (.ref a3), .val (.int (1 : Int32)), .val (.int (2 : Int32)), .val (.int (1 : Int32)), .val (.int c1)] [(.ref a3)]))
  refine go (fun _ k => XS.iloadN X2.here hx rfl (hb hby d5_27) rfl  k) ?_
  show Go p e below _ (T2.setTop (mkF m 28 #[.val (.ref a1), .val (.int (1 : Int32)), .val (.ref a3), .val (.int (1 : Int32)), .val (.int (2 : Int32)), .val (.int (1 : Int32)), .val (.int c1)] [(.int (1 : Int32)), (.ref a3)]))
  refine go (fun _ k => XS.iload X2.here hx rfl (hb hby d5_28) rfl  k) ?_
  show Go p e below _ (T2.setTop (mkF m 30 #[.val (.ref a1), .val (.int (1 : Int32)), .val (.ref a3), .val (.int (1 : Int32)), .val (.int (2 : Int32)), .val (.int (1 : Int32)), .val (.int c1)] [(.int c1), (.int (1 : Int32)), (.ref a3)]))
  refine go (fun _ k => XS.i2b X2.here hx rfl (hb hby d5_30) rfl k) ?_
  show Go p e below _ (T2.setTop (mkF m 31 #[.val (.ref a1), .val (.int (1 : Int32)), .val (.ref a3), .val (.int (1 : Int32)), .val (.int (2 : Int32)), .val (.int (1 : Int32)), .val (.int c1)] [(.int (c1.toInt8.toInt32)), (.int (1 : Int32)), (.ref a3)]))
  obtain ⟨cl4, Ar4, qa4, Sa4, Ma4, Ha4, Ga4⟩ := id V_a3_2
  have hin4 : ¬ ((1 : Int32) < 0 ∨ cl4.slots.size ≤ ((1 : Int32)).toNatClampNeg) := inb_of Sa4 ⟨by decide, by decide⟩
  obtain ⟨T4, h4, X4, e4, W4, st4⟩ := stB X2 hx hZ e2 Ar4 (j := (1 : Int32)) hin4 (g := (mkF m 31 #[.val (.ref a1), .val (.int (1 : Int32)), .val (.ref a3), .val (.int (1 : Int32)), .val (.int (2 : Int32)), .val (.int (1 : Int32)), .val (.int c1)] [(.int (c1.toInt8.toInt32)), (.int (1 : Int32)), (.ref a3)])) rfl rfl (hb hby d5_31)
  have V4 := Arv.set Ar4 qa4 Sa4 Ma4 Ha4 Ga4 (fits_nar_byte _) W4 1 rfl (Nat.le_of_ble_eq_true rfl)
  have V_a3_4 : Arv Z h4 a3 k3 .byte (2 : Int32) ([(.int (nar .byte (c0.toInt8.toInt32))), (.int (nar .byte (c1.toInt8.toInt32)))]) (.int (0 : Int32)) := V4
  have N4 := Fr.snoc X4 N2 g_a3
  refine go st4 ?_
  show Go p e below _ (T4.setTop (mkF m 32 #[.val (.ref a1), .val (.int (1 : Int32)), .val (.ref a3), .val (.int (1 : Int32)), .val (.int (2 : Int32)), .val (.int (1 : Int32)), .val (.int c1)] []))
  refine go (fun _ k => XS.iinc X4.here hx rfl (hb hby d5_32) rfl (l' := #[.val (.ref a1), .val (.int (2 : Int32)), .val (.ref a3), .val (.int (1 : Int32)), .val (.int (2 : Int32)), .val (.int (1 : Int32)), .val (.int c1)]) rfl k) ?_
  show Go p e below _ (T4.setTop (mkF m 35 #[.val (.ref a1), .val (.int (2 : Int32)), .val (.ref a3), .val (.int (1 : Int32)), .val (.int (2 : Int32)), .val (.int (1 : Int32)), .val (.int c1)] []))
  refine go (fun _ k => XS.iinc X4.here hx rfl (hb hby d5_35) rfl (l' := #[.val (.ref a1), .val (.int (2 : Int32)), .val (.ref a3), .val (.int (2 : Int32)), .val (.int (2 : Int32)), .val (.int (1 : Int32)), .val (.int c1)]) rfl k) ?_
  show Go p e below _ (T4.setTop (mkF m 38 #[.val (.ref a1), .val (.int (2 : Int32)), .val (.ref a3), .val (.int (2 : Int32)), .val (.int (2 : Int32)), .val (.int (1 : Int32)), .val (.int c1)] []))
  refine go (fun _ k => XS.iinc X4.here hx rfl (hb hby d5_38) rfl (l' := #[.val (.ref a1), .val (.int (2 : Int32)), .val (.ref a3), .val (.int (2 : Int32)), .val (.int (2 : Int32)), .val (.int (2 : Int32)), .val (.int c1)]) rfl k) ?_
  show Go p e below _ (T4.setTop (mkF m 41 #[.val (.ref a1), .val (.int (2 : Int32)), .val (.ref a3), .val (.int (2 : Int32)), .val (.int (2 : Int32)), .val (.int (2 : Int32)), .val (.int c1)] []))
  refine go (fun _ k => XS.goto X4.here hx rfl (pc0 := 41) (pc' := 3) rfl (hb hby d5_41) (by decide) (by decide) k) ?_
  show Go p e below _ (T4.setTop (mkF m 3 #[.val (.ref a1), .val (.int (2 : Int32)), .val (.ref a3), .val (.int (2 : Int32)), .val (.int (2 : Int32)), .val (.int (2 : Int32)), .val (.int c1)] []))
  refine go (fun _ k => XS.iload X4.here hx rfl (hb hby d5_3) rfl  k) ?_
  show Go p e below _ (T4.setTop (mkF m 5 #[.val (.ref a1), .val (.int (2 : Int32)), .val (.ref a3), .val (.int (2 : Int32)), .val (.int (2 : Int32)), .val (.int (2 : Int32)), .val (.int c1)] [(.int (2 : Int32))]))
  refine go (fun _ k => XS.iload X4.here hx rfl (hb hby d5_5) rfl  k) ?_
  show Go p e below _ (T4.setTop (mkF m 7 #[.val (.ref a1), .val (.int (2 : Int32)), .val (.ref a3), .val (.int (2 : Int32)), .val (.int (2 : Int32)), .val (.int (2 : Int32)), .val (.int c1)] [(.int (2 : Int32)), (.int (2 : Int32))]))
  refine go (fun _ k => XS.icmpYes X4.here hx rfl (pc0 := 7) (pc' := 44) rfl (hb hby d5_7) rfl (flt (by decide : ¬ ((2 : Int32) < (2 : Int32)))).2.1 (by decide) (by decide) k) ?_
  show Go p e below _ (T4.setTop (mkF m 44 #[.val (.ref a1), .val (.int (2 : Int32)), .val (.ref a3), .val (.int (2 : Int32)), .val (.int (2 : Int32)), .val (.int (2 : Int32)), .val (.int c1)] []))
  refine go (fun _ k => XS.iload X4.here hx rfl (hb hby d5_44) rfl  k) ?_
  show Go p e below _ (T4.setTop (mkF m 46 #[.val (.ref a1), .val (.int (2 : Int32)), .val (.ref a3), .val (.int (2 : Int32)), .val (.int (2 : Int32)), .val (.int (2 : Int32)), .val (.int c1)] [(.int (2 : Int32))]))
  obtain ⟨fs, hr, hrun, hended, hW, hsame⟩ := X4.leave (v := some (.int (2 : Int32))) (fun h => by rw [Bd.returns] at h; cases h)
  have K5 : Keep h0 h4 [a3] := (((Keep.refl h0 [a3]).wr W2 (Or.inl (List.mem_of_getElem? (i := 0) rfl))).wr W4 (Or.inl (List.mem_of_getElem? (i := 0) rfl)))
  refine leaf (T := T4) ⟨fs, retI X4 hx Bd.returns (hb hby d5_46) hr, hrun, hended, hW, hsame⟩ ?_ (by decide) (by decide)
  show Qc1_2 Z a1 a3 k1 k3 c0 c1 h0 n0 _ T4.heap _
  rw [e4]
  exact ⟨rfl, N4, K5, V_a3_4⟩
theorem ef_rmc2_2 (m : MethodId) (a1 : Addr) : entryFrame m #[(.ref a1), (.int (0 : Int32)), (.int (2 : Int32))] 6 = mkF m 0 #[.val (.ref a1), .val (.int (0 : Int32)), .val (.int (2 : Int32)), .unset, .unset, .unset] [] := by first | (simp [entryFrame, mkF, argsToLocals, Value.category]; done) | rfl
def Qc2_2 (Z : State) (a1 : Addr) (k1 : ClassId) (c0 : Int32) (c1 : Int32) (h0 : Heap) (n0 : Nat) (v : Option Value) (h : Heap) (L : List Loc) : Prop := ∃ b : Addr, ∃ kb : ClassId, v = some (.ref b) ∧ Fr n0 L ∧ Keep h0 h [] ∧ h0.size ≤ b ∧ Arv Z h b kb .byte (2 : Int32) ([(.int (nar .byte (c0.toInt8.toInt32))), (.int (nar .byte (c1.toInt8.toInt32)))]) (.int (0 : Int32))
set_option maxRecDepth 65536 in
set_option maxHeartbeats 40000000 in
theorem rmc2_2 (l : Launch) (Z : State) (a0 : Array Value) (hw : ∀ d ∈ tables_1, d.before a0 Z = true) (ws : List Jvm.Cond) (a1 : Addr) (k1 : ClassId) (c0 : Int32) (c1 : Int32) (h0 : Heap) (n0 : Nat) (Z0 : n0 ≤ h0.size) (V_a1 : Arv Z h0 a1 k1 .char (2 : Int32) ([(.int c0), (.int c1)]) (.int (0 : Int32))) (hl0 : ¬ ((255 : Int32) < c0)) (hl1 : ¬ ((255 : Int32) < c1)) :
    MetFree l (⟨"java/lang/StringUTF16", "compress", "([CII)[B"⟩ : MethodName) (head1 (Jvm.Cond.code (⟨"java/lang/StringUTF16", "compress", "([CII)[B"⟩ : MethodName) jdk_52_method_16_code 6 (some (.array .byte)) :: ws) ({ frames := 1, cells := 1, slots := 2, locals := 18 } : Room)) (fun a U => a = #[(.ref a1), (.int (0 : Int32)), (.int (2 : Int32))] ∧ Z.Warmed39 U.vm ∧ U.heap = h0) (fun _ _ _ _ _ => True) (fun _ U o U' => ∃ v L, o = .returned v ∧ Qc2_2 Z a1 k1 c0 c1 h0 n0 v U'.heap L ∧ FrameEnd U o U' L ({ frames := 1, cells := 1, slots := 2, locals := 18 } : Room).cells ({ frames := 1, cells := 1, slots := 2, locals := 18 } : Room).slots) := by
  refine MetFree.of_bodySF (plainFor_of_name pn_1) hisR ?_
  intro p e s m args below meth c s₁ Bd hml0 hP hK
  obtain ⟨rfl, hZ, hh⟩ := hP
  have hx := Bd.exec
  have hby := Bd.bytes
  have hml : c.maxLocals = 6 := hml0
  have hown : s.vm.findClass "java/lang/StringUTF16" = some m.cls := findClass_of_methodNamed Bd.named
  have hnm := (name_of_methodNamed Bd.named Bd.method).1
  have X0 : Stand p l e ({ frames := 1, cells := 1, slots := 2, locals := 18 } : Room) s m #[(.ref a1), (.int (0 : Int32)), (.int (2 : Int32))] below meth c s₁ [] 0 0 := Stand.of_body Bd
  have e0 : s₁.heap = h0 := by rw [← hh, Bd.state]; rfl
  have N0 := Fr.nil n0
  show Go p e below (PP s below (Qc2_2 Z a1 k1 c0 c1 h0 n0) ({ frames := 1, cells := 1, slots := 2, locals := 18 } : Room).cells ({ frames := 1, cells := 1, slots := 2, locals := 18 } : Room).slots) (s₁.setTop (entryFrame m #[(.ref a1), (.int (0 : Int32)), (.int (2 : Int32))] 6))
  refine go (fun _ k => castTop (ef_rmc2_2 m a1) k) ?_
  show Go p e below _ (s₁.setTop (mkF m 0 #[.val (.ref a1), .val (.int (0 : Int32)), .val (.int (2 : Int32)), .unset, .unset, .unset] []))
  refine go (fun _ k => XS.iloadN X0.here hx rfl (hb hby d4_0) rfl  k) ?_
  show Go p e below _ (s₁.setTop (mkF m 1 #[.val (.ref a1), .val (.int (0 : Int32)), .val (.int (2 : Int32)), .unset, .unset, .unset] [(.int (2 : Int32))]))
  obtain ⟨T1, h1, ka1, X1, e1, E1, A1, st1⟩ := newP X0 hx hZ (hw _ (List.mem_of_getElem? (i := 19) rfl)) e0 (g := (mkF m 1 #[.val (.ref a1), .val (.int (0 : Int32)), .val (.int (2 : Int32)), .unset, .unset, .unset] [(.int (2 : Int32))])) rfl (hb hby d4_1) rfl (by decide) (cap := 2) (by decide) (by decide) (by decide) (by decide)
  obtain ⟨b1, gz1⟩ : ∃ z, z = h0.size := ⟨_, rfl⟩
  rw [← gz1] at A1 st1
  have sz_b1 : h0.size ≤ b1 := Nat.le_trans (Keep.refl h0 []).1 (Nat.le_of_eq gz1.symm)
  have g_b1 : n0 ≤ b1 := Nat.le_trans Z0 sz_b1
  have V_b1 : Arv Z h1 b1 ka1 .byte (2 : Int32) [(.int (0 : Int32)), (.int (0 : Int32))] (.int (0 : Int32)) := (Arv.new A1 (by decide)).pad (pad_rep [] (.int (0 : Int32)) 2)
  refine go st1 ?_
  show Go p e below _ (T1.setTop (mkF m 3 #[.val (.ref a1), .val (.int (0 : Int32)), .val (.int (2 : Int32)), .unset, .unset, .unset] [(.ref b1)]))
  refine go (fun _ k => XS.astoreN X1.here hx rfl (hb hby d4_3) rfl rfl (l' := #[.val (.ref a1), .val (.int (0 : Int32)), .val (.int (2 : Int32)), .val (.ref b1), .unset, .unset]) rfl k) ?_
  show Go p e below _ (T1.setTop (mkF m 4 #[.val (.ref a1), .val (.int (0 : Int32)), .val (.int (2 : Int32)), .val (.ref b1), .unset, .unset] []))
  refine go (fun _ k => XS.aloadN X1.here hx rfl (hb hby d4_4) rfl rfl  k) ?_
  show Go p e below _ (T1.setTop (mkF m 5 #[.val (.ref a1), .val (.int (0 : Int32)), .val (.int (2 : Int32)), .val (.ref b1), .unset, .unset] [(.ref a1)]))
  refine go (fun _ k => XS.iloadN X1.here hx rfl (hb hby d4_5) rfl  k) ?_
  show Go p e below _ (T1.setTop (mkF m 6 #[.val (.ref a1), .val (.int (0 : Int32)), .val (.int (2 : Int32)), .val (.ref b1), .unset, .unset] [(.int (0 : Int32)), (.ref a1)]))
  refine go (fun _ k => XS.aloadN X1.here hx rfl (hb hby d4_6) rfl rfl  k) ?_
  show Go p e below _ (T1.setTop (mkF m 7 #[.val (.ref a1), .val (.int (0 : Int32)), .val (.int (2 : Int32)), .val (.ref b1), .unset, .unset] [(.ref b1), (.int (0 : Int32)), (.ref a1)]))
  refine go (fun _ k => XS.iconst X1.here hx rfl (hb hby d4_7) k) ?_
  show Go p e below _ (T1.setTop (mkF m 8 #[.val (.ref a1), .val (.int (0 : Int32)), .val (.int (2 : Int32)), .val (.ref b1), .unset, .unset] [(.int (0 : Int32)), (.ref b1), (.int (0 : Int32)), (.ref a1)]))
  refine go (fun _ k => XS.iloadN X1.here hx rfl (hb hby d4_8) rfl  k) ?_
  show Go p e below _ (T1.setTop (mkF m 9 #[.val (.ref a1), .val (.int (0 : Int32)), .val (.int (2 : Int32)), .val (.ref b1), .unset, .unset] [(.int (2 : Int32)), (.int (0 : Int32)), (.ref b1), (.int (0 : Int32)), (.ref a1)]))
  have K3 : Keep h0 h1 [] := ((Keep.refl h0 []).ext E1)
  obtain ⟨_, _, ⟨T2, Lb2, cn2, sn2⟩, -, X2, ⟨Lc2, hQ2, lq2, yq2, zq2⟩, st2⟩ := Jvm.LawKit.callS X1 hx (y := (⟨"java/lang/StringUTF16", "compress", "([CI[BII)I"⟩ : MethodName)) hown (mvT hZ (hw _ (List.mem_of_getElem? (i := 20) rfl))) (mvT hZ (hw _ (List.mem_of_getElem? (i := 21) rfl))) (mvT hZ (hw _ (List.mem_of_getElem? (i := 17) rfl))) (mvT hZ (hw _ (List.mem_of_getElem? (i := 22) rfl))) (by decide) (backOf (W := 0) (rmc1_2 l Z a0 hw [] a1 b1 k1 ka1 c0 c1 h1 n0 (Nat.le_trans Z0 K3.1) (V_a1.ext E1) V_b1 g_b1 (Nat.ne_of_lt (Nat.lt_of_lt_of_le V_a1.lt (Nat.le_of_eq gz1.symm))) (by assumption : ¬ ((255 : Int32) < c0)) (by assumption : ¬ ((255 : Int32) < c1))) hZ (hw _ (List.mem_of_getElem? (i := 22) rfl)) (hw _ (List.mem_of_getElem? (i := 17) rfl)) (by decide) (by decide)) (g := (mkF m 9 #[.val (.ref a1), .val (.int (0 : Int32)), .val (.int (2 : Int32)), .val (.ref b1), .unset, .unset] [(.int (2 : Int32)), (.int (0 : Int32)), (.ref b1), (.int (0 : Int32)), (.ref a1)])) rfl (by rw [hml]; rfl) (argsL := [(.ref a1), (.int (0 : Int32)), (.ref b1), (.int (0 : Int32)), (.int (2 : Int32))]) (rest := []) (lenOf pd_0 rfl) rfl (by show 2 * 0 + _ ≤ _; exact Nat.le_of_eq rfl) (hb hby d4_9) (fun _ _ => ⟨rfl, e1, (by decide : 1 + 0 ≤ _), (by decide : 2 + 0 ≤ _)⟩)
  dsimp only [Pt.U, Pt.locs, Pt.cells, Pt.slots] at X2 lq2 yq2 zq2 st2 hQ2
  subst lq2 yq2 zq2
  obtain ⟨rfl, N2q, r2_0, r2_1⟩ := hQ2
  have N2 := Fr.app N0 N2q
  skip
  refine go st2 ?_
  show Go p e below _ (T2.setTop (mkF m 12 #[.val (.ref a1), .val (.int (0 : Int32)), .val (.int (2 : Int32)), .val (.ref b1), .unset, .unset] [(.int (2 : Int32))]))
  refine go (fun _ k => XS.istore X2.here hx rfl (hb hby d4_12) rfl (l' := #[.val (.ref a1), .val (.int (0 : Int32)), .val (.int (2 : Int32)), .val (.ref b1), .val (.int (2 : Int32)), .unset]) rfl k) ?_
  show Go p e below _ (T2.setTop (mkF m 14 #[.val (.ref a1), .val (.int (0 : Int32)), .val (.int (2 : Int32)), .val (.ref b1), .val (.int (2 : Int32)), .unset] []))
  refine go (fun _ k => XS.iload X2.here hx rfl (hb hby d4_14) rfl  k) ?_
  show Go p e below _ (T2.setTop (mkF m 16 #[.val (.ref a1), .val (.int (0 : Int32)), .val (.int (2 : Int32)), .val (.ref b1), .val (.int (2 : Int32)), .unset] [(.int (2 : Int32))]))
  refine go (fun _ k => XS.iloadN X2.here hx rfl (hb hby d4_16) rfl  k) ?_
  show Go p e below _ (T2.setTop (mkF m 17 #[.val (.ref a1), .val (.int (0 : Int32)), .val (.int (2 : Int32)), .val (.ref b1), .val (.int (2 : Int32)), .unset] [(.int (2 : Int32)), (.int (2 : Int32))]))
  refine go (fun _ k => XS.icmpYes X2.here hx rfl (pc0 := 17) (pc' := 57) rfl (hb hby d4_17) rfl (teq (by decide : (2 : Int32) = (2 : Int32))).1 (by decide) (by decide) k) ?_
  show Go p e below _ (T2.setTop (mkF m 57 #[.val (.ref a1), .val (.int (0 : Int32)), .val (.int (2 : Int32)), .val (.ref b1), .val (.int (2 : Int32)), .unset] []))
  refine go (fun _ k => XS.aloadN X2.here hx rfl (hb hby d4_57) rfl rfl  k) ?_
  show Go p e below _ (T2.setTop (mkF m 58 #[.val (.ref a1), .val (.int (0 : Int32)), .val (.int (2 : Int32)), .val (.ref b1), .val (.int (2 : Int32)), .unset] [(.ref b1)]))
  obtain ⟨fs, hr, hrun, hended, hW, hsame⟩ := X2.leave (v := some (.ref b1)) (fun h => by rw [Bd.returns] at h; cases h)
  have K4 : Keep h0 T2.heap [] := (K3.trans r2_0 (allS (Or.inr sz_b1) all0))
  refine leaf (T := T2) ⟨fs, retA X2 hx Bd.returns rfl rfl rfl (hb hby d4_58) hr, hrun, hended, hW, hsame⟩ ?_ (by decide) (by decide)
  show Qc2_2 Z a1 k1 c0 c1 h0 n0 _ T2.heap _
  exact ⟨b1, ka1, rfl, N2, K4, sz_b1, r2_1⟩
theorem ef_rmc3_2 (m : MethodId) (a1 : Addr) : entryFrame m #[(.ref a1), (.int (2 : Int32))] 2 = mkF m 0 #[.val (.ref a1), .val (.int (2 : Int32))] [] := by first | (simp [entryFrame, mkF, argsToLocals, Value.category]; done) | rfl
def Qc3_2 (Z : State) (a1 : Addr) (k1 : ClassId) (vs : List Value) (h0 : Heap) (n0 : Nat) (v : Option Value) (h : Heap) (L : List Loc) : Prop := v = some (.int (0 : Int32)) ∧ Fr n0 L ∧ h = h0
set_option maxRecDepth 65536 in
set_option maxHeartbeats 40000000 in
theorem rmc3_2 (l : Launch) (Z : State) (a0 : Array Value) (hw : ∀ d ∈ tables_1, d.before a0 Z = true) (ws : List Jvm.Cond) (a1 : Addr) (k1 : ClassId) (vs : List Value) (h0 : Heap) (n0 : Nat) (Z0 : n0 ≤ h0.size) (V_a1 : Arv Z h0 a1 k1 .byte (2 : Int32) vs (.int (0 : Int32))) :
    MetFree l (⟨"java/lang/StringUTF16", "coderFromArrayLen", "([BI)B"⟩ : MethodName) (head1 (Jvm.Cond.code (⟨"java/lang/StringUTF16", "coderFromArrayLen", "([BI)B"⟩ : MethodName) jdk_52_method_15_code 2 (some .byte) :: ws) ({ frames := 0, cells := 0, slots := 0, locals := 0 } : Room)) (fun a U => a = #[(.ref a1), (.int (2 : Int32))] ∧ Z.Warmed39 U.vm ∧ U.heap = h0) (fun _ _ _ _ _ => True) (fun _ U o U' => ∃ v L, o = .returned v ∧ Qc3_2 Z a1 k1 vs h0 n0 v U'.heap L ∧ FrameEnd U o U' L ({ frames := 0, cells := 0, slots := 0, locals := 0 } : Room).cells ({ frames := 0, cells := 0, slots := 0, locals := 0 } : Room).slots) := by
  refine MetFree.of_bodySF (plainFor_of_name pn_1) hisR ?_
  intro p e s m args below meth c s₁ Bd hml0 hP hK
  obtain ⟨rfl, hZ, hh⟩ := hP
  have hx := Bd.exec
  have hby := Bd.bytes
  have hml : c.maxLocals = 2 := hml0
  have hown : s.vm.findClass "java/lang/StringUTF16" = some m.cls := findClass_of_methodNamed Bd.named
  have hnm := (name_of_methodNamed Bd.named Bd.method).1
  have X0 : Stand p l e ({ frames := 0, cells := 0, slots := 0, locals := 0 } : Room) s m #[(.ref a1), (.int (2 : Int32))] below meth c s₁ [] 0 0 := Stand.of_body Bd
  have e0 : s₁.heap = h0 := by rw [← hh, Bd.state]; rfl
  have N0 := Fr.nil n0
  show Go p e below (PP s below (Qc3_2 Z a1 k1 vs h0 n0) ({ frames := 0, cells := 0, slots := 0, locals := 0 } : Room).cells ({ frames := 0, cells := 0, slots := 0, locals := 0 } : Room).slots) (s₁.setTop (entryFrame m #[(.ref a1), (.int (2 : Int32))] 2))
  refine go (fun _ k => castTop (ef_rmc3_2 m a1) k) ?_
  show Go p e below _ (s₁.setTop (mkF m 0 #[.val (.ref a1), .val (.int (2 : Int32))] []))
  refine go (fun _ k => XS.iloadN X0.here hx rfl (hb hby d6_0) rfl  k) ?_
  show Go p e below _ (s₁.setTop (mkF m 1 #[.val (.ref a1), .val (.int (2 : Int32))] [(.int (2 : Int32))]))
  refine go (fun _ k => XS.aloadN X0.here hx rfl (hb hby d6_1) rfl rfl  k) ?_
  show Go p e below _ (s₁.setTop (mkF m 2 #[.val (.ref a1), .val (.int (2 : Int32))] [(.ref a1), (.int (2 : Int32))]))
  obtain ⟨cl1, Ar1, -, Sa1, Ma1, -, -⟩ := id V_a1
  refine go (X0.arraylength hx (by rw [e0]; exact Ar1.1) (State.isArrayOf_alike hZ.alike Ar1.2.1) (g := (mkF m 2 #[.val (.ref a1), .val (.int (2 : Int32))] [(.ref a1), (.int (2 : Int32))])) rfl rfl (hb hby d6_2)) ?_
  rw [len_of Sa1 Ma1]
  show Go p e below _ (s₁.setTop (mkF m 3 #[.val (.ref a1), .val (.int (2 : Int32))] [(.int (2 : Int32)), (.int (2 : Int32))]))
  refine go (fun _ k => XS.isub X0.here hx rfl (hb hby d6_3) rfl k) ?_
  show Go p e below _ (s₁.setTop (mkF m 4 #[.val (.ref a1), .val (.int (2 : Int32))] [(.int (0 : Int32))]))
  refine go (fun _ k => XS.bipush X0.here hx rfl (hb hby d6_4) k) ?_
  show Go p e below _ (s₁.setTop (mkF m 6 #[.val (.ref a1), .val (.int (2 : Int32))] [(.int (31 : Int32)), (.int (0 : Int32))]))
  refine go (fun _ k => XS.iushr X0.here hx rfl (hb hby d6_6) rfl k) ?_
  show Go p e below _ (s₁.setTop (mkF m 7 #[.val (.ref a1), .val (.int (2 : Int32))] [(.int (0 : Int32))]))
  refine go (fun _ k => XS.i2b X0.here hx rfl (hb hby d6_7) rfl k) ?_
  show Go p e below _ (s₁.setTop (mkF m 8 #[.val (.ref a1), .val (.int (2 : Int32))] [(.int (0 : Int32))]))
  obtain ⟨fs, hr, hrun, hended, hW, hsame⟩ := X0.leave (v := some (.int (0 : Int32))) (fun h => by rw [Bd.returns] at h; cases h)
  refine leaf (T := s₁) ⟨fs, retN X0 hx (t := .byte) Bd.returns (by simp) (hb hby d6_8) hr, hrun, hended, hW, hsame⟩ ?_ (by decide) (by decide)
  show Qc3_2 Z a1 k1 vs h0 n0 _ s₁.heap _
  rw [e0]
  exact ⟨rfl, N0, rfl⟩
theorem ef_rmc4_2 (m : MethodId) (a1 : Addr) (a2 : Addr) : entryFrame m #[(.ref a1), (.ref a2), (.int (0 : Int32)), (.int (2 : Int32)), .null] 6 = mkF m 0 #[.val (.ref a1), .val (.ref a2), .val (.int (0 : Int32)), .val (.int (2 : Int32)), .val .null, .unset] [] := by first | (simp [entryFrame, mkF, argsToLocals, Value.category]; done) | rfl
def Qc4_2 (Z : State) (a1 : Addr) (a2 : Addr) (u1 : Value) (u2 : Value) (k2 : ClassId) (cs : Int32) (c0 : Int32) (c1 : Int32) (h0 : Heap) (n0 : Nat) (v : Option Value) (h : Heap) (L : List Loc) : Prop := ∃ b : Addr, ∃ kb : ClassId, v = none ∧ Fr n0 L ∧ Keep h0 h [a1] ∧ h0.size ≤ b ∧ Exa Z h a1 "java/lang/String" ∧ Fld Z h a1 "java/lang/String" "value" "[B" (.ref b) ∧ Fld Z h a1 "java/lang/String" "coder" "B" (.int (0 : Int32)) ∧ Arv Z h b kb .byte (2 : Int32) ([(.int (nar .byte (c0.toInt8.toInt32))), (.int (nar .byte (c1.toInt8.toInt32)))]) (.int (0 : Int32))
set_option maxRecDepth 65536 in
set_option maxHeartbeats 40000000 in
theorem rmc4_2 (l : Launch) (Z : State) (a0 : Array Value) (hw : ∀ d ∈ tables_1, d.before a0 Z = true) (ws : List Jvm.Cond) (a1 : Addr) (a2 : Addr) (u1 : Value) (u2 : Value) (k2 : ClassId) (cs : Int32) (c0 : Int32) (c1 : Int32) (h0 : Heap) (n0 : Nat) (Z0 : n0 ≤ h0.size) (O0 : Old Z n0 h0) (S_COMPACT_STRINGS : Sta Z Z.heap "java/lang/String" "COMPACT_STRINGS" "Z" (.int cs)) (hcs : ¬ (cs = (0 : Int32))) (E_a1 : Exa Z h0 a1 "java/lang/String") (g_a1 : n0 ≤ a1) (F_value_a1 : Fld Z h0 a1 "java/lang/String" "value" "[B" u1) (F_coder_a1 : Fld Z h0 a1 "java/lang/String" "coder" "B" u2) (V_a2 : Arv Z h0 a2 k2 .char (2 : Int32) ([(.int c0), (.int c1)]) (.int (0 : Int32))) (hl0 : ¬ ((255 : Int32) < c0)) (hl1 : ¬ ((255 : Int32) < c1)) :
    MetFree l (⟨"java/lang/String", "<init>", "([CIILjava/lang/Void;)V"⟩ : MethodName) (head1 (Jvm.Cond.code (⟨"java/lang/String", "<init>", "([CIILjava/lang/Void;)V"⟩ : MethodName) jdk_42_method_149_code 6 none :: ws) ({ frames := 2, cells := 1, slots := 2, locals := 35 } : Room)) (fun a U => a = #[(.ref a1), (.ref a2), (.int (0 : Int32)), (.int (2 : Int32)), .null] ∧ Z.Warmed39 U.vm ∧ U.heap = h0) (fun _ _ _ _ _ => True) (fun _ U o U' => ∃ v L, o = .returned v ∧ Qc4_2 Z a1 a2 u1 u2 k2 cs c0 c1 h0 n0 v U'.heap L ∧ FrameEnd U o U' L ({ frames := 2, cells := 1, slots := 2, locals := 35 } : Room).cells ({ frames := 2, cells := 1, slots := 2, locals := 35 } : Room).slots) := by
  refine MetFree.of_bodySF (plainFor_of_name pn_2) hisR ?_
  intro p e s m args below meth c s₁ Bd hml0 hP hK
  obtain ⟨rfl, hZ, hh⟩ := hP
  have hx := Bd.exec
  have hby := Bd.bytes
  have hml : c.maxLocals = 6 := hml0
  have hown : s.vm.findClass "java/lang/String" = some m.cls := findClass_of_methodNamed Bd.named
  have hnm := (name_of_methodNamed Bd.named Bd.method).1
  have X0 : Stand p l e ({ frames := 2, cells := 1, slots := 2, locals := 35 } : Room) s m #[(.ref a1), (.ref a2), (.int (0 : Int32)), (.int (2 : Int32)), .null] below meth c s₁ [] 0 0 := Stand.of_body Bd
  have e0 : s₁.heap = h0 := by rw [← hh, Bd.state]; rfl
  have N0 := Fr.nil n0
  show Go p e below (PP s below (Qc4_2 Z a1 a2 u1 u2 k2 cs c0 c1 h0 n0) ({ frames := 2, cells := 1, slots := 2, locals := 35 } : Room).cells ({ frames := 2, cells := 1, slots := 2, locals := 35 } : Room).slots) (s₁.setTop (entryFrame m #[(.ref a1), (.ref a2), (.int (0 : Int32)), (.int (2 : Int32)), .null] 6))
  refine go (fun _ k => castTop (ef_rmc4_2 m a1 a2) k) ?_
  show Go p e below _ (s₁.setTop (mkF m 0 #[.val (.ref a1), .val (.ref a2), .val (.int (0 : Int32)), .val (.int (2 : Int32)), .val .null, .unset] []))
  refine go (fun _ k => XS.aloadN X0.here hx rfl (hb hby d2_0) rfl rfl  k) ?_
  show Go p e below _ (s₁.setTop (mkF m 1 #[.val (.ref a1), .val (.ref a2), .val (.int (0 : Int32)), .val (.int (2 : Int32)), .val .null, .unset] [(.ref a1)]))
  obtain ⟨T1, X1, e1, st1⟩ := initO X0 hx hZ hown (hw _ (List.mem_of_getElem? (i := 11) rfl)) (hw _ (List.mem_of_getElem? (i := 12) rfl)) (hw _ (List.mem_of_getElem? (i := 13) rfl)) e0 (g := (mkF m 1 #[.val (.ref a1), .val (.ref a2), .val (.int (0 : Int32)), .val (.int (2 : Int32)), .val .null, .unset] [(.ref a1)])) rfl (by rw [hml]; rfl) rfl (hb hby d2_1) (by decide) (W := 0) (by show 2 * 0 + _ ≤ _; exact Nat.le_of_eq rfl) (by decide)
  refine go st1 ?_
  show Go p e below _ (T1.setTop (mkF m 4 #[.val (.ref a1), .val (.ref a2), .val (.int (0 : Int32)), .val (.int (2 : Int32)), .val .null, .unset] []))
  refine go (fun _ k => XS.iloadN X1.here hx rfl (hb hby d2_4) rfl  k) ?_
  show Go p e below _ (T1.setTop (mkF m 5 #[.val (.ref a1), .val (.ref a2), .val (.int (0 : Int32)), .val (.int (2 : Int32)), .val .null, .unset] [(.int (2 : Int32))]))
  refine go (fun _ k => XS.ifYes X1.here hx rfl (pc0 := 5) (pc' := 27) rfl (hb hby d2_5) rfl ((if0 _ _).trans (feq (by decide : ¬ ((2 : Int32) = (0 : Int32)))).2) (by decide) (by decide) k) ?_
  show Go p e below _ (T1.setTop (mkF m 27 #[.val (.ref a1), .val (.ref a2), .val (.int (0 : Int32)), .val (.int (2 : Int32)), .val .null, .unset] []))
  obtain ⟨T2, X2, e2, st2⟩ := getS2 X1 hx hZ hown (host := "") (Or.inl (hw _ (List.mem_of_getElem? (i := 14) rfl))) Via.refl e1 (S_COMPACT_STRINGS.ext O0.2) (g := (mkF m 27 #[.val (.ref a1), .val (.ref a2), .val (.int (0 : Int32)), .val (.int (2 : Int32)), .val .null, .unset] [])) rfl (hb hby d2_27)
  refine go st2 ?_
  show Go p e below _ (T2.setTop (mkF m 30 #[.val (.ref a1), .val (.ref a2), .val (.int (0 : Int32)), .val (.int (2 : Int32)), .val .null, .unset] [(.int cs)]))
  have hc30_1 : ¬ (cs = (0 : Int32)) := hcs
  refine go (fun _ k => XS.ifNo X2.here hx rfl (hb hby d2_30) rfl ((if0 _ _).trans (feq hc30_1).1) k) ?_
  show Go p e below _ (T2.setTop (mkF m 33 #[.val (.ref a1), .val (.ref a2), .val (.int (0 : Int32)), .val (.int (2 : Int32)), .val .null, .unset] []))
  refine go (fun _ k => XS.aloadN X2.here hx rfl (hb hby d2_33) rfl rfl  k) ?_
  show Go p e below _ (T2.setTop (mkF m 34 #[.val (.ref a1), .val (.ref a2), .val (.int (0 : Int32)), .val (.int (2 : Int32)), .val .null, .unset] [(.ref a2)]))
  refine go (fun _ k => XS.iloadN X2.here hx rfl (hb hby d2_34) rfl  k) ?_
  show Go p e below _ (T2.setTop (mkF m 35 #[.val (.ref a1), .val (.ref a2), .val (.int (0 : Int32)), .val (.int (2 : Int32)), .val .null, .unset] [(.int (0 : Int32)), (.ref a2)]))
  refine go (fun _ k => XS.iloadN X2.here hx rfl (hb hby d2_35) rfl  k) ?_
  show Go p e below _ (T2.setTop (mkF m 36 #[.val (.ref a1), .val (.ref a2), .val (.int (0 : Int32)), .val (.int (2 : Int32)), .val .null, .unset] [(.int (2 : Int32)), (.int (0 : Int32)), (.ref a2)]))
  obtain ⟨_, _, ⟨T3, Lb3, cn3, sn3⟩, -, X3, ⟨Lc3, hQ3, lq3, yq3, zq3⟩, st3⟩ := Jvm.LawKit.callS X2 hx (y := (⟨"java/lang/StringUTF16", "compress", "([CII)[B"⟩ : MethodName)) hown (mvT hZ (hw _ (List.mem_of_getElem? (i := 15) rfl))) (mvT hZ (hw _ (List.mem_of_getElem? (i := 16) rfl))) (mvT hZ (hw _ (List.mem_of_getElem? (i := 17) rfl))) (mvT hZ (hw _ (List.mem_of_getElem? (i := 18) rfl))) (by decide) (backOf (W := 0) (rmc2_2 l Z a0 hw [] a2 k2 c0 c1 h0 n0 (Nat.le_trans Z0 (Keep.refl h0 [a1]).1) V_a2 (by assumption : ¬ ((255 : Int32) < c0)) (by assumption : ¬ ((255 : Int32) < c1))) hZ (hw _ (List.mem_of_getElem? (i := 18) rfl)) (hw _ (List.mem_of_getElem? (i := 17) rfl)) (by decide) (by decide)) (g := (mkF m 36 #[.val (.ref a1), .val (.ref a2), .val (.int (0 : Int32)), .val (.int (2 : Int32)), .val .null, .unset] [(.int (2 : Int32)), (.int (0 : Int32)), (.ref a2)])) rfl (by rw [hml]; rfl) (argsL := [(.ref a2), (.int (0 : Int32)), (.int (2 : Int32))]) (rest := []) (lenOf pd_1 rfl) rfl (by show 2 * 0 + _ ≤ _; exact Nat.le_of_eq rfl) (hb hby d2_36) (fun _ _ => ⟨rfl, e2, (by decide : 0 + 1 ≤ _), (by decide : 0 + 2 ≤ _)⟩)
  dsimp only [Pt.U, Pt.locs, Pt.cells, Pt.slots] at X3 lq3 yq3 zq3 st3 hQ3
  subst lq3 yq3 zq3
  obtain ⟨b_3, kb_3, rfl, N3q, r3_0, r3_1, r3_2⟩ := hQ3
  have N3 := Fr.app N0 N3q
  have sz_b_3 : h0.size ≤ b_3 := Nat.le_trans (Keep.refl h0 [a1]).1 r3_1
  have g_b_3 : n0 ≤ b_3 := Nat.le_trans Z0 sz_b_3
  skip
  refine go st3 ?_
  show Go p e below _ (T3.setTop (mkF m 39 #[.val (.ref a1), .val (.ref a2), .val (.int (0 : Int32)), .val (.int (2 : Int32)), .val .null, .unset] [(.ref b_3)]))
  refine go (fun _ k => XS.astore X3.here hx rfl (hb hby d2_39) rfl rfl (l' := #[.val (.ref a1), .val (.ref a2), .val (.int (0 : Int32)), .val (.int (2 : Int32)), .val .null, .val (.ref b_3)]) rfl k) ?_
  show Go p e below _ (T3.setTop (mkF m 41 #[.val (.ref a1), .val (.ref a2), .val (.int (0 : Int32)), .val (.int (2 : Int32)), .val .null, .val (.ref b_3)] []))
  refine go (fun _ k => XS.aloadN X3.here hx rfl (hb hby d2_41) rfl rfl  k) ?_
  show Go p e below _ (T3.setTop (mkF m 42 #[.val (.ref a1), .val (.ref a2), .val (.int (0 : Int32)), .val (.int (2 : Int32)), .val .null, .val (.ref b_3)] [(.ref a1)]))
  refine go (fun _ k => XS.aload X3.here hx rfl (hb hby d2_42) rfl rfl  k) ?_
  show Go p e below _ (T3.setTop (mkF m 44 #[.val (.ref a1), .val (.ref a2), .val (.int (0 : Int32)), .val (.int (2 : Int32)), .val .null, .val (.ref b_3)] [(.ref b_3), (.ref a1)]))
  refine go (fun _ k => XS.iloadN X3.here hx rfl (hb hby d2_44) rfl  k) ?_
  show Go p e below _ (T3.setTop (mkF m 45 #[.val (.ref a1), .val (.ref a2), .val (.int (0 : Int32)), .val (.int (2 : Int32)), .val .null, .val (.ref b_3)] [(.int (2 : Int32)), (.ref b_3), (.ref a1)]))
  have K5 : Keep h0 T3.heap [a1] := ((Keep.refl h0 [a1]).trans r3_0 all0)
  obtain ⟨_, _, ⟨T4, Lb4, cn4, sn4⟩, -, X4, ⟨Lc4, hQ4, lq4, yq4, zq4⟩, st4⟩ := Jvm.LawKit.callS X3 hx (y := (⟨"java/lang/StringUTF16", "coderFromArrayLen", "([BI)B"⟩ : MethodName)) hown (mvT hZ (hw _ (List.mem_of_getElem? (i := 23) rfl))) (mvT hZ (hw _ (List.mem_of_getElem? (i := 24) rfl))) (mvT hZ (hw _ (List.mem_of_getElem? (i := 17) rfl))) (mvT hZ (hw _ (List.mem_of_getElem? (i := 25) rfl))) (by decide) (backOf (W := 1) (rmc3_2 l Z a0 hw [] b_3 kb_3 ([(.int (nar .byte (c0.toInt8.toInt32))), (.int (nar .byte (c1.toInt8.toInt32)))]) T3.heap n0 (Nat.le_trans Z0 K5.1) r3_2) hZ (hw _ (List.mem_of_getElem? (i := 25) rfl)) (hw _ (List.mem_of_getElem? (i := 17) rfl)) (by decide) (by decide)) (g := (mkF m 45 #[.val (.ref a1), .val (.ref a2), .val (.int (0 : Int32)), .val (.int (2 : Int32)), .val .null, .val (.ref b_3)] [(.int (2 : Int32)), (.ref b_3), (.ref a1)])) rfl (by rw [hml]; rfl) (argsL := [(.ref b_3), (.int (2 : Int32))]) (rest := [(.ref a1)]) (lenOf pd_2 rfl) rfl (by show 2 * 0 + _ ≤ _; exact Nat.le_of_eq rfl) (hb hby d2_45) (fun _ _ => ⟨rfl, rfl, (by decide : 1 + 0 ≤ _), (by decide : 2 + 0 ≤ _)⟩)
  dsimp only [Pt.U, Pt.locs, Pt.cells, Pt.slots] at X4 lq4 yq4 zq4 st4 hQ4
  subst lq4 yq4 zq4
  obtain ⟨rfl, N4q, e4⟩ := hQ4
  have N4 := Fr.app N3 N4q
  skip
  refine go st4 ?_
  show Go p e below _ (T4.setTop (mkF m 48 #[.val (.ref a1), .val (.ref a2), .val (.int (0 : Int32)), .val (.int (2 : Int32)), .val .null, .val (.ref b_3)] [(.int (0 : Int32)), (.ref a1)]))
  obtain ⟨T6, h6, X6, e6, W6, st6⟩ := putFN X4 hx hZ hown (hw _ (List.mem_of_getElem? (i := 26) rfl)) Via.refl e4 (F_coder_a1.keep r3_0 nin0) (E_a1.keep r3_0) (Or.inr ⟨(hw _ (List.mem_of_getElem? (i := 27) rfl)), rfl, hnm⟩) (hw _ (List.mem_of_getElem? (i := 2) rfl)) (ty := .byte) (v' := (.int (0 : Int32))) (by decide) rfl (by decide) (g := (mkF m 48 #[.val (.ref a1), .val (.ref a2), .val (.int (0 : Int32)), .val (.int (2 : Int32)), .val .null, .val (.ref b_3)] [(.int (0 : Int32)), (.ref a1)])) rfl rfl (hb hby d2_48)
  have Fw6 := (F_coder_a1.keep r3_0 nin0).same W6
  have N6 := Fr.snoc X6 N4 g_a1
  refine go st6 ?_
  show Go p e below _ (T6.setTop (mkF m 51 #[.val (.ref a1), .val (.ref a2), .val (.int (0 : Int32)), .val (.int (2 : Int32)), .val .null, .val (.ref b_3)] []))
  refine go (fun _ k => XS.aloadN X6.here hx rfl (hb hby d2_51) rfl rfl  k) ?_
  show Go p e below _ (T6.setTop (mkF m 52 #[.val (.ref a1), .val (.ref a2), .val (.int (0 : Int32)), .val (.int (2 : Int32)), .val .null, .val (.ref b_3)] [(.ref a1)]))
  refine go (fun _ k => XS.aload X6.here hx rfl (hb hby d2_52) rfl rfl  k) ?_
  show Go p e below _ (T6.setTop (mkF m 54 #[.val (.ref a1), .val (.ref a2), .val (.int (0 : Int32)), .val (.int (2 : Int32)), .val .null, .val (.ref b_3)] [(.ref b_3), (.ref a1)]))
  have f7 := ((F_value_a1.keep r3_0 nin0).other W6 (Or.inr (slot_ne (Or.inr (hw _ (List.mem_of_getElem? (i := 29) rfl))) (Or.inr (hw _ (List.mem_of_getElem? (i := 27) rfl))) (by decide) (t := (.array .byte)) (t' := .byte) (by decide) (by decide))))
  obtain ⟨T8, h8, X8, e8, W8, st8⟩ := putF X6 hx hZ hown (host := "") (Or.inl (hw _ (List.mem_of_getElem? (i := 28) rfl))) Via.refl e6 f7 ((E_a1.keep r3_0).wr W6) (Or.inr ⟨(hw _ (List.mem_of_getElem? (i := 29) rfl)), rfl, hnm⟩) (hw _ (List.mem_of_getElem? (i := 2) rfl)) (ty := (.array .byte)) (by decide) rfl rfl (g := (mkF m 54 #[.val (.ref a1), .val (.ref a2), .val (.int (0 : Int32)), .val (.int (2 : Int32)), .val .null, .val (.ref b_3)] [(.ref b_3), (.ref a1)])) rfl rfl (hb hby d2_54)
  have Fw8 := f7.same W8
  have N8 := Fr.snoc X8 N6 g_a1
  refine go st8 ?_
  show Go p e below _ (T8.setTop (mkF m 57 #[.val (.ref a1), .val (.ref a2), .val (.int (0 : Int32)), .val (.int (2 : Int32)), .val .null, .val (.ref b_3)] []))
  obtain ⟨fs, hr, hrun, hended, hW, hsame⟩ := X8.leave (v := none) (fun _ => rfl)
  have K9 : Keep h0 h8 [a1] := ((K5.wr W6 (Or.inl (List.mem_of_getElem? (i := 0) rfl))).wr W8 (Or.inl (List.mem_of_getElem? (i := 0) rfl)))
  have f10 := (Fw6.other W8 (Or.inr (slot_ne (Or.inr (hw _ (List.mem_of_getElem? (i := 27) rfl))) (Or.inr (hw _ (List.mem_of_getElem? (i := 29) rfl))) (by decide) (t := .byte) (t' := (.array .byte)) (by decide) (by decide))))
  have f11 := ((r3_2.other W6 (Ne.symm (Nat.ne_of_lt (Nat.lt_of_lt_of_le E_a1.lt r3_1)))).other W8 (Ne.symm (Nat.ne_of_lt (Nat.lt_of_lt_of_le E_a1.lt r3_1))))
  refine leaf (T := T8) ⟨fs, X8.returnOut hx Bd.returns (hb hby d2_57) hr, hrun, hended, hW, hsame⟩ ?_ (by decide) (by decide)
  show Qc4_2 Z a1 a2 u1 u2 k2 cs c0 c1 h0 n0 _ T8.heap _
  rw [e8]
  exact ⟨b_3, kb_3, rfl, N8, K9, sz_b_3, (((E_a1.keep r3_0).wr W6).wr W8), Fw8, f10, f11⟩
theorem ef_rmc5_2 (m : MethodId) (a1 : Addr) (a2 : Addr) : entryFrame m #[(.ref a1), (.ref a2)] 2 = mkF m 0 #[.val (.ref a1), .val (.ref a2)] [] := by first | (simp [entryFrame, mkF, argsToLocals, Value.category]; done) | rfl
def Qc5_2 (Z : State) (a1 : Addr) (a2 : Addr) (u1 : Value) (u2 : Value) (k2 : ClassId) (cs : Int32) (c0 : Int32) (c1 : Int32) (h0 : Heap) (n0 : Nat) (v : Option Value) (h : Heap) (L : List Loc) : Prop := ∃ b : Addr, ∃ kb : ClassId, v = none ∧ Fr n0 L ∧ Keep h0 h [a1] ∧ h0.size ≤ b ∧ Exa Z h a1 "java/lang/String" ∧ Fld Z h a1 "java/lang/String" "value" "[B" (.ref b) ∧ Fld Z h a1 "java/lang/String" "coder" "B" (.int (0 : Int32)) ∧ Arv Z h b kb .byte (2 : Int32) ([(.int (nar .byte (c0.toInt8.toInt32))), (.int (nar .byte (c1.toInt8.toInt32)))]) (.int (0 : Int32))
set_option maxRecDepth 65536 in
set_option maxHeartbeats 40000000 in
theorem rmc5_2 (l : Launch) (Z : State) (a0 : Array Value) (hw : ∀ d ∈ tables_1, d.before a0 Z = true) (ws : List Jvm.Cond) (a1 : Addr) (a2 : Addr) (u1 : Value) (u2 : Value) (k2 : ClassId) (cs : Int32) (c0 : Int32) (c1 : Int32) (h0 : Heap) (n0 : Nat) (Z0 : n0 ≤ h0.size) (O0 : Old Z n0 h0) (S_COMPACT_STRINGS : Sta Z Z.heap "java/lang/String" "COMPACT_STRINGS" "Z" (.int cs)) (hcs : ¬ (cs = (0 : Int32))) (E_a1 : Exa Z h0 a1 "java/lang/String") (g_a1 : n0 ≤ a1) (F_value_a1 : Fld Z h0 a1 "java/lang/String" "value" "[B" u1) (F_coder_a1 : Fld Z h0 a1 "java/lang/String" "coder" "B" u2) (V_a2 : Arv Z h0 a2 k2 .char (2 : Int32) ([(.int c0), (.int c1)]) (.int (0 : Int32))) (hl0 : ¬ ((255 : Int32) < c0)) (hl1 : ¬ ((255 : Int32) < c1)) :
    MetFree l (⟨"java/lang/String", "<init>", "([C)V"⟩ : MethodName) (head1 (Jvm.Cond.code (⟨"java/lang/String", "<init>", "([C)V"⟩ : MethodName) jdk_42_method_3_code 2 none :: ws) ({ frames := 3, cells := 1, slots := 2, locals := 52 } : Room)) (fun a U => a = #[(.ref a1), (.ref a2)] ∧ Z.Warmed39 U.vm ∧ U.heap = h0) (fun _ _ _ _ _ => True) (fun _ U o U' => ∃ v L, o = .returned v ∧ Qc5_2 Z a1 a2 u1 u2 k2 cs c0 c1 h0 n0 v U'.heap L ∧ FrameEnd U o U' L ({ frames := 3, cells := 1, slots := 2, locals := 52 } : Room).cells ({ frames := 3, cells := 1, slots := 2, locals := 52 } : Room).slots) := by
  refine MetFree.of_bodySF (plainFor_of_name pn_2) hisR ?_
  intro p e s m args below meth c s₁ Bd hml0 hP hK
  obtain ⟨rfl, hZ, hh⟩ := hP
  have hx := Bd.exec
  have hby := Bd.bytes
  have hml : c.maxLocals = 2 := hml0
  have hown : s.vm.findClass "java/lang/String" = some m.cls := findClass_of_methodNamed Bd.named
  have hnm := (name_of_methodNamed Bd.named Bd.method).1
  have X0 : Stand p l e ({ frames := 3, cells := 1, slots := 2, locals := 52 } : Room) s m #[(.ref a1), (.ref a2)] below meth c s₁ [] 0 0 := Stand.of_body Bd
  have e0 : s₁.heap = h0 := by rw [← hh, Bd.state]; rfl
  have N0 := Fr.nil n0
  show Go p e below (PP s below (Qc5_2 Z a1 a2 u1 u2 k2 cs c0 c1 h0 n0) ({ frames := 3, cells := 1, slots := 2, locals := 52 } : Room).cells ({ frames := 3, cells := 1, slots := 2, locals := 52 } : Room).slots) (s₁.setTop (entryFrame m #[(.ref a1), (.ref a2)] 2))
  refine go (fun _ k => castTop (ef_rmc5_2 m a1 a2) k) ?_
  show Go p e below _ (s₁.setTop (mkF m 0 #[.val (.ref a1), .val (.ref a2)] []))
  refine go (fun _ k => XS.aloadN X0.here hx rfl (hb hby d1_0) rfl rfl  k) ?_
  show Go p e below _ (s₁.setTop (mkF m 1 #[.val (.ref a1), .val (.ref a2)] [(.ref a1)]))
  refine go (fun _ k => XS.aloadN X0.here hx rfl (hb hby d1_1) rfl rfl  k) ?_
  show Go p e below _ (s₁.setTop (mkF m 2 #[.val (.ref a1), .val (.ref a2)] [(.ref a2), (.ref a1)]))
  refine go (fun _ k => XS.iconst X0.here hx rfl (hb hby d1_2) k) ?_
  show Go p e below _ (s₁.setTop (mkF m 3 #[.val (.ref a1), .val (.ref a2)] [(.int (0 : Int32)), (.ref a2), (.ref a1)]))
  refine go (fun _ k => XS.aloadN X0.here hx rfl (hb hby d1_3) rfl rfl  k) ?_
  show Go p e below _ (s₁.setTop (mkF m 4 #[.val (.ref a1), .val (.ref a2)] [(.ref a2), (.int (0 : Int32)), (.ref a2), (.ref a1)]))
  obtain ⟨cl1, Ar1, -, Sa1, Ma1, -, -⟩ := id V_a2
  refine go (X0.arraylength hx (by rw [e0]; exact Ar1.1) (State.isArrayOf_alike hZ.alike Ar1.2.1) (g := (mkF m 4 #[.val (.ref a1), .val (.ref a2)] [(.ref a2), (.int (0 : Int32)), (.ref a2), (.ref a1)])) rfl rfl (hb hby d1_4)) ?_
  rw [len_of Sa1 Ma1]
  show Go p e below _ (s₁.setTop (mkF m 5 #[.val (.ref a1), .val (.ref a2)] [(.int (2 : Int32)), (.int (0 : Int32)), (.ref a2), (.ref a1)]))
  refine go (fun _ k => XS.aconstNull X0.here hx rfl (hb hby d1_5) k) ?_
  show Go p e below _ (s₁.setTop (mkF m 6 #[.val (.ref a1), .val (.ref a2)] [.null, (.int (2 : Int32)), (.int (0 : Int32)), (.ref a2), (.ref a1)]))
  obtain ⟨_, _, ⟨T2, Lb2, cn2, sn2⟩, -, X2, ⟨Lc2, hQ2, lq2, yq2, zq2⟩, st2⟩ := X0.specialBack hx (y := (⟨"java/lang/String", "<init>", "([CIILjava/lang/Void;)V"⟩ : MethodName)) rfl hown (mvT hZ (hw _ (List.mem_of_getElem? (i := 7) rfl))) (mvT hZ (hw _ (List.mem_of_getElem? (i := 8) rfl))) (mvT hZ (hw _ (List.mem_of_getElem? (i := 10) rfl))) (by decide) (backOf (W := 0) (rmc4_2 l Z a0 hw [] a1 a2 u1 u2 k2 cs c0 c1 h0 n0 (Nat.le_trans Z0 (Keep.refl h0 [a1]).1) O0 S_COMPACT_STRINGS (by assumption : ¬ (cs = (0 : Int32))) E_a1 g_a1 F_value_a1 F_coder_a1 V_a2 (by assumption : ¬ ((255 : Int32) < c0)) (by assumption : ¬ ((255 : Int32) < c1))) hZ (hw _ (List.mem_of_getElem? (i := 10) rfl)) (hw _ (List.mem_of_getElem? (i := 3) rfl)) (by decide) (by decide)) (g := (mkF m 6 #[.val (.ref a1), .val (.ref a2)] [.null, (.int (2 : Int32)), (.int (0 : Int32)), (.ref a2), (.ref a1)])) rfl (by rw [hml]; rfl) (Steps.refl _) (a := a1) (argsL := [(.ref a2), (.int (0 : Int32)), (.int (2 : Int32)), .null]) (rest := []) (lenOf pd_3 rfl) rfl (by show 2 * 0 + _ ≤ _; exact Nat.le_of_eq rfl) (hb hby d1_6) (fun _ _ => ⟨rfl, e0, (by decide : 0 + 1 ≤ _), (by decide : 0 + 2 ≤ _)⟩)
  dsimp only [Pt.U, Pt.locs, Pt.cells, Pt.slots] at X2 lq2 yq2 zq2 st2 hQ2
  subst lq2 yq2 zq2
  obtain ⟨b_2, kb_2, rfl, N2q, r2_0, r2_1, r2_2, r2_3, r2_4, r2_5⟩ := hQ2
  have N2 := Fr.app N0 N2q
  have sz_b_2 : h0.size ≤ b_2 := Nat.le_trans (Keep.refl h0 [a1]).1 r2_1
  have g_b_2 : n0 ≤ b_2 := Nat.le_trans Z0 sz_b_2
  refine go (fun _ k => st2.trans k) ?_
  show Go p e below _ (T2.setTop (mkF m 9 #[.val (.ref a1), .val (.ref a2)] []))
  obtain ⟨fs, hr, hrun, hended, hW, hsame⟩ := X2.leave (v := none) (fun _ => rfl)
  have K3 : Keep h0 T2.heap [a1] := ((Keep.refl h0 [a1]).trans r2_0 (allS (Or.inl (List.mem_of_getElem? (i := 0) rfl)) all0))
  refine leaf (T := T2) ⟨fs, X2.returnOut hx Bd.returns (hb hby d1_9) hr, hrun, hended, hW, hsame⟩ ?_ (by decide) (by decide)
  show Qc5_2 Z a1 a2 u1 u2 k2 cs c0 c1 h0 n0 _ T2.heap _
  exact ⟨b_2, kb_2, rfl, N2, K3, sz_b_2, r2_2, r2_3, r2_4, r2_5⟩
theorem d2_8 : decode jdk_42_method_149_code 8 = .ok (.aload_n 0, 1) := by decide +kernel
theorem d2_9 : decode jdk_42_method_149_code 9 = .ok (.ldc 7, 2) := by decide +kernel
theorem d2_11 : decode jdk_42_method_149_code 11 = .ok (.getfield 9, 3) := by decide +kernel
theorem d2_14 : decode jdk_42_method_149_code 14 = .ok (.putfield 9, 3) := by decide +kernel
theorem d2_17 : decode jdk_42_method_149_code 17 = .ok (.aload_n 0, 1) := by decide +kernel
theorem d2_18 : decode jdk_42_method_149_code 18 = .ok (.ldc 7, 2) := by decide +kernel
theorem d2_20 : decode jdk_42_method_149_code 20 = .ok (.getfield 15, 3) := by decide +kernel
theorem d2_23 : decode jdk_42_method_149_code 23 = .ok (.putfield 15, 3) := by decide +kernel
theorem d2_26 : decode jdk_42_method_149_code 26 = .ok (.return_, 1) := by decide +kernel
theorem ef_rmc4_0 (m : MethodId) (a1 : Addr) (a2 : Addr) : entryFrame m #[(.ref a1), (.ref a2), (.int (0 : Int32)), (.int (0 : Int32)), .null] 6 = mkF m 0 #[.val (.ref a1), .val (.ref a2), .val (.int (0 : Int32)), .val (.int (0 : Int32)), .val .null, .unset] [] := by first | (simp [entryFrame, mkF, argsToLocals, Value.category]; done) | rfl
def Qc4_0 (Z : State) (a1 : Addr) (a2 : Addr) (u2 : Value) (h0 : Heap) (n0 : Nat) (v : Option Value) (h : Heap) (L : List Loc) : Prop := v = none ∧ Fr n0 L ∧ Keep h0 h [a1] ∧ Exa Z h a1 "java/lang/String"
set_option maxRecDepth 65536 in
set_option maxHeartbeats 40000000 in
theorem rmc4_0 (l : Launch) (Z : State) (a0 : Array Value) (hw : ∀ d ∈ tables_1, d.before a0 Z = true) (ws : List Jvm.Cond) (a1 : Addr) (a2 : Addr) (u2 : Value) (h0 : Heap) (n0 : Nat) (Z0 : n0 ≤ h0.size) (E_a1 : Exa Z h0 a1 "java/lang/String") (g_a1 : n0 ≤ a1) (F_value_a1 : Fld Z h0 a1 "java/lang/String" "value" "[B" .null) (F_coder_a1 : Fld Z h0 a1 "java/lang/String" "coder" "B" u2) :
    MetFree l (⟨"java/lang/String", "<init>", "([CIILjava/lang/Void;)V"⟩ : MethodName) (head1 (Jvm.Cond.code (⟨"java/lang/String", "<init>", "([CIILjava/lang/Void;)V"⟩ : MethodName) jdk_42_method_149_code 6 none :: ws) ({ frames := 1, cells := 4, slots := 8, locals := 12 } : Room)) (fun a U => a = #[(.ref a1), (.ref a2), (.int (0 : Int32)), (.int (0 : Int32)), .null] ∧ Z.Warmed39 U.vm ∧ U.heap = h0 ∧ CHv Z ownEL U.vm h0) (fun _ _ _ _ _ => True) (fun _ U o U' => ∃ v L, o = .returned v ∧ Qc4_0 Z a1 a2 u2 h0 n0 v U'.heap L ∧ CHr Z ownEL U.vm U.heap U'.vm U'.heap ∧ ReturnedEndW U o U' L ({ frames := 1, cells := 4, slots := 8, locals := 12 } : Room).cells ({ frames := 1, cells := 4, slots := 8, locals := 12 } : Room).slots) := by
  refine MetFree.of_bodySF (plainFor_of_name pn_2) hisR ?_
  intro p e s m args below meth c s₁ Bd hml0 hP hK
  obtain ⟨rfl, hZ, hh, hCH⟩ := hP
  have hx := Bd.exec
  have hby := Bd.bytes
  have hml : c.maxLocals = 6 := hml0
  have hown : s.vm.findClass "java/lang/String" = some m.cls := findClass_of_methodNamed Bd.named
  have hnm := (name_of_methodNamed Bd.named Bd.method).1
  have X0 : Stand p l e ({ frames := 1, cells := 4, slots := 8, locals := 12 } : Room) (s.setVm s.vm) m #[(.ref a1), (.ref a2), (.int (0 : Int32)), (.int (0 : Int32)), .null] below meth c s₁ [] 0 0 := Stand.of_body Bd
  have e0 : s₁.heap = h0 := by rw [← hh, Bd.state]; rfl
  have N0 := Fr.nil n0
  have hS0 : s.Since s.vm h0.size := (State.WarmedH.refl s).since _
  have hk0 : h0.size ≤ h0.size := Nat.le_refl _
  have hZs := hZ
  have R0 : CHr Z ownEL s.vm h0 s.vm h0 := CHr.refl hCH
  show Go p e below (PPH Z ownEL s below (Qc4_0 Z a1 a2 u2 h0 n0) ({ frames := 1, cells := 4, slots := 8, locals := 12 } : Room).cells ({ frames := 1, cells := 4, slots := 8, locals := 12 } : Room).slots) (s₁.setTop (entryFrame m #[(.ref a1), (.ref a2), (.int (0 : Int32)), (.int (0 : Int32)), .null] 6))
  refine go (fun _ k => castTop (ef_rmc4_0 m a1 a2) k) ?_
  show Go p e below _ (s₁.setTop (mkF m 0 #[.val (.ref a1), .val (.ref a2), .val (.int (0 : Int32)), .val (.int (0 : Int32)), .val .null, .unset] []))
  refine go (fun _ k => XS.aloadN X0.here hx rfl (hb hby d2_0) rfl rfl  k) ?_
  show Go p e below _ (s₁.setTop (mkF m 1 #[.val (.ref a1), .val (.ref a2), .val (.int (0 : Int32)), .val (.int (0 : Int32)), .val .null, .unset] [(.ref a1)]))
  obtain ⟨T1, X1, e1, st1⟩ := initO X0 hx hZ hown (hw _ (List.mem_of_getElem? (i := 11) rfl)) (hw _ (List.mem_of_getElem? (i := 12) rfl)) (hw _ (List.mem_of_getElem? (i := 13) rfl)) e0 (g := (mkF m 1 #[.val (.ref a1), .val (.ref a2), .val (.int (0 : Int32)), .val (.int (0 : Int32)), .val .null, .unset] [(.ref a1)])) rfl (by rw [hml]; rfl) rfl (hb hby d2_1) (by decide) (W := 0) (by show 2 * 0 + _ ≤ _; exact Nat.le_of_eq rfl) (by decide)
  refine go st1 ?_
  show Go p e below _ (T1.setTop (mkF m 4 #[.val (.ref a1), .val (.ref a2), .val (.int (0 : Int32)), .val (.int (0 : Int32)), .val .null, .unset] []))
  refine go (fun _ k => XS.iloadN X1.here hx rfl (hb hby d2_4) rfl  k) ?_
  show Go p e below _ (T1.setTop (mkF m 5 #[.val (.ref a1), .val (.ref a2), .val (.int (0 : Int32)), .val (.int (0 : Int32)), .val .null, .unset] [(.int (0 : Int32))]))
  refine go (fun _ k => XS.ifNo X1.here hx rfl (hb hby d2_5) rfl ((if0 _ _).trans (teq (by decide : (0 : Int32) = (0 : Int32))).2) k) ?_
  show Go p e below _ (T1.setTop (mkF m 8 #[.val (.ref a1), .val (.ref a2), .val (.int (0 : Int32)), .val (.int (0 : Int32)), .val .null, .unset] []))
  refine go (fun _ k => XS.aloadN X1.here hx rfl (hb hby d2_8) rfl rfl  k) ?_
  show Go p e below _ (T1.setTop (mkF m 9 #[.val (.ref a1), .val (.ref a2), .val (.int (0 : Int32)), .val (.int (0 : Int32)), .val .null, .unset] [(.ref a1)]))
  obtain ⟨lt2, T2, h2, k2, lb2, kc2, X2, e2, E2, hS2, hk2, hZ2, hown2, EL2, FC2, FV2, AV2, la2, lb_2, A2, -, ne2, st2⟩ := ldcCH (vm0 := s.vm) X1 hx hZ hown (hw _ (List.mem_of_getElem? (i := 53) rfl)) (fun a ha => hw a (own_wS a ha)) e1 hS0 hk0 (own_EW hw) (by decide) R0.1 (vs := []) (z := (0 : Int32)) (by decide) (by decide) (by decide) (g := (mkF m 9 #[.val (.ref a1), .val (.ref a2), .val (.int (0 : Int32)), .val (.int (0 : Int32)), .val .null, .unset] [(.ref a1)])) rfl (hb hby d2_9) (n := 0) (by decide) (by decide) (by decide) (by decide)
  have R3 := R0.trans A2
  refine go st2 ?_
  show Go p e below _ (T2.setTop (mkF m 11 #[.val (.ref a1), .val (.ref a2), .val (.int (0 : Int32)), .val (.int (0 : Int32)), .val .null, .unset] [(.ref lt2), (.ref a1)]))
  obtain ⟨T4, X4, e4, st4⟩ := getF X2 hx hZ2 hown2 (host := "") (Or.inl (hw _ (List.mem_of_getElem? (i := 28) rfl))) Via.refl e2 FV2 (g := (mkF m 11 #[.val (.ref a1), .val (.ref a2), .val (.int (0 : Int32)), .val (.int (0 : Int32)), .val .null, .unset] [(.ref lt2), (.ref a1)])) rfl rfl (hb hby d2_11)
  refine go st4 ?_
  show Go p e below _ (T4.setTop (mkF m 14 #[.val (.ref a1), .val (.ref a2), .val (.int (0 : Int32)), .val (.int (0 : Int32)), .val .null, .unset] [(.ref lb2), (.ref a1)]))
  obtain ⟨T5, h5, X5, e5, W5, st5⟩ := putF X4 hx hZ2 hown2 (host := "") (Or.inl (hw _ (List.mem_of_getElem? (i := 28) rfl))) Via.refl e4 (F_value_a1.ext E2) (E_a1.ext E2) (Or.inr ⟨(hw _ (List.mem_of_getElem? (i := 29) rfl)), rfl, hnm⟩) (hw _ (List.mem_of_getElem? (i := 2) rfl)) (ty := (.array .byte)) (by decide) rfl rfl (g := (mkF m 14 #[.val (.ref a1), .val (.ref a2), .val (.int (0 : Int32)), .val (.int (0 : Int32)), .val .null, .unset] [(.ref lb2), (.ref a1)])) rfl rfl (hb hby d2_14)
  have Fw5 := (F_value_a1.ext E2).same W5
  have N5 := Fr.snoc X5 N0 g_a1
  have sfa1_7 := (CHr.safe A2 E_a1.lt (own_safeNull hZs.alike F_value_a1 E_a1))
  have R6 := R3.trans (CHr.wr W5 sfa1_7 R3.1)
  refine go st5 ?_
  show Go p e below _ (T5.setTop (mkF m 17 #[.val (.ref a1), .val (.ref a2), .val (.int (0 : Int32)), .val (.int (0 : Int32)), .val .null, .unset] []))
  refine go (fun _ k => XS.aloadN X5.here hx rfl (hb hby d2_17) rfl rfl  k) ?_
  show Go p e below _ (T5.setTop (mkF m 18 #[.val (.ref a1), .val (.ref a2), .val (.int (0 : Int32)), .val (.int (0 : Int32)), .val .null, .unset] [(.ref a1)]))
  obtain ⟨lt8, T8, h8, k8, lb8, kc8, X8, e8, E8, hS8, hk8, hZ8, hown8, EL8, FC8, FV8, AV8, la8, lb_8, A8, -, ne8, st8⟩ := ldcCH (vm0 := T2.vm) X5 hx hZ2 hown2 (hw _ (List.mem_of_getElem? (i := 53) rfl)) (fun a ha => hw a (own_wS a ha)) e5 hS2 (Nat.le_trans hk2 (Keep.of_wr W5).1) (own_EW hw) (by decide) R6.1 (vs := []) (z := (0 : Int32)) (by decide) (by decide) (by decide) (g := (mkF m 18 #[.val (.ref a1), .val (.ref a2), .val (.int (0 : Int32)), .val (.int (0 : Int32)), .val .null, .unset] [(.ref a1)])) rfl (hb hby d2_18) (n := 0) (by decide) (by decide) (by decide) (by decide)
  have R9 := R6.trans A8
  refine go st8 ?_
  show Go p e below _ (T8.setTop (mkF m 20 #[.val (.ref a1), .val (.ref a2), .val (.int (0 : Int32)), .val (.int (0 : Int32)), .val .null, .unset] [(.ref lt8), (.ref a1)]))
  obtain ⟨T10, X10, e10, st10⟩ := getF X8 hx hZ8 hown8 (host := "") (Or.inl (hw _ (List.mem_of_getElem? (i := 26) rfl))) Via.refl e8 FC8 (g := (mkF m 20 #[.val (.ref a1), .val (.ref a2), .val (.int (0 : Int32)), .val (.int (0 : Int32)), .val .null, .unset] [(.ref lt8), (.ref a1)])) rfl rfl (hb hby d2_20)
  refine go st10 ?_
  show Go p e below _ (T10.setTop (mkF m 23 #[.val (.ref a1), .val (.ref a2), .val (.int (0 : Int32)), .val (.int (0 : Int32)), .val .null, .unset] [(.int (0 : Int32)), (.ref a1)]))
  have f11 := (((F_coder_a1.ext E2).other W5 (Or.inr (slot_ne (Or.inr (hw _ (List.mem_of_getElem? (i := 27) rfl))) (Or.inr (hw _ (List.mem_of_getElem? (i := 29) rfl))) (by decide) (t := .byte) (t' := (.array .byte)) (by decide) (by decide)))).ext E8)
  obtain ⟨T12, h12, X12, e12, W12, st12⟩ := putFN X10 hx hZ8 hown8 (hw _ (List.mem_of_getElem? (i := 26) rfl)) Via.refl e10 f11 (((E_a1.ext E2).wr W5).ext E8) (Or.inr ⟨(hw _ (List.mem_of_getElem? (i := 27) rfl)), rfl, hnm⟩) (hw _ (List.mem_of_getElem? (i := 2) rfl)) (ty := .byte) (v' := (.int (0 : Int32))) (by decide) rfl (by decide) (g := (mkF m 23 #[.val (.ref a1), .val (.ref a2), .val (.int (0 : Int32)), .val (.int (0 : Int32)), .val .null, .unset] [(.int (0 : Int32)), (.ref a1)])) rfl rfl (hb hby d2_23)
  have Fw12 := f11.same W12
  have N12 := Fr.snoc X12 N5 g_a1
  have sfa1_14 := (CHr.safe A8 (Nat.lt_of_lt_of_le (Nat.lt_of_lt_of_le E_a1.lt E2.1) (Keep.of_wr W5).1) (Safe.wr W5 sfa1_7 R3.1 sfa1_7))
  have R13 := R9.trans (CHr.wr W12 sfa1_14 R9.1)
  refine go st12 ?_
  show Go p e below _ (T12.setTop (mkF m 26 #[.val (.ref a1), .val (.ref a2), .val (.int (0 : Int32)), .val (.int (0 : Int32)), .val .null, .unset] []))
  obtain ⟨fs, hr, hrun, hended, hEW⟩ := X12.leaveW (vm₁ := T8.vm) hS8 (by rw [e12]; exact (Nat.le_trans hk8 (Keep.of_wr W12).1)) (v := none) (fun _ => rfl)
  have K15 : Keep h0 h12 [a1] := (((((Keep.refl h0 [a1]).ext E2).wr W5 (Or.inl (List.mem_of_getElem? (i := 0) rfl))).ext E8).wr W12 (Or.inl (List.mem_of_getElem? (i := 0) rfl)))
  refine leafH (T := T12) ⟨fs, X12.returnOut hx Bd.returns (hb hby d2_26) hr, hrun, hended, hEW⟩ ?_ (by rw [hh, e12]; exact R13.trans (CHv.at (vm0 := T8.vm) X12 hZ8 (own_EW hw) R13.1)) (by decide) (by decide)
  show Qc4_0 Z a1 a2 u2 h0 n0 _ T12.heap _
  rw [e12]
  exact ⟨rfl, N12, K15, ((((E_a1.ext E2).wr W5).ext E8).wr W12)⟩
theorem ef_rmc5_0 (m : MethodId) (a1 : Addr) (a2 : Addr) : entryFrame m #[(.ref a1), (.ref a2)] 2 = mkF m 0 #[.val (.ref a1), .val (.ref a2)] [] := by first | (simp [entryFrame, mkF, argsToLocals, Value.category]; done) | rfl
def Qc5_0 (Z : State) (a1 : Addr) (a2 : Addr) (u2 : Value) (k2 : ClassId) (vs2 : List Value) (h0 : Heap) (n0 : Nat) (v : Option Value) (h : Heap) (L : List Loc) : Prop := v = none ∧ Fr n0 L ∧ Keep h0 h [a1] ∧ Exa Z h a1 "java/lang/String"
set_option maxRecDepth 65536 in
set_option maxHeartbeats 40000000 in
theorem rmc5_0 (l : Launch) (Z : State) (a0 : Array Value) (hw : ∀ d ∈ tables_1, d.before a0 Z = true) (ws : List Jvm.Cond) (a1 : Addr) (a2 : Addr) (u2 : Value) (k2 : ClassId) (vs2 : List Value) (h0 : Heap) (n0 : Nat) (Z0 : n0 ≤ h0.size) (E_a1 : Exa Z h0 a1 "java/lang/String") (g_a1 : n0 ≤ a1) (F_value_a1 : Fld Z h0 a1 "java/lang/String" "value" "[B" .null) (F_coder_a1 : Fld Z h0 a1 "java/lang/String" "coder" "B" u2) (V_a2 : Arv Z h0 a2 k2 .char (0 : Int32) vs2 (.int (0 : Int32))) :
    MetFree l (⟨"java/lang/String", "<init>", "([C)V"⟩ : MethodName) (head1 (Jvm.Cond.code (⟨"java/lang/String", "<init>", "([C)V"⟩ : MethodName) jdk_42_method_3_code 2 none :: ws) ({ frames := 2, cells := 4, slots := 8, locals := 29 } : Room)) (fun a U => a = #[(.ref a1), (.ref a2)] ∧ Z.Warmed39 U.vm ∧ U.heap = h0 ∧ CHv Z ownEL U.vm h0) (fun _ _ _ _ _ => True) (fun _ U o U' => ∃ v L, o = .returned v ∧ Qc5_0 Z a1 a2 u2 k2 vs2 h0 n0 v U'.heap L ∧ CHr Z ownEL U.vm U.heap U'.vm U'.heap ∧ ReturnedEndW U o U' L ({ frames := 2, cells := 4, slots := 8, locals := 29 } : Room).cells ({ frames := 2, cells := 4, slots := 8, locals := 29 } : Room).slots) := by
  refine MetFree.of_bodySF (plainFor_of_name pn_2) hisR ?_
  intro p e s m args below meth c s₁ Bd hml0 hP hK
  obtain ⟨rfl, hZ, hh, hCH⟩ := hP
  have hx := Bd.exec
  have hby := Bd.bytes
  have hml : c.maxLocals = 2 := hml0
  have hown : s.vm.findClass "java/lang/String" = some m.cls := findClass_of_methodNamed Bd.named
  have hnm := (name_of_methodNamed Bd.named Bd.method).1
  have X0 : Stand p l e ({ frames := 2, cells := 4, slots := 8, locals := 29 } : Room) (s.setVm s.vm) m #[(.ref a1), (.ref a2)] below meth c s₁ [] 0 0 := Stand.of_body Bd
  have e0 : s₁.heap = h0 := by rw [← hh, Bd.state]; rfl
  have N0 := Fr.nil n0
  have hS0 : s.Since s.vm h0.size := (State.WarmedH.refl s).since _
  have hk0 : h0.size ≤ h0.size := Nat.le_refl _
  have hZs := hZ
  have R0 : CHr Z ownEL s.vm h0 s.vm h0 := CHr.refl hCH
  show Go p e below (PPH Z ownEL s below (Qc5_0 Z a1 a2 u2 k2 vs2 h0 n0) ({ frames := 2, cells := 4, slots := 8, locals := 29 } : Room).cells ({ frames := 2, cells := 4, slots := 8, locals := 29 } : Room).slots) (s₁.setTop (entryFrame m #[(.ref a1), (.ref a2)] 2))
  refine go (fun _ k => castTop (ef_rmc5_0 m a1 a2) k) ?_
  show Go p e below _ (s₁.setTop (mkF m 0 #[.val (.ref a1), .val (.ref a2)] []))
  refine go (fun _ k => XS.aloadN X0.here hx rfl (hb hby d1_0) rfl rfl  k) ?_
  show Go p e below _ (s₁.setTop (mkF m 1 #[.val (.ref a1), .val (.ref a2)] [(.ref a1)]))
  refine go (fun _ k => XS.aloadN X0.here hx rfl (hb hby d1_1) rfl rfl  k) ?_
  show Go p e below _ (s₁.setTop (mkF m 2 #[.val (.ref a1), .val (.ref a2)] [(.ref a2), (.ref a1)]))
  refine go (fun _ k => XS.iconst X0.here hx rfl (hb hby d1_2) k) ?_
  show Go p e below _ (s₁.setTop (mkF m 3 #[.val (.ref a1), .val (.ref a2)] [(.int (0 : Int32)), (.ref a2), (.ref a1)]))
  refine go (fun _ k => XS.aloadN X0.here hx rfl (hb hby d1_3) rfl rfl  k) ?_
  show Go p e below _ (s₁.setTop (mkF m 4 #[.val (.ref a1), .val (.ref a2)] [(.ref a2), (.int (0 : Int32)), (.ref a2), (.ref a1)]))
  obtain ⟨cl1, Ar1, -, Sa1, Ma1, -, -⟩ := id V_a2
  refine go (X0.arraylength hx (by rw [e0]; exact Ar1.1) (State.isArrayOf_alike hZ.alike Ar1.2.1) (g := (mkF m 4 #[.val (.ref a1), .val (.ref a2)] [(.ref a2), (.int (0 : Int32)), (.ref a2), (.ref a1)])) rfl rfl (hb hby d1_4)) ?_
  rw [len_of Sa1 Ma1]
  show Go p e below _ (s₁.setTop (mkF m 5 #[.val (.ref a1), .val (.ref a2)] [(.int (0 : Int32)), (.int (0 : Int32)), (.ref a2), (.ref a1)]))
  refine go (fun _ k => XS.aconstNull X0.here hx rfl (hb hby d1_5) k) ?_
  show Go p e below _ (s₁.setTop (mkF m 6 #[.val (.ref a1), .val (.ref a2)] [.null, (.int (0 : Int32)), (.int (0 : Int32)), (.ref a2), (.ref a1)]))
  obtain ⟨_, _, ⟨T2, Lb2, cn2, sn2⟩, -, X2, hS2_2, hg2_2, ⟨Lc2, hQ2, lq2, yq2, zq2, A2⟩, st2⟩ := X0.specialBackS hx (y := (⟨"java/lang/String", "<init>", "([CIILjava/lang/Void;)V"⟩ : MethodName)) rfl hown (mvT hZ (hw _ (List.mem_of_getElem? (i := 7) rfl))) (mvT hZ (hw _ (List.mem_of_getElem? (i := 8) rfl))) (mvT hZ (hw _ (List.mem_of_getElem? (i := 10) rfl))) (by decide) (backOfSH (W := 0) (rmc4_0 l Z a0 hw [] a1 a2 u2 h0 n0 (Nat.le_trans Z0 (Keep.refl h0 [a1]).1) E_a1 g_a1 F_value_a1 F_coder_a1) hZ (hw _ (List.mem_of_getElem? (i := 10) rfl)) (hw _ (List.mem_of_getElem? (i := 3) rfl)) (by decide) (by decide) (own_EW hw) R0.1) (g := (mkF m 6 #[.val (.ref a1), .val (.ref a2)] [.null, (.int (0 : Int32)), (.int (0 : Int32)), (.ref a2), (.ref a1)])) rfl (by rw [hml]; rfl) (Steps.refl _) (a := a1) (argsL := [(.ref a2), (.int (0 : Int32)), (.int (0 : Int32)), .null]) (rest := []) (lenOf pd_3 rfl) rfl (by show 2 * 0 + _ ≤ _; exact Nat.le_of_eq rfl) (hb hby d1_6) (fun _ _ => ⟨rfl, e0, (by decide : 0 + 4 ≤ _), (by decide : 0 + 8 ≤ _)⟩)
  dsimp only [Pt.U, Pt.locs, Pt.cells, Pt.slots] at X2 lq2 yq2 zq2 st2 hQ2 hS2_2 hg2_2 A2
  subst lq2 yq2 zq2
  have hS2 := foldS hS0 (by rw [e0]; exact hk0) hS2_2 hg2_2
  have X2 := reS (s := s) (vm0 := s.vm) X2
  have hZ2 := coldZ (vm0 := s.vm) hZ hS2_2
  have hown2 := coldO (vm0 := s.vm) hown hS2_2
  obtain ⟨rfl, N2q, r2_0, r2_1⟩ := hQ2
  have N2 := Fr.app N0 N2q
  have R3 := R0.trans A2
  refine go (fun _ k => st2.trans k) ?_
  show Go p e below _ (T2.setTop (mkF m 9 #[.val (.ref a1), .val (.ref a2)] []))
  obtain ⟨fs, hr, hrun, hended, hEW⟩ := X2.leaveW (vm₁ := T2.vm) hS2 (Nat.le_refl _) (v := none) (fun _ => rfl)
  have K4 : Keep h0 T2.heap [a1] := ((Keep.refl h0 [a1]).trans r2_0 (allS (Or.inl (List.mem_of_getElem? (i := 0) rfl)) all0))
  refine leafH (T := T2) ⟨fs, X2.returnOut hx Bd.returns (hb hby d1_9) hr, hrun, hended, hEW⟩ ?_ (by rw [hh, (rfl : T2.heap = T2.heap)]; exact R3.trans (CHv.at (vm0 := T2.vm) X2 hZ2 (own_EW hw) R3.1)) (by decide) (by decide)
  show Qc5_0 Z a1 a2 u2 k2 vs2 h0 n0 _ T2.heap _
  exact ⟨rfl, N2, K4, r2_1⟩
theorem pn_3 : plainName "java/lang/StringLatin1" = true := by first | (simp [plainName, overriddenIn]; done) | decide +kernel
theorem d11_0 : decode jdk_43_method_3_code 0 = .ok (.iload_n 0, 1) := by decide +kernel
theorem d11_1 : decode jdk_43_method_3_code 1 = .ok (.sipush 255, 3) := by decide +kernel
theorem d11_4 : decode jdk_43_method_3_code 4 = .ok (.if_icmp .gt 7, 3) := by decide +kernel
theorem d11_7 : decode jdk_43_method_3_code 7 = .ok (.iconst 1, 1) := by decide +kernel
theorem d11_8 : decode jdk_43_method_3_code 8 = .ok (.goto 4, 3) := by decide +kernel
theorem d11_12 : decode jdk_43_method_3_code 12 = .ok (.ireturn, 1) := by decide +kernel
theorem ef_rm11 (m : MethodId) (p1 : Int32) : entryFrame m #[(.int p1)] 1 = mkF m 0 #[.val (.int p1)] [] := by first | (simp [entryFrame, mkF, argsToLocals, Value.category]; done) | rfl
def Q11 (Z : State) (p1 : Int32) (h0 : Heap) (n0 : Nat) (v : Option Value) (h : Heap) (L : List Loc) : Prop := v = some (.int (1 : Int32)) ∧ Fr n0 L ∧ h = h0
set_option maxRecDepth 65536 in
set_option maxHeartbeats 40000000 in
theorem rm11 (l : Launch) (Z : State) (a0 : Array Value) (hw : ∀ d ∈ tables_1, d.before a0 Z = true) (ws : List Jvm.Cond) (p1 : Int32) (h0 : Heap) (n0 : Nat) (Z0 : n0 ≤ h0.size) (hl : ¬ ((255 : Int32) < p1)) :
    MetFree l (⟨"java/lang/StringLatin1", "canEncode", "(C)Z"⟩ : MethodName) (head1 (Jvm.Cond.code (⟨"java/lang/StringLatin1", "canEncode", "(C)Z"⟩ : MethodName) jdk_43_method_3_code 1 (some .boolean) :: ws) ({ frames := 0, cells := 0, slots := 0, locals := 0 } : Room)) (fun a U => a = #[(.int p1)] ∧ Z.Warmed39 U.vm ∧ U.heap = h0) (fun _ _ _ _ _ => True) (fun _ U o U' => ∃ v L, o = .returned v ∧ Q11 Z p1 h0 n0 v U'.heap L ∧ FrameEnd U o U' L ({ frames := 0, cells := 0, slots := 0, locals := 0 } : Room).cells ({ frames := 0, cells := 0, slots := 0, locals := 0 } : Room).slots) := by
  refine MetFree.of_bodySF (plainFor_of_name pn_3) hisR ?_
  intro p e s m args below meth c s₁ Bd hml0 hP hK
  obtain ⟨rfl, hZ, hh⟩ := hP
  have hx := Bd.exec
  have hby := Bd.bytes
  have hml : c.maxLocals = 1 := hml0
  have hown : s.vm.findClass "java/lang/StringLatin1" = some m.cls := findClass_of_methodNamed Bd.named
  have hnm := (name_of_methodNamed Bd.named Bd.method).1
  have X0 : Stand p l e ({ frames := 0, cells := 0, slots := 0, locals := 0 } : Room) s m #[(.int p1)] below meth c s₁ [] 0 0 := Stand.of_body Bd
  have e0 : s₁.heap = h0 := by rw [← hh, Bd.state]; rfl
  have N0 := Fr.nil n0
  show Go p e below (PP s below (Q11 Z p1 h0 n0) ({ frames := 0, cells := 0, slots := 0, locals := 0 } : Room).cells ({ frames := 0, cells := 0, slots := 0, locals := 0 } : Room).slots) (s₁.setTop (entryFrame m #[(.int p1)] 1))
  refine go (fun _ k => castTop (ef_rm11 m p1) k) ?_
  show Go p e below _ (s₁.setTop (mkF m 0 #[.val (.int p1)] []))
  refine go (fun _ k => XS.iloadN X0.here hx rfl (hb hby d11_0) rfl  k) ?_
  show Go p e below _ (s₁.setTop (mkF m 1 #[.val (.int p1)] [(.int p1)]))
  refine go (fun _ k => XS.sipush X0.here hx rfl (hb hby d11_1) k) ?_
  show Go p e below _ (s₁.setTop (mkF m 4 #[.val (.int p1)] [(.int (255 : Int32)), (.int p1)]))
  have hc4_1 : ¬ ((255 : Int32) < p1) := hl
  refine go (fun _ k => XS.icmpNo X0.here hx rfl (hb hby d11_4) rfl (flt hc4_1).2.2.1 k) ?_
  show Go p e below _ (s₁.setTop (mkF m 7 #[.val (.int p1)] []))
  refine go (fun _ k => XS.iconst X0.here hx rfl (hb hby d11_7) k) ?_
  show Go p e below _ (s₁.setTop (mkF m 8 #[.val (.int p1)] [(.int (1 : Int32))]))
  refine go (fun _ k => XS.goto X0.here hx rfl (pc0 := 8) (pc' := 12) rfl (hb hby d11_8) (by decide) (by decide) k) ?_
  show Go p e below _ (s₁.setTop (mkF m 12 #[.val (.int p1)] [(.int (1 : Int32))]))
  obtain ⟨fs, hr, hrun, hended, hW, hsame⟩ := X0.leave (v := some (.int (1 : Int32))) (fun h => by rw [Bd.returns] at h; cases h)
  refine leaf (T := s₁) ⟨fs, retN X0 hx (t := .boolean) Bd.returns (by simp) (hb hby d11_12) hr, hrun, hended, hW, hsame⟩ ?_ (by decide) (by decide)
  show Q11 Z p1 h0 n0 _ s₁.heap _
  rw [e0]
  exact ⟨rfl, N0, rfl⟩
theorem d12_0 : decode jdk_43_method_46_code 0 = .ok (.iconst 1, 1) := by decide +kernel
theorem d12_1 : decode jdk_43_method_46_code 1 = .ok (.newarray .byte, 2) := by decide +kernel
theorem d12_3 : decode jdk_43_method_46_code 3 = .ok (.dup, 1) := by decide +kernel
theorem d12_4 : decode jdk_43_method_46_code 4 = .ok (.iconst 0, 1) := by decide +kernel
theorem d12_5 : decode jdk_43_method_46_code 5 = .ok (.iload_n 0, 1) := by decide +kernel
theorem d12_6 : decode jdk_43_method_46_code 6 = .ok (.i2b, 1) := by decide +kernel
theorem d12_7 : decode jdk_43_method_46_code 7 = .ok (.bastore, 1) := by decide +kernel
theorem d12_8 : decode jdk_43_method_46_code 8 = .ok (.areturn, 1) := by decide +kernel
theorem ef_rm12 (m : MethodId) (p1 : Int32) : entryFrame m #[(.int p1)] 1 = mkF m 0 #[.val (.int p1)] [] := by first | (simp [entryFrame, mkF, argsToLocals, Value.category]; done) | rfl
def Q12 (Z : State) (p1 : Int32) (h0 : Heap) (n0 : Nat) (v : Option Value) (h : Heap) (L : List Loc) : Prop := ∃ b : Addr, ∃ kb : ClassId, v = some (.ref b) ∧ Fr n0 L ∧ Keep h0 h [] ∧ h0.size ≤ b ∧ Arv Z h b kb .byte (1 : Int32) ([(.int (nar .byte (p1.toInt8.toInt32)))]) (.int (0 : Int32))
set_option maxRecDepth 65536 in
set_option maxHeartbeats 40000000 in
theorem rm12 (l : Launch) (Z : State) (a0 : Array Value) (hw : ∀ d ∈ tables_1, d.before a0 Z = true) (ws : List Jvm.Cond) (p1 : Int32) (h0 : Heap) (n0 : Nat) (Z0 : n0 ≤ h0.size) :
    MetFree l (⟨"java/lang/StringLatin1", "toBytes", "(C)[B"⟩ : MethodName) (head1 (Jvm.Cond.code (⟨"java/lang/StringLatin1", "toBytes", "(C)[B"⟩ : MethodName) jdk_43_method_46_code 1 (some (.array .byte)) :: ws) ({ frames := 0, cells := 1, slots := 1, locals := 0 } : Room)) (fun a U => a = #[(.int p1)] ∧ Z.Warmed39 U.vm ∧ U.heap = h0) (fun _ _ _ _ _ => True) (fun _ U o U' => ∃ v L, o = .returned v ∧ Q12 Z p1 h0 n0 v U'.heap L ∧ FrameEnd U o U' L ({ frames := 0, cells := 1, slots := 1, locals := 0 } : Room).cells ({ frames := 0, cells := 1, slots := 1, locals := 0 } : Room).slots) := by
  refine MetFree.of_bodySF (plainFor_of_name pn_3) hisR ?_
  intro p e s m args below meth c s₁ Bd hml0 hP hK
  obtain ⟨rfl, hZ, hh⟩ := hP
  have hx := Bd.exec
  have hby := Bd.bytes
  have hml : c.maxLocals = 1 := hml0
  have hown : s.vm.findClass "java/lang/StringLatin1" = some m.cls := findClass_of_methodNamed Bd.named
  have hnm := (name_of_methodNamed Bd.named Bd.method).1
  have X0 : Stand p l e ({ frames := 0, cells := 1, slots := 1, locals := 0 } : Room) s m #[(.int p1)] below meth c s₁ [] 0 0 := Stand.of_body Bd
  have e0 : s₁.heap = h0 := by rw [← hh, Bd.state]; rfl
  have N0 := Fr.nil n0
  show Go p e below (PP s below (Q12 Z p1 h0 n0) ({ frames := 0, cells := 1, slots := 1, locals := 0 } : Room).cells ({ frames := 0, cells := 1, slots := 1, locals := 0 } : Room).slots) (s₁.setTop (entryFrame m #[(.int p1)] 1))
  refine go (fun _ k => castTop (ef_rm12 m p1) k) ?_
  show Go p e below _ (s₁.setTop (mkF m 0 #[.val (.int p1)] []))
  refine go (fun _ k => XS.iconst X0.here hx rfl (hb hby d12_0) k) ?_
  show Go p e below _ (s₁.setTop (mkF m 1 #[.val (.int p1)] [(.int (1 : Int32))]))
  obtain ⟨T1, h1, ka1, X1, e1, E1, A1, st1⟩ := newP X0 hx hZ (hw _ (List.mem_of_getElem? (i := 19) rfl)) e0 (g := (mkF m 1 #[.val (.int p1)] [(.int (1 : Int32))])) rfl (hb hby d12_1) rfl (by decide) (cap := 1) (by decide) (by decide) (by decide) (by decide)
  obtain ⟨b1, gz1⟩ : ∃ z, z = h0.size := ⟨_, rfl⟩
  rw [← gz1] at A1 st1
  have sz_b1 : h0.size ≤ b1 := Nat.le_trans (Keep.refl h0 []).1 (Nat.le_of_eq gz1.symm)
  have g_b1 : n0 ≤ b1 := Nat.le_trans Z0 sz_b1
  have V_b1 : Arv Z h1 b1 ka1 .byte (1 : Int32) [(.int (0 : Int32))] (.int (0 : Int32)) := (Arv.new A1 (by decide)).pad (pad_rep [] (.int (0 : Int32)) 1)
  refine go st1 ?_
  show Go p e below _ (T1.setTop (mkF m 3 #[.val (.int p1)] [(.ref b1)]))
  refine go (fun _ k => XS.dup X1.here hx rfl (hb hby d12_3) rfl rfl k) ?_
  show Go p e below _ (T1.setTop (mkF m 4 #[.val (.int p1)] [(.ref b1), (.ref b1)]))
  refine go (fun _ k => XS.iconst X1.here hx rfl (hb hby d12_4) k) ?_
  show Go p e below _ (T1.setTop (mkF m 5 #[.val (.int p1)] [(.int (0 : Int32)), (.ref b1), (.ref b1)]))
  refine go (fun _ k => XS.iloadN X1.here hx rfl (hb hby d12_5) rfl  k) ?_
  show Go p e below _ (T1.setTop (mkF m 6 #[.val (.int p1)] [(.int p1), (.int (0 : Int32)), (.ref b1), (.ref b1)]))
  refine go (fun _ k => XS.i2b X1.here hx rfl (hb hby d12_6) rfl k) ?_
  show Go p e below _ (T1.setTop (mkF m 7 #[.val (.int p1)] [(.int (p1.toInt8.toInt32)), (.int (0 : Int32)), (.ref b1), (.ref b1)]))
  obtain ⟨cl2, Ar2, qa2, Sa2, Ma2, Ha2, Ga2⟩ := id V_b1
  have hin2 : ¬ ((0 : Int32) < 0 ∨ cl2.slots.size ≤ ((0 : Int32)).toNatClampNeg) := inb_of Sa2 ⟨by decide, by decide⟩
  obtain ⟨T2, h2, X2, e2, W2, st2⟩ := stB X1 hx hZ e1 Ar2 (j := (0 : Int32)) hin2 (g := (mkF m 7 #[.val (.int p1)] [(.int (p1.toInt8.toInt32)), (.int (0 : Int32)), (.ref b1), (.ref b1)])) rfl rfl (hb hby d12_7)
  have V2 := Arv.set Ar2 qa2 Sa2 Ma2 Ha2 Ga2 (fits_nar_byte _) W2 0 rfl (Nat.le_of_ble_eq_true rfl)
  have V_b1_2 : Arv Z h2 b1 ka1 .byte (1 : Int32) ([(.int (nar .byte (p1.toInt8.toInt32)))]) (.int (0 : Int32)) := V2
  have N2 := Fr.snoc X2 N0 g_b1
  refine go st2 ?_
  show Go p e below _ (T2.setTop (mkF m 8 #[.val (.int p1)] [(.ref b1)]))
  obtain ⟨fs, hr, hrun, hended, hW, hsame⟩ := X2.leave (v := some (.ref b1)) (fun h => by rw [Bd.returns] at h; cases h)
  have K3 : Keep h0 h2 [] := (((Keep.refl h0 []).ext E1).wr W2 (Or.inr sz_b1))
  refine leaf (T := T2) ⟨fs, retA X2 hx Bd.returns rfl rfl rfl (hb hby d12_8) hr, hrun, hended, hW, hsame⟩ ?_ (by decide) (by decide)
  show Q12 Z p1 h0 n0 _ T2.heap _
  rw [e2]
  exact ⟨b1, ka1, rfl, N2, K3, sz_b1, V_b1_2⟩
theorem d13_0 : decode jdk_42_method_151_code 0 = .ok (.aload_n 0, 1) := by decide +kernel
theorem d13_1 : decode jdk_42_method_151_code 1 = .ok (.invokespecial 1, 3) := by decide +kernel
theorem d13_4 : decode jdk_42_method_151_code 4 = .ok (.aload_n 0, 1) := by decide +kernel
theorem d13_5 : decode jdk_42_method_151_code 5 = .ok (.aload_n 1, 1) := by decide +kernel
theorem d13_6 : decode jdk_42_method_151_code 6 = .ok (.putfield 9, 3) := by decide +kernel
theorem d13_9 : decode jdk_42_method_151_code 9 = .ok (.aload_n 0, 1) := by decide +kernel
theorem d13_10 : decode jdk_42_method_151_code 10 = .ok (.iload_n 2, 1) := by decide +kernel
theorem d13_11 : decode jdk_42_method_151_code 11 = .ok (.putfield 15, 3) := by decide +kernel
theorem d13_14 : decode jdk_42_method_151_code 14 = .ok (.return_, 1) := by decide +kernel
theorem ef_rm13 (m : MethodId) (a1 : Addr) (a2 : Addr) : entryFrame m #[(.ref a1), (.ref a2), (.int (0 : Int32))] 3 = mkF m 0 #[.val (.ref a1), .val (.ref a2), .val (.int (0 : Int32))] [] := by first | (simp [entryFrame, mkF, argsToLocals, Value.category]; done) | rfl
def Q13 (Z : State) (a1 : Addr) (a2 : Addr) (u1 : Value) (u2 : Value) (h0 : Heap) (n0 : Nat) (v : Option Value) (h : Heap) (L : List Loc) : Prop := v = none ∧ Fr n0 L ∧ Keep h0 h [a1] ∧ Exa Z h a1 "java/lang/String" ∧ Fld Z h a1 "java/lang/String" "value" "[B" (.ref a2) ∧ Fld Z h a1 "java/lang/String" "coder" "B" (.int (0 : Int32))
set_option maxRecDepth 65536 in
set_option maxHeartbeats 40000000 in
theorem rm13 (l : Launch) (Z : State) (a0 : Array Value) (hw : ∀ d ∈ tables_1, d.before a0 Z = true) (ws : List Jvm.Cond) (a1 : Addr) (a2 : Addr) (u1 : Value) (u2 : Value) (h0 : Heap) (n0 : Nat) (Z0 : n0 ≤ h0.size) (E_a1 : Exa Z h0 a1 "java/lang/String") (g_a1 : n0 ≤ a1) (F_value_a1 : Fld Z h0 a1 "java/lang/String" "value" "[B" u1) (F_coder_a1 : Fld Z h0 a1 "java/lang/String" "coder" "B" u2) :
    MetFree l (⟨"java/lang/String", "<init>", "([BB)V"⟩ : MethodName) (head1 (Jvm.Cond.code (⟨"java/lang/String", "<init>", "([BB)V"⟩ : MethodName) jdk_42_method_151_code 3 none :: ws) ({ frames := 1, cells := 0, slots := 0, locals := 12 } : Room)) (fun a U => a = #[(.ref a1), (.ref a2), (.int (0 : Int32))] ∧ Z.Warmed39 U.vm ∧ U.heap = h0) (fun _ _ _ _ _ => True) (fun _ U o U' => ∃ v L, o = .returned v ∧ Q13 Z a1 a2 u1 u2 h0 n0 v U'.heap L ∧ FrameEnd U o U' L ({ frames := 1, cells := 0, slots := 0, locals := 12 } : Room).cells ({ frames := 1, cells := 0, slots := 0, locals := 12 } : Room).slots) := by
  refine MetFree.of_bodySF (plainFor_of_name pn_2) hisR ?_
  intro p e s m args below meth c s₁ Bd hml0 hP hK
  obtain ⟨rfl, hZ, hh⟩ := hP
  have hx := Bd.exec
  have hby := Bd.bytes
  have hml : c.maxLocals = 3 := hml0
  have hown : s.vm.findClass "java/lang/String" = some m.cls := findClass_of_methodNamed Bd.named
  have hnm := (name_of_methodNamed Bd.named Bd.method).1
  have X0 : Stand p l e ({ frames := 1, cells := 0, slots := 0, locals := 12 } : Room) s m #[(.ref a1), (.ref a2), (.int (0 : Int32))] below meth c s₁ [] 0 0 := Stand.of_body Bd
  have e0 : s₁.heap = h0 := by rw [← hh, Bd.state]; rfl
  have N0 := Fr.nil n0
  show Go p e below (PP s below (Q13 Z a1 a2 u1 u2 h0 n0) ({ frames := 1, cells := 0, slots := 0, locals := 12 } : Room).cells ({ frames := 1, cells := 0, slots := 0, locals := 12 } : Room).slots) (s₁.setTop (entryFrame m #[(.ref a1), (.ref a2), (.int (0 : Int32))] 3))
  refine go (fun _ k => castTop (ef_rm13 m a1 a2) k) ?_
  show Go p e below _ (s₁.setTop (mkF m 0 #[.val (.ref a1), .val (.ref a2), .val (.int (0 : Int32))] []))
  refine go (fun _ k => XS.aloadN X0.here hx rfl (hb hby d13_0) rfl rfl  k) ?_
  show Go p e below _ (s₁.setTop (mkF m 1 #[.val (.ref a1), .val (.ref a2), .val (.int (0 : Int32))] [(.ref a1)]))
  obtain ⟨T1, X1, e1, st1⟩ := initO X0 hx hZ hown (hw _ (List.mem_of_getElem? (i := 11) rfl)) (hw _ (List.mem_of_getElem? (i := 12) rfl)) (hw _ (List.mem_of_getElem? (i := 13) rfl)) e0 (g := (mkF m 1 #[.val (.ref a1), .val (.ref a2), .val (.int (0 : Int32))] [(.ref a1)])) rfl (by rw [hml]; rfl) rfl (hb hby d13_1) (by decide) (W := 0) (by show 2 * 0 + _ ≤ _; exact Nat.le_of_eq rfl) (by decide)
  refine go st1 ?_
  show Go p e below _ (T1.setTop (mkF m 4 #[.val (.ref a1), .val (.ref a2), .val (.int (0 : Int32))] []))
  refine go (fun _ k => XS.aloadN X1.here hx rfl (hb hby d13_4) rfl rfl  k) ?_
  show Go p e below _ (T1.setTop (mkF m 5 #[.val (.ref a1), .val (.ref a2), .val (.int (0 : Int32))] [(.ref a1)]))
  refine go (fun _ k => XS.aloadN X1.here hx rfl (hb hby d13_5) rfl rfl  k) ?_
  show Go p e below _ (T1.setTop (mkF m 6 #[.val (.ref a1), .val (.ref a2), .val (.int (0 : Int32))] [(.ref a2), (.ref a1)]))
  obtain ⟨T2, h2, X2, e2, W2, st2⟩ := putF X1 hx hZ hown (host := "") (Or.inl (hw _ (List.mem_of_getElem? (i := 28) rfl))) Via.refl e1 F_value_a1 E_a1 (Or.inr ⟨(hw _ (List.mem_of_getElem? (i := 29) rfl)), rfl, hnm⟩) (hw _ (List.mem_of_getElem? (i := 2) rfl)) (ty := (.array .byte)) (by decide) rfl rfl (g := (mkF m 6 #[.val (.ref a1), .val (.ref a2), .val (.int (0 : Int32))] [(.ref a2), (.ref a1)])) rfl rfl (hb hby d13_6)
  have Fw2 := F_value_a1.same W2
  have N2 := Fr.snoc X2 N0 g_a1
  refine go st2 ?_
  show Go p e below _ (T2.setTop (mkF m 9 #[.val (.ref a1), .val (.ref a2), .val (.int (0 : Int32))] []))
  refine go (fun _ k => XS.aloadN X2.here hx rfl (hb hby d13_9) rfl rfl  k) ?_
  show Go p e below _ (T2.setTop (mkF m 10 #[.val (.ref a1), .val (.ref a2), .val (.int (0 : Int32))] [(.ref a1)]))
  refine go (fun _ k => XS.iloadN X2.here hx rfl (hb hby d13_10) rfl  k) ?_
  show Go p e below _ (T2.setTop (mkF m 11 #[.val (.ref a1), .val (.ref a2), .val (.int (0 : Int32))] [(.int (0 : Int32)), (.ref a1)]))
  have f3 := (F_coder_a1.other W2 (Or.inr (slot_ne (Or.inr (hw _ (List.mem_of_getElem? (i := 27) rfl))) (Or.inr (hw _ (List.mem_of_getElem? (i := 29) rfl))) (by decide) (t := .byte) (t' := (.array .byte)) (by decide) (by decide))))
  obtain ⟨T4, h4, X4, e4, W4, st4⟩ := putFN X2 hx hZ hown (hw _ (List.mem_of_getElem? (i := 26) rfl)) Via.refl e2 f3 (E_a1.wr W2) (Or.inr ⟨(hw _ (List.mem_of_getElem? (i := 27) rfl)), rfl, hnm⟩) (hw _ (List.mem_of_getElem? (i := 2) rfl)) (ty := .byte) (v' := (.int (0 : Int32))) (by decide) rfl (by decide) (g := (mkF m 11 #[.val (.ref a1), .val (.ref a2), .val (.int (0 : Int32))] [(.int (0 : Int32)), (.ref a1)])) rfl rfl (hb hby d13_11)
  have Fw4 := f3.same W4
  have N4 := Fr.snoc X4 N2 g_a1
  refine go st4 ?_
  show Go p e below _ (T4.setTop (mkF m 14 #[.val (.ref a1), .val (.ref a2), .val (.int (0 : Int32))] []))
  obtain ⟨fs, hr, hrun, hended, hW, hsame⟩ := X4.leave (v := none) (fun _ => rfl)
  have K5 : Keep h0 h4 [a1] := (((Keep.refl h0 [a1]).wr W2 (Or.inl (List.mem_of_getElem? (i := 0) rfl))).wr W4 (Or.inl (List.mem_of_getElem? (i := 0) rfl)))
  have f6 := (Fw2.other W4 (Or.inr (slot_ne (Or.inr (hw _ (List.mem_of_getElem? (i := 29) rfl))) (Or.inr (hw _ (List.mem_of_getElem? (i := 27) rfl))) (by decide) (t := (.array .byte)) (t' := .byte) (by decide) (by decide))))
  refine leaf (T := T4) ⟨fs, X4.returnOut hx Bd.returns (hb hby d13_14) hr, hrun, hended, hW, hsame⟩ ?_ (by decide) (by decide)
  show Q13 Z a1 a2 u1 u2 h0 n0 _ T4.heap _
  rw [e4]
  exact ⟨rfl, N4, K5, ((E_a1.wr W2).wr W4), f6, Fw4⟩
theorem pd_4 : parseMethodDescriptor "(C)Z" = some ⟨[.char], some .boolean⟩ := by decide +kernel
theorem pd_5 : parseMethodDescriptor "(C)[B" = some ⟨[.char], some (.array .byte)⟩ := by decide +kernel
theorem pd_6 : parseMethodDescriptor "([BB)V" = some ⟨[(.array .byte), .byte], none⟩ := by decide +kernel
theorem d10_0 : decode jdk_42_method_139_code 0 = .ok (.getstatic 38, 3) := by decide +kernel
theorem d10_3 : decode jdk_42_method_139_code 3 = .ok (.ifCond .eq 23, 3) := by decide +kernel
theorem d10_6 : decode jdk_42_method_139_code 6 = .ok (.iload_n 0, 1) := by decide +kernel
theorem d10_7 : decode jdk_42_method_139_code 7 = .ok (.invokestatic 1015, 3) := by decide +kernel
theorem d10_10 : decode jdk_42_method_139_code 10 = .ok (.ifCond .eq 16, 3) := by decide +kernel
theorem d10_13 : decode jdk_42_method_139_code 13 = .ok (.new 10, 3) := by decide +kernel
theorem d10_16 : decode jdk_42_method_139_code 16 = .ok (.dup, 1) := by decide +kernel
theorem d10_17 : decode jdk_42_method_139_code 17 = .ok (.iload_n 0, 1) := by decide +kernel
theorem d10_18 : decode jdk_42_method_139_code 18 = .ok (.invokestatic 1018, 3) := by decide +kernel
theorem d10_21 : decode jdk_42_method_139_code 21 = .ok (.iconst 0, 1) := by decide +kernel
theorem d10_22 : decode jdk_42_method_139_code 22 = .ok (.invokespecial 209, 3) := by decide +kernel
theorem d10_25 : decode jdk_42_method_139_code 25 = .ok (.areturn, 1) := by decide +kernel
theorem ef_rm10 (m : MethodId) (p1 : Int32) : entryFrame m #[(.int p1)] 1 = mkF m 0 #[.val (.int p1)] [] := by first | (simp [entryFrame, mkF, argsToLocals, Value.category]; done) | rfl
def Q10 (Z : State) (p1 : Int32) (cs : Int32) (h0 : Heap) (n0 : Nat) (v : Option Value) (h : Heap) (L : List Loc) : Prop := ∃ b : Addr, ∃ t : Addr, ∃ kt : ClassId, v = some (.ref b) ∧ Fr n0 L ∧ Keep h0 h [] ∧ h0.size ≤ b ∧ h0.size ≤ t ∧ Exa Z h b "java/lang/String" ∧ Fld Z h b "java/lang/String" "value" "[B" (.ref t) ∧ Fld Z h b "java/lang/String" "coder" "B" (.int (0 : Int32)) ∧ Arv Z h t kt .byte (1 : Int32) ([(.int (nar .byte (p1.toInt8.toInt32)))]) (.int (0 : Int32))
set_option maxRecDepth 65536 in
set_option maxHeartbeats 40000000 in
theorem rm10 (l : Launch) (Z : State) (a0 : Array Value) (hw : ∀ d ∈ tables_1, d.before a0 Z = true) (ws : List Jvm.Cond) (p1 : Int32) (cs : Int32) (h0 : Heap) (n0 : Nat) (Z0 : n0 ≤ h0.size) (O0 : Old Z n0 h0) (S_COMPACT_STRINGS : Sta Z Z.heap "java/lang/String" "COMPACT_STRINGS" "Z" (.int cs)) (hcs : ¬ (cs = (0 : Int32))) (hl : ¬ ((255 : Int32) < p1)) :
    MetFree l (⟨"java/lang/String", "valueOf", "(C)Ljava/lang/String;"⟩ : MethodName) (head1 (Jvm.Cond.code (⟨"java/lang/String", "valueOf", "(C)Ljava/lang/String;"⟩ : MethodName) jdk_42_method_139_code 1 (some (.object "java/lang/String")) :: ws) ({ frames := 2, cells := 2, slots := 5, locals := 27 } : Room)) (fun a U => a = #[(.int p1)] ∧ Z.Warmed39 U.vm ∧ U.heap = h0) (fun _ _ _ _ _ => True) (fun _ U o U' => ∃ v L, o = .returned v ∧ Q10 Z p1 cs h0 n0 v U'.heap L ∧ FrameEnd U o U' L ({ frames := 2, cells := 2, slots := 5, locals := 27 } : Room).cells ({ frames := 2, cells := 2, slots := 5, locals := 27 } : Room).slots) := by
  refine MetFree.of_bodySF (plainFor_of_name pn_2) hisR ?_
  intro p e s m args below meth c s₁ Bd hml0 hP hK
  obtain ⟨rfl, hZ, hh⟩ := hP
  have hx := Bd.exec
  have hby := Bd.bytes
  have hml : c.maxLocals = 1 := hml0
  have hown : s.vm.findClass "java/lang/String" = some m.cls := findClass_of_methodNamed Bd.named
  have hnm := (name_of_methodNamed Bd.named Bd.method).1
  have X0 : Stand p l e ({ frames := 2, cells := 2, slots := 5, locals := 27 } : Room) s m #[(.int p1)] below meth c s₁ [] 0 0 := Stand.of_body Bd
  have e0 : s₁.heap = h0 := by rw [← hh, Bd.state]; rfl
  have N0 := Fr.nil n0
  show Go p e below (PP s below (Q10 Z p1 cs h0 n0) ({ frames := 2, cells := 2, slots := 5, locals := 27 } : Room).cells ({ frames := 2, cells := 2, slots := 5, locals := 27 } : Room).slots) (s₁.setTop (entryFrame m #[(.int p1)] 1))
  refine go (fun _ k => castTop (ef_rm10 m p1) k) ?_
  show Go p e below _ (s₁.setTop (mkF m 0 #[.val (.int p1)] []))
  obtain ⟨T1, X1, e1, st1⟩ := getS2 X0 hx hZ hown (host := "") (Or.inl (hw _ (List.mem_of_getElem? (i := 14) rfl))) Via.refl e0 (S_COMPACT_STRINGS.ext O0.2) (g := (mkF m 0 #[.val (.int p1)] [])) rfl (hb hby d10_0)
  refine go st1 ?_
  show Go p e below _ (T1.setTop (mkF m 3 #[.val (.int p1)] [(.int cs)]))
  have hc3_1 : ¬ (cs = (0 : Int32)) := hcs
  refine go (fun _ k => XS.ifNo X1.here hx rfl (hb hby d10_3) rfl ((if0 _ _).trans (feq hc3_1).1) k) ?_
  show Go p e below _ (T1.setTop (mkF m 6 #[.val (.int p1)] []))
  refine go (fun _ k => XS.iloadN X1.here hx rfl (hb hby d10_6) rfl  k) ?_
  show Go p e below _ (T1.setTop (mkF m 7 #[.val (.int p1)] [(.int p1)]))
  obtain ⟨_, _, ⟨T2, Lb2, cn2, sn2⟩, -, X2, ⟨Lc2, hQ2, lq2, yq2, zq2⟩, st2⟩ := Jvm.LawKit.callS X1 hx (y := (⟨"java/lang/StringLatin1", "canEncode", "(C)Z"⟩ : MethodName)) hown (mvT hZ (hw _ (List.mem_of_getElem? (i := 59) rfl))) (mvT hZ (hw _ (List.mem_of_getElem? (i := 60) rfl))) (mvT hZ (hw _ (List.mem_of_getElem? (i := 61) rfl))) (mvT hZ (hw _ (List.mem_of_getElem? (i := 62) rfl))) (by decide) (backOf (W := 0) (rm11 l Z a0 hw [] p1 h0 n0 (Nat.le_trans Z0 (Keep.refl h0 []).1) (by assumption : ¬ ((255 : Int32) < p1))) hZ (hw _ (List.mem_of_getElem? (i := 62) rfl)) (hw _ (List.mem_of_getElem? (i := 61) rfl)) (by decide) (by decide)) (g := (mkF m 7 #[.val (.int p1)] [(.int p1)])) rfl (by rw [hml]; rfl) (argsL := [(.int p1)]) (rest := []) (lenOf pd_4 rfl) rfl (by show 2 * 0 + _ ≤ _; exact Nat.le_of_eq rfl) (hb hby d10_7) (fun _ _ => ⟨rfl, e1, (by decide : 0 + 0 ≤ _), (by decide : 0 + 0 ≤ _)⟩)
  dsimp only [Pt.U, Pt.locs, Pt.cells, Pt.slots] at X2 lq2 yq2 zq2 st2 hQ2
  subst lq2 yq2 zq2
  obtain ⟨rfl, N2q, e2⟩ := hQ2
  have N2 := Fr.app N0 N2q
  skip
  refine go st2 ?_
  show Go p e below _ (T2.setTop (mkF m 10 #[.val (.int p1)] [(.int (1 : Int32))]))
  refine go (fun _ k => XS.ifNo X2.here hx rfl (hb hby d10_10) rfl ((if0 _ _).trans (feq (by decide : ¬ ((1 : Int32) = (0 : Int32)))).1) k) ?_
  show Go p e below _ (T2.setTop (mkF m 13 #[.val (.int p1)] []))
  obtain ⟨T3, h3, X3, e3, E3, A3, D3, -, st3⟩ := newO X2 hx hZ hown (hw _ (List.mem_of_getElem? (i := 63) rfl)) (hw _ (List.mem_of_getElem? (i := 2) rfl)) (hw _ (List.mem_of_getElem? (i := 3) rfl)) e2 (g := (mkF m 13 #[.val (.int p1)] [])) rfl (hb hby d10_13) (by decide) (by decide)
  obtain ⟨b3, gz3⟩ : ∃ z, z = h0.size := ⟨_, rfl⟩
  rw [← gz3] at A3 D3 st3
  have sz_b3 : h0.size ≤ b3 := Nat.le_trans (Keep.refl h0 []).1 (Nat.le_of_eq gz3.symm)
  have g_b3 : n0 ≤ b3 := Nat.le_trans Z0 sz_b3
  have F_coder_b3 : Fld Z h3 b3 "java/lang/String" "coder" "B" (.int (0 : Int32)) := D3 (Or.inr (hw _ (List.mem_of_getElem? (i := 27) rfl))) (ty := .byte) (by decide)
  have F_value_b3 : Fld Z h3 b3 "java/lang/String" "value" "[B" .null := D3 (Or.inr (hw _ (List.mem_of_getElem? (i := 29) rfl))) (ty := (.array .byte)) (by decide)
  refine go st3 ?_
  show Go p e below _ (T3.setTop (mkF m 16 #[.val (.int p1)] [(.ref b3)]))
  refine go (fun _ k => XS.dup X3.here hx rfl (hb hby d10_16) rfl rfl k) ?_
  show Go p e below _ (T3.setTop (mkF m 17 #[.val (.int p1)] [(.ref b3), (.ref b3)]))
  refine go (fun _ k => XS.iloadN X3.here hx rfl (hb hby d10_17) rfl  k) ?_
  show Go p e below _ (T3.setTop (mkF m 18 #[.val (.int p1)] [(.int p1), (.ref b3), (.ref b3)]))
  have K5 : Keep h0 h3 [] := ((Keep.refl h0 []).ext E3)
  obtain ⟨_, _, ⟨T4, Lb4, cn4, sn4⟩, -, X4, ⟨Lc4, hQ4, lq4, yq4, zq4⟩, st4⟩ := Jvm.LawKit.callS X3 hx (y := (⟨"java/lang/StringLatin1", "toBytes", "(C)[B"⟩ : MethodName)) hown (mvT hZ (hw _ (List.mem_of_getElem? (i := 64) rfl))) (mvT hZ (hw _ (List.mem_of_getElem? (i := 65) rfl))) (mvT hZ (hw _ (List.mem_of_getElem? (i := 61) rfl))) (mvT hZ (hw _ (List.mem_of_getElem? (i := 66) rfl))) (by decide) (backOf (W := 2) (rm12 l Z a0 hw [] p1 h3 n0 (Nat.le_trans Z0 K5.1) ) hZ (hw _ (List.mem_of_getElem? (i := 66) rfl)) (hw _ (List.mem_of_getElem? (i := 61) rfl)) (by decide) (by decide)) (g := (mkF m 18 #[.val (.int p1)] [(.int p1), (.ref b3), (.ref b3)])) rfl (by rw [hml]; rfl) (argsL := [(.int p1)]) (rest := [(.ref b3), (.ref b3)]) (lenOf pd_5 rfl) rfl (by show 2 * 0 + _ ≤ _; exact Nat.le_of_eq rfl) (hb hby d10_18) (fun _ _ => ⟨rfl, e3, (by decide : 1 + 1 ≤ _), (by decide : 4 + 1 ≤ _)⟩)
  dsimp only [Pt.U, Pt.locs, Pt.cells, Pt.slots] at X4 lq4 yq4 zq4 st4 hQ4
  subst lq4 yq4 zq4
  obtain ⟨b_4, kb_4, rfl, N4q, r4_0, r4_1, r4_2⟩ := hQ4
  have N4 := Fr.app N2 N4q
  have sz_b_4 : h0.size ≤ b_4 := Nat.le_trans K5.1 r4_1
  have g_b_4 : n0 ≤ b_4 := Nat.le_trans Z0 sz_b_4
  skip
  refine go st4 ?_
  show Go p e below _ (T4.setTop (mkF m 21 #[.val (.int p1)] [(.ref b_4), (.ref b3), (.ref b3)]))
  refine go (fun _ k => XS.iconst X4.here hx rfl (hb hby d10_21) k) ?_
  show Go p e below _ (T4.setTop (mkF m 22 #[.val (.int p1)] [(.int (0 : Int32)), (.ref b_4), (.ref b3), (.ref b3)]))
  have K7 : Keep h0 T4.heap [] := (K5.trans r4_0 all0)
  obtain ⟨_, _, ⟨T6, Lb6, cn6, sn6⟩, -, X6, ⟨Lc6, hQ6, lq6, yq6, zq6⟩, st6⟩ := X4.specialBack hx (y := (⟨"java/lang/String", "<init>", "([BB)V"⟩ : MethodName)) rfl hown (mvT hZ (hw _ (List.mem_of_getElem? (i := 67) rfl))) (mvT hZ (hw _ (List.mem_of_getElem? (i := 68) rfl))) (mvT hZ (hw _ (List.mem_of_getElem? (i := 69) rfl))) (by decide) (backOf (W := 1) (rm13 l Z a0 hw [] b3 b_4 .null (.int (0 : Int32)) T4.heap n0 (Nat.le_trans Z0 K7.1) (A3.keep r4_0) g_b3 (F_value_b3.keep r4_0 nin0) (F_coder_b3.keep r4_0 nin0)) hZ (hw _ (List.mem_of_getElem? (i := 69) rfl)) (hw _ (List.mem_of_getElem? (i := 3) rfl)) (by decide) (by decide)) (g := (mkF m 22 #[.val (.int p1)] [(.int (0 : Int32)), (.ref b_4), (.ref b3), (.ref b3)])) rfl (by rw [hml]; rfl) (Steps.refl _) (a := b3) (argsL := [(.ref b_4), (.int (0 : Int32))]) (rest := [(.ref b3)]) (lenOf pd_6 rfl) rfl (by show 2 * 0 + _ ≤ _; exact Nat.le_of_eq rfl) (hb hby d10_22) (fun _ _ => ⟨rfl, rfl, (by decide : 2 + 0 ≤ _), (by decide : 5 + 0 ≤ _)⟩)
  dsimp only [Pt.U, Pt.locs, Pt.cells, Pt.slots] at X6 lq6 yq6 zq6 st6 hQ6
  subst lq6 yq6 zq6
  obtain ⟨rfl, N6q, r6_0, r6_1, r6_2, r6_3⟩ := hQ6
  have N6 := Fr.app N4 N6q
  refine go (fun _ k => st6.trans k) ?_
  show Go p e below _ (T6.setTop (mkF m 25 #[.val (.int p1)] [(.ref b3)]))
  obtain ⟨fs, hr, hrun, hended, hW, hsame⟩ := X6.leave (v := some (.ref b3)) (fun h => by rw [Bd.returns] at h; cases h)
  have K8 : Keep h0 T6.heap [] := (K7.trans r6_0 (allS (Or.inr sz_b3) all0))
  have f9 := (r4_2.keep r6_0 (ninS (Ne.symm (Nat.ne_of_lt (Nat.lt_of_lt_of_le A3.lt r4_1))) nin0))
  refine leaf (T := T6) ⟨fs, retA X6 hx Bd.returns rfl rfl rfl (hb hby d10_25) hr, hrun, hended, hW, hsame⟩ ?_ (by decide) (by decide)
  show Q10 Z p1 cs h0 n0 _ T6.heap _
  exact ⟨b3, b_4, kb_4, rfl, N6, K8, sz_b3, sz_b_4, r6_1, r6_2, r6_3, f9⟩
theorem pd_7 : parseMethodDescriptor "()V" = some ⟨[], none⟩ := by decide +kernel
theorem pn_4 : plainName "com/example/tidemark/tidemark/Option" = true := by first | (simp [plainName, overriddenIn]; done) | decide +kernel
theorem d7_0 : decode prog_25_method_1_code 0 = .ok (.aload_n 0, 1) := by decide +kernel
theorem d7_1 : decode prog_25_method_1_code 1 = .ok (.invokespecial 1, 3) := by decide +kernel
theorem d7_4 : decode prog_25_method_1_code 4 = .ok (.aload_n 0, 1) := by decide +kernel
theorem d7_5 : decode prog_25_method_1_code 5 = .ok (.aload_n 1, 1) := by decide +kernel
theorem d7_6 : decode prog_25_method_1_code 6 = .ok (.putfield 7, 3) := by decide +kernel
theorem d7_9 : decode prog_25_method_1_code 9 = .ok (.aload_n 0, 1) := by decide +kernel
theorem d7_10 : decode prog_25_method_1_code 10 = .ok (.aload_n 2, 1) := by decide +kernel
theorem d7_11 : decode prog_25_method_1_code 11 = .ok (.putfield 13, 3) := by decide +kernel
theorem d7_14 : decode prog_25_method_1_code 14 = .ok (.aload_n 0, 1) := by decide +kernel
theorem d7_15 : decode prog_25_method_1_code 15 = .ok (.iload_n 3, 1) := by decide +kernel
theorem d7_16 : decode prog_25_method_1_code 16 = .ok (.putfield 16, 3) := by decide +kernel
theorem d7_19 : decode prog_25_method_1_code 19 = .ok (.return_, 1) := by decide +kernel
theorem ef_rm7 (m : MethodId) (a1 : Addr) (v2 : Value) (hv2 : v2.isRef = true) (v3 : Value) (hv3 : v3.isRef = true) (p4 : Int32) : entryFrame m #[(.ref a1), v2, v3, (.int p4)] 4 = mkF m 0 #[.val (.ref a1), .val v2, .val v3, .val (.int p4)] [] := by rcases ref_cases hv2 with rfl | ⟨_, rfl⟩ <;> rcases ref_cases hv3 with rfl | ⟨_, rfl⟩ <;> first | (simp [entryFrame, mkF, argsToLocals, Value.category]; done) | rfl
def Q7 (Z : State) (a1 : Addr) (v2 : Value) (v3 : Value) (p4 : Int32) (u1 : Value) (u2 : Value) (u3 : Value) (h0 : Heap) (n0 : Nat) (v : Option Value) (h : Heap) (L : List Loc) : Prop := v = none ∧ Fr n0 L ∧ Keep h0 h [a1] ∧ Exa Z h a1 "com/example/tidemark/tidemark/Option" ∧ Fld Z h a1 "com/example/tidemark/tidemark/Option" "value" "Ljava/lang/String;" v3
set_option maxRecDepth 65536 in
set_option maxHeartbeats 40000000 in
theorem rm7 (l : Launch) (Z : State) (a0 : Array Value) (hw : ∀ d ∈ tables_1, d.before a0 Z = true) (ws : List Jvm.Cond) (a1 : Addr) (v2 : Value) (v3 : Value) (p4 : Int32) (u1 : Value) (u2 : Value) (u3 : Value) (h0 : Heap) (n0 : Nat) (Z0 : n0 ≤ h0.size) (hv2 : v2.isRef = true) (hv3 : v3.isRef = true) (E_a1 : Exa Z h0 a1 "com/example/tidemark/tidemark/Option") (g_a1 : n0 ≤ a1) (F_name_a1 : Fld Z h0 a1 "com/example/tidemark/tidemark/Option" "name" "Ljava/lang/String;" u1) (F_value_a1 : Fld Z h0 a1 "com/example/tidemark/tidemark/Option" "value" "Ljava/lang/String;" u2) (F_required_a1 : Fld Z h0 a1 "com/example/tidemark/tidemark/Option" "required" "Z" u3) :
    MetFree l (⟨"com/example/tidemark/tidemark/Option", "<init>", "(Ljava/lang/String;Ljava/lang/String;Z)V"⟩ : MethodName) (head1 (Jvm.Cond.code (⟨"com/example/tidemark/tidemark/Option", "<init>", "(Ljava/lang/String;Ljava/lang/String;Z)V"⟩ : MethodName) prog_25_method_1_code 4 none :: ws) ({ frames := 2, cells := 0, slots := 0, locals := 24 } : Room)) (fun a U => a = #[(.ref a1), v2, v3, (.int p4)] ∧ Z.Warmed39 U.vm ∧ U.heap = h0) (fun _ _ _ _ _ => True) (fun _ U o U' => ∃ v L, o = .returned v ∧ Q7 Z a1 v2 v3 p4 u1 u2 u3 h0 n0 v U'.heap L ∧ FrameEnd U o U' L ({ frames := 2, cells := 0, slots := 0, locals := 24 } : Room).cells ({ frames := 2, cells := 0, slots := 0, locals := 24 } : Room).slots) := by
  refine MetFree.of_bodySF (plainFor_of_name pn_4) hisR ?_
  intro p e s m args below meth c s₁ Bd hml0 hP hK
  obtain ⟨rfl, hZ, hh⟩ := hP
  have hx := Bd.exec
  have hby := Bd.bytes
  have hml : c.maxLocals = 4 := hml0
  have hown : s.vm.findClass "com/example/tidemark/tidemark/Option" = some m.cls := findClass_of_methodNamed Bd.named
  have hnm := (name_of_methodNamed Bd.named Bd.method).1
  have X0 : Stand p l e ({ frames := 2, cells := 0, slots := 0, locals := 24 } : Room) s m #[(.ref a1), v2, v3, (.int p4)] below meth c s₁ [] 0 0 := Stand.of_body Bd
  have e0 : s₁.heap = h0 := by rw [← hh, Bd.state]; rfl
  have N0 := Fr.nil n0
  show Go p e below (PP s below (Q7 Z a1 v2 v3 p4 u1 u2 u3 h0 n0) ({ frames := 2, cells := 0, slots := 0, locals := 24 } : Room).cells ({ frames := 2, cells := 0, slots := 0, locals := 24 } : Room).slots) (s₁.setTop (entryFrame m #[(.ref a1), v2, v3, (.int p4)] 4))
  refine go (fun _ k => castTop (ef_rm7 m a1 v2 hv2 v3 hv3 p4) k) ?_
  show Go p e below _ (s₁.setTop (mkF m 0 #[.val (.ref a1), .val v2, .val v3, .val (.int p4)] []))
  refine go (fun _ k => XS.aloadN X0.here hx rfl (hb hby d7_0) rfl rfl  k) ?_
  show Go p e below _ (s₁.setTop (mkF m 1 #[.val (.ref a1), .val v2, .val v3, .val (.int p4)] [(.ref a1)]))
  obtain ⟨_, _, ⟨T1, Lb1, cn1, sn1⟩, -, X1, ⟨Lc1, hQ1, lq1, yq1, zq1⟩, st1⟩ := X0.specialBack hx (y := (⟨"java/lang/Record", "<init>", "()V"⟩ : MethodName)) rfl hown (mvT hZ (hw _ (List.mem_of_getElem? (i := 36) rfl))) (mvT hZ (hw _ (List.mem_of_getElem? (i := 37) rfl))) (mvT hZ (hw _ (List.mem_of_getElem? (i := 40) rfl))) (by decide) (backOf (W := 0) (rm8 l Z a0 hw [] a1 h0 n0 (Nat.le_trans Z0 (Keep.refl h0 [a1]).1) ) hZ (hw _ (List.mem_of_getElem? (i := 40) rfl)) (hw _ (List.mem_of_getElem? (i := 39) rfl)) (by decide) (by decide)) (g := (mkF m 1 #[.val (.ref a1), .val v2, .val v3, .val (.int p4)] [(.ref a1)])) rfl (by rw [hml]; rfl) (Steps.refl _) (a := a1) (argsL := []) (rest := []) (lenOf pd_7 rfl) rfl (by show 2 * 0 + _ ≤ _; exact Nat.le_of_eq rfl) (hb hby d7_1) (fun _ _ => ⟨rfl, e0, (by decide : 0 + 0 ≤ _), (by decide : 0 + 0 ≤ _)⟩)
  dsimp only [Pt.U, Pt.locs, Pt.cells, Pt.slots] at X1 lq1 yq1 zq1 st1 hQ1
  subst lq1 yq1 zq1
  obtain ⟨rfl, N1q, e1⟩ := hQ1
  have N1 := Fr.app N0 N1q
  refine go (fun _ k => st1.trans k) ?_
  show Go p e below _ (T1.setTop (mkF m 4 #[.val (.ref a1), .val v2, .val v3, .val (.int p4)] []))
  refine go (fun _ k => XS.aloadN X1.here hx rfl (hb hby d7_4) rfl rfl  k) ?_
  show Go p e below _ (T1.setTop (mkF m 5 #[.val (.ref a1), .val v2, .val v3, .val (.int p4)] [(.ref a1)]))
  refine go (fun _ k => XS.aloadN X1.here hx rfl (hb hby d7_5) rfl hv2  k) ?_
  show Go p e below _ (T1.setTop (mkF m 6 #[.val (.ref a1), .val v2, .val v3, .val (.int p4)] [v2, (.ref a1)]))
  obtain ⟨T2, h2, X2, e2, W2, st2⟩ := putF X1 hx hZ hown (host := "") (Or.inl (hw _ (List.mem_of_getElem? (i := 42) rfl))) Via.refl e1 F_name_a1 E_a1 (Or.inr ⟨(hw _ (List.mem_of_getElem? (i := 43) rfl)), rfl, hnm⟩) (hw _ (List.mem_of_getElem? (i := 31) rfl)) (ty := (.object "java/lang/String")) (by decide) (own_nar hv2 rfl) (own_fit hv2 rfl) (g := (mkF m 6 #[.val (.ref a1), .val v2, .val v3, .val (.int p4)] [v2, (.ref a1)])) rfl rfl (hb hby d7_6)
  have Fw2 := F_name_a1.same W2
  have N2 := Fr.snoc X2 N1 g_a1
  refine go st2 ?_
  show Go p e below _ (T2.setTop (mkF m 9 #[.val (.ref a1), .val v2, .val v3, .val (.int p4)] []))
  refine go (fun _ k => XS.aloadN X2.here hx rfl (hb hby d7_9) rfl rfl  k) ?_
  show Go p e below _ (T2.setTop (mkF m 10 #[.val (.ref a1), .val v2, .val v3, .val (.int p4)] [(.ref a1)]))
  refine go (fun _ k => XS.aloadN X2.here hx rfl (hb hby d7_10) rfl hv3  k) ?_
  show Go p e below _ (T2.setTop (mkF m 11 #[.val (.ref a1), .val v2, .val v3, .val (.int p4)] [v3, (.ref a1)]))
  have f3 := (F_value_a1.other W2 (Or.inr (slot_ne (Or.inr (hw _ (List.mem_of_getElem? (i := 45) rfl))) (Or.inr (hw _ (List.mem_of_getElem? (i := 43) rfl))) (by decide) (t := (.object "java/lang/String")) (t' := (.object "java/lang/String")) (by decide) (by decide))))
  obtain ⟨T4, h4, X4, e4, W4, st4⟩ := putF X2 hx hZ hown (host := "") (Or.inl (hw _ (List.mem_of_getElem? (i := 44) rfl))) Via.refl e2 f3 (E_a1.wr W2) (Or.inr ⟨(hw _ (List.mem_of_getElem? (i := 45) rfl)), rfl, hnm⟩) (hw _ (List.mem_of_getElem? (i := 31) rfl)) (ty := (.object "java/lang/String")) (by decide) (own_nar hv3 rfl) (own_fit hv3 rfl) (g := (mkF m 11 #[.val (.ref a1), .val v2, .val v3, .val (.int p4)] [v3, (.ref a1)])) rfl rfl (hb hby d7_11)
  have Fw4 := f3.same W4
  have N4 := Fr.snoc X4 N2 g_a1
  refine go st4 ?_
  show Go p e below _ (T4.setTop (mkF m 14 #[.val (.ref a1), .val v2, .val v3, .val (.int p4)] []))
  refine go (fun _ k => XS.aloadN X4.here hx rfl (hb hby d7_14) rfl rfl  k) ?_
  show Go p e below _ (T4.setTop (mkF m 15 #[.val (.ref a1), .val v2, .val v3, .val (.int p4)] [(.ref a1)]))
  refine go (fun _ k => XS.iloadN X4.here hx rfl (hb hby d7_15) rfl  k) ?_
  show Go p e below _ (T4.setTop (mkF m 16 #[.val (.ref a1), .val v2, .val v3, .val (.int p4)] [(.int p4), (.ref a1)]))
  have f5 := ((F_required_a1.other W2 (Or.inr (slot_ne (Or.inr (hw _ (List.mem_of_getElem? (i := 47) rfl))) (Or.inr (hw _ (List.mem_of_getElem? (i := 43) rfl))) (by decide) (t := .boolean) (t' := (.object "java/lang/String")) (by decide) (by decide)))).other W4 (Or.inr (slot_ne (Or.inr (hw _ (List.mem_of_getElem? (i := 47) rfl))) (Or.inr (hw _ (List.mem_of_getElem? (i := 45) rfl))) (by decide) (t := .boolean) (t' := (.object "java/lang/String")) (by decide) (by decide))))
  obtain ⟨T6, h6, X6, e6, W6, st6⟩ := putFN X4 hx hZ hown (hw _ (List.mem_of_getElem? (i := 46) rfl)) Via.refl e4 f5 ((E_a1.wr W2).wr W4) (Or.inr ⟨(hw _ (List.mem_of_getElem? (i := 47) rfl)), rfl, hnm⟩) (hw _ (List.mem_of_getElem? (i := 31) rfl)) (ty := .boolean) (v' := (.int (nar .boolean p4))) (by decide) rfl (fits_nar_bool _) (g := (mkF m 16 #[.val (.ref a1), .val v2, .val v3, .val (.int p4)] [(.int p4), (.ref a1)])) rfl rfl (hb hby d7_16)
  have Fw6 := f5.same W6
  have N6 := Fr.snoc X6 N4 g_a1
  refine go st6 ?_
  show Go p e below _ (T6.setTop (mkF m 19 #[.val (.ref a1), .val v2, .val v3, .val (.int p4)] []))
  obtain ⟨fs, hr, hrun, hended, hW, hsame⟩ := X6.leave (v := none) (fun _ => rfl)
  have K7 : Keep h0 h6 [a1] := ((((Keep.refl h0 [a1]).wr W2 (Or.inl (List.mem_of_getElem? (i := 0) rfl))).wr W4 (Or.inl (List.mem_of_getElem? (i := 0) rfl))).wr W6 (Or.inl (List.mem_of_getElem? (i := 0) rfl)))
  have f8 := (Fw4.other W6 (Or.inr (slot_ne (Or.inr (hw _ (List.mem_of_getElem? (i := 45) rfl))) (Or.inr (hw _ (List.mem_of_getElem? (i := 47) rfl))) (by decide) (t := (.object "java/lang/String")) (t' := .boolean) (by decide) (by decide))))
  refine leaf (T := T6) ⟨fs, X6.returnOut hx Bd.returns (hb hby d7_19) hr, hrun, hended, hW, hsame⟩ ?_ (by decide) (by decide)
  show Q7 Z a1 v2 v3 p4 u1 u2 u3 h0 n0 _ T6.heap _
  rw [e6]
  exact ⟨rfl, N6, K7, (((E_a1.wr W2).wr W4).wr W6), f8⟩
theorem d9_0 : decode prog_25_method_6_code 0 = .ok (.aload_n 0, 1) := by decide +kernel
theorem d9_1 : decode prog_25_method_6_code 1 = .ok (.getfield 13, 3) := by decide +kernel
theorem d9_4 : decode prog_25_method_6_code 4 = .ok (.ifnull 7, 3) := by decide +kernel
theorem d9_11 : decode prog_25_method_6_code 11 = .ok (.iconst 0, 1) := by decide +kernel
theorem d9_12 : decode prog_25_method_6_code 12 = .ok (.ireturn, 1) := by decide +kernel
theorem ef_rmtN (m : MethodId) (a1 : Addr) : entryFrame m #[(.ref a1)] 1 = mkF m 0 #[.val (.ref a1)] [] := by first | (simp [entryFrame, mkF, argsToLocals, Value.category]; done) | rfl
def QtN (Z : State) (a1 : Addr) (h0 : Heap) (n0 : Nat) (v : Option Value) (h : Heap) (L : List Loc) : Prop := v = some (.int (0 : Int32)) ∧ Fr n0 L ∧ h = h0
set_option maxRecDepth 65536 in
set_option maxHeartbeats 40000000 in
theorem rmtN (l : Launch) (Z : State) (a0 : Array Value) (hw : ∀ d ∈ tables_1, d.before a0 Z = true) (ws : List Jvm.Cond) (a1 : Addr) (h0 : Heap) (n0 : Nat) (Z0 : n0 ≤ h0.size) (E_a1 : Exa Z h0 a1 "com/example/tidemark/tidemark/Option") (F_value_a1 : Fld Z h0 a1 "com/example/tidemark/tidemark/Option" "value" "Ljava/lang/String;" .null) :
    MetFree l (⟨"com/example/tidemark/tidemark/Option", "takesValue", "()Z"⟩ : MethodName) (head1 (Jvm.Cond.code (⟨"com/example/tidemark/tidemark/Option", "takesValue", "()Z"⟩ : MethodName) prog_25_method_6_code 1 (some .boolean) :: ws) ({ frames := 0, cells := 0, slots := 0, locals := 0 } : Room)) (fun a U => a = #[(.ref a1)] ∧ Z.Warmed39 U.vm ∧ U.heap = h0) (fun _ _ _ _ _ => True) (fun _ U o U' => ∃ v L, o = .returned v ∧ QtN Z a1 h0 n0 v U'.heap L ∧ FrameEnd U o U' L ({ frames := 0, cells := 0, slots := 0, locals := 0 } : Room).cells ({ frames := 0, cells := 0, slots := 0, locals := 0 } : Room).slots) := by
  refine MetFree.of_bodySF (plainFor_of_name pn_4) hisR ?_
  intro p e s m args below meth c s₁ Bd hml0 hP hK
  obtain ⟨rfl, hZ, hh⟩ := hP
  have hx := Bd.exec
  have hby := Bd.bytes
  have hml : c.maxLocals = 1 := hml0
  have hown : s.vm.findClass "com/example/tidemark/tidemark/Option" = some m.cls := findClass_of_methodNamed Bd.named
  have hnm := (name_of_methodNamed Bd.named Bd.method).1
  have X0 : Stand p l e ({ frames := 0, cells := 0, slots := 0, locals := 0 } : Room) s m #[(.ref a1)] below meth c s₁ [] 0 0 := Stand.of_body Bd
  have e0 : s₁.heap = h0 := by rw [← hh, Bd.state]; rfl
  have N0 := Fr.nil n0
  show Go p e below (PP s below (QtN Z a1 h0 n0) ({ frames := 0, cells := 0, slots := 0, locals := 0 } : Room).cells ({ frames := 0, cells := 0, slots := 0, locals := 0 } : Room).slots) (s₁.setTop (entryFrame m #[(.ref a1)] 1))
  refine go (fun _ k => castTop (ef_rmtN m a1) k) ?_
  show Go p e below _ (s₁.setTop (mkF m 0 #[.val (.ref a1)] []))
  refine go (fun _ k => XS.aloadN X0.here hx rfl (hb hby d9_0) rfl rfl  k) ?_
  show Go p e below _ (s₁.setTop (mkF m 1 #[.val (.ref a1)] [(.ref a1)]))
  obtain ⟨T1, X1, e1, st1⟩ := getF X0 hx hZ hown (host := "") (Or.inl (hw _ (List.mem_of_getElem? (i := 44) rfl))) Via.refl e0 F_value_a1 (g := (mkF m 1 #[.val (.ref a1)] [(.ref a1)])) rfl rfl (hb hby d9_1)
  refine go st1 ?_
  show Go p e below _ (T1.setTop (mkF m 4 #[.val (.ref a1)] [.null]))
  refine go (fun _ k => XS.ifnullYes X1.here hx rfl (pc0 := 4) (pc' := 11) rfl (hb hby d9_4) rfl (by decide) (by decide) k) ?_
  show Go p e below _ (T1.setTop (mkF m 11 #[.val (.ref a1)] []))
  refine go (fun _ k => XS.iconst X1.here hx rfl (hb hby d9_11) k) ?_
  show Go p e below _ (T1.setTop (mkF m 12 #[.val (.ref a1)] [(.int (0 : Int32))]))
  obtain ⟨fs, hr, hrun, hended, hW, hsame⟩ := X1.leave (v := some (.int (0 : Int32))) (fun h => by rw [Bd.returns] at h; cases h)
  refine leaf (T := T1) ⟨fs, retN X1 hx (t := .boolean) Bd.returns (by simp) (hb hby d9_12) hr, hrun, hended, hW, hsame⟩ ?_ (by decide) (by decide)
  show QtN Z a1 h0 n0 _ T1.heap _
  rw [e1]
  exact ⟨rfl, N0, rfl⟩
theorem d9_7 : decode prog_25_method_6_code 7 = .ok (.iconst 1, 1) := by decide +kernel
theorem d9_8 : decode prog_25_method_6_code 8 = .ok (.goto 4, 3) := by decide +kernel
theorem ef_rmtR (m : MethodId) (a1 : Addr) : entryFrame m #[(.ref a1)] 1 = mkF m 0 #[.val (.ref a1)] [] := by first | (simp [entryFrame, mkF, argsToLocals, Value.category]; done) | rfl
def QtR (Z : State) (a1 : Addr) (w : Addr) (h0 : Heap) (n0 : Nat) (v : Option Value) (h : Heap) (L : List Loc) : Prop := v = some (.int (1 : Int32)) ∧ Fr n0 L ∧ h = h0
set_option maxRecDepth 65536 in
set_option maxHeartbeats 40000000 in
theorem rmtR (l : Launch) (Z : State) (a0 : Array Value) (hw : ∀ d ∈ tables_1, d.before a0 Z = true) (ws : List Jvm.Cond) (a1 : Addr) (w : Addr) (h0 : Heap) (n0 : Nat) (Z0 : n0 ≤ h0.size) (E_a1 : Exa Z h0 a1 "com/example/tidemark/tidemark/Option") (F_value_a1 : Fld Z h0 a1 "com/example/tidemark/tidemark/Option" "value" "Ljava/lang/String;" (.ref w)) :
    MetFree l (⟨"com/example/tidemark/tidemark/Option", "takesValue", "()Z"⟩ : MethodName) (head1 (Jvm.Cond.code (⟨"com/example/tidemark/tidemark/Option", "takesValue", "()Z"⟩ : MethodName) prog_25_method_6_code 1 (some .boolean) :: ws) ({ frames := 0, cells := 0, slots := 0, locals := 0 } : Room)) (fun a U => a = #[(.ref a1)] ∧ Z.Warmed39 U.vm ∧ U.heap = h0) (fun _ _ _ _ _ => True) (fun _ U o U' => ∃ v L, o = .returned v ∧ QtR Z a1 w h0 n0 v U'.heap L ∧ FrameEnd U o U' L ({ frames := 0, cells := 0, slots := 0, locals := 0 } : Room).cells ({ frames := 0, cells := 0, slots := 0, locals := 0 } : Room).slots) := by
  refine MetFree.of_bodySF (plainFor_of_name pn_4) hisR ?_
  intro p e s m args below meth c s₁ Bd hml0 hP hK
  obtain ⟨rfl, hZ, hh⟩ := hP
  have hx := Bd.exec
  have hby := Bd.bytes
  have hml : c.maxLocals = 1 := hml0
  have hown : s.vm.findClass "com/example/tidemark/tidemark/Option" = some m.cls := findClass_of_methodNamed Bd.named
  have hnm := (name_of_methodNamed Bd.named Bd.method).1
  have X0 : Stand p l e ({ frames := 0, cells := 0, slots := 0, locals := 0 } : Room) s m #[(.ref a1)] below meth c s₁ [] 0 0 := Stand.of_body Bd
  have e0 : s₁.heap = h0 := by rw [← hh, Bd.state]; rfl
  have N0 := Fr.nil n0
  show Go p e below (PP s below (QtR Z a1 w h0 n0) ({ frames := 0, cells := 0, slots := 0, locals := 0 } : Room).cells ({ frames := 0, cells := 0, slots := 0, locals := 0 } : Room).slots) (s₁.setTop (entryFrame m #[(.ref a1)] 1))
  refine go (fun _ k => castTop (ef_rmtR m a1) k) ?_
  show Go p e below _ (s₁.setTop (mkF m 0 #[.val (.ref a1)] []))
  refine go (fun _ k => XS.aloadN X0.here hx rfl (hb hby d9_0) rfl rfl  k) ?_
  show Go p e below _ (s₁.setTop (mkF m 1 #[.val (.ref a1)] [(.ref a1)]))
  obtain ⟨T1, X1, e1, st1⟩ := getF X0 hx hZ hown (host := "") (Or.inl (hw _ (List.mem_of_getElem? (i := 44) rfl))) Via.refl e0 F_value_a1 (g := (mkF m 1 #[.val (.ref a1)] [(.ref a1)])) rfl rfl (hb hby d9_1)
  refine go st1 ?_
  show Go p e below _ (T1.setTop (mkF m 4 #[.val (.ref a1)] [(.ref w)]))
  refine go (fun _ k => XS.ifnullNo X1.here hx rfl (hb hby d9_4) rfl k) ?_
  show Go p e below _ (T1.setTop (mkF m 7 #[.val (.ref a1)] []))
  refine go (fun _ k => XS.iconst X1.here hx rfl (hb hby d9_7) k) ?_
  show Go p e below _ (T1.setTop (mkF m 8 #[.val (.ref a1)] [(.int (1 : Int32))]))
  refine go (fun _ k => XS.goto X1.here hx rfl (pc0 := 8) (pc' := 12) rfl (hb hby d9_8) (by decide) (by decide) k) ?_
  show Go p e below _ (T1.setTop (mkF m 12 #[.val (.ref a1)] [(.int (1 : Int32))]))
  obtain ⟨fs, hr, hrun, hended, hW, hsame⟩ := X1.leave (v := some (.int (1 : Int32))) (fun h => by rw [Bd.returns] at h; cases h)
  refine leaf (T := T1) ⟨fs, retN X1 hx (t := .boolean) Bd.returns (by simp) (hb hby d9_12) hr, hrun, hended, hW, hsame⟩ ?_ (by decide) (by decide)
  show QtR Z a1 w h0 n0 _ T1.heap _
  rw [e1]
  exact ⟨rfl, N0, rfl⟩
theorem pd_8 : parseMethodDescriptor "(Ljava/lang/String;Ljava/lang/String;Z)V" = some ⟨[(.object "java/lang/String"), (.object "java/lang/String"), .boolean], none⟩ := by decide +kernel
theorem pd_9 : parseMethodDescriptor "()Z" = some ⟨[], some .boolean⟩ := by decide +kernel
theorem pd_10 : parseMethodDescriptor "([C)V" = some ⟨[(.array .char)], none⟩ := by decide +kernel
theorem pd_11 : parseMethodDescriptor "(C)Ljava/lang/String;" = some ⟨[.char], some (.object "java/lang/String")⟩ := by decide +kernel
theorem pn_5 : plainName "com/example/tidemark/tidemark/OptionTakesValuePinLaw" = true := by first | (simp [plainName, overriddenIn]; done) | decide +kernel
theorem ef_rm0 (m : MethodId) (p1 : Int32) (p2 : Int32) (p3 : Int32) (p4 : Int32) : entryFrame m #[(.int p1), (.int p2), (.int p3), (.int p4)] maxLocals = mkF m 0 #[.val (.int p1), .val (.int p2), .val (.int p3), .val (.int p4), .unset, .unset, .unset, .unset, .unset, .unset, .unset] [] := by first | (simp [entryFrame, mkF, argsToLocals, Value.category, maxLocals]; done) | rfl
def Q0 (Z : State) (p1 : Int32) (p2 : Int32) (p3 : Int32) (p4 : Int32) (cs : Int32) (h0 : Heap) (n0 : Nat) (v : Option Value) (h : Heap) (L : List Loc) : Prop := v = some (.int (1 : Int32)) ∧ Fr n0 L
set_option maxRecDepth 65536 in
set_option maxHeartbeats 40000000 in
theorem rm0 (l : Launch) (Z : State) (a0 : Array Value) (hw : ∀ d ∈ tables_1, d.before a0 Z = true) (ws : List Jvm.Cond) (p1 : Int32) (p2 : Int32) (p3 : Int32) (p4 : Int32) (cs : Int32) (h0 : Heap) (n0 : Nat) (Z0 : n0 ≤ h0.size) (O0 : Old Z n0 h0) (S_COMPACT_STRINGS : Sta Z Z.heap "java/lang/String" "COMPACT_STRINGS" "Z" (.int cs)) (hcs : ¬ (cs = (0 : Int32))) :
    MetFree l x (head1 (Jvm.Cond.code x code maxLocals ret :: ws) room_1) (fun a U => a = #[(.int p1), (.int p2), (.int p3), (.int p4)] ∧ Z.Warmed39 U.vm ∧ U.heap = h0 ∧ CHv Z ownEL U.vm h0) (fun _ _ _ _ _ => True) (fun _ U o U' => ∃ v L, o = .returned v ∧ Q0 Z p1 p2 p3 p4 cs h0 n0 v U'.heap L ∧ ReturnedEndW U o U' L room_1.cells room_1.slots) := by
  refine MetFree.of_bodySF (plainFor_of_name pn_5) hisR ?_
  intro p e s m args below meth c s₁ Bd hml0 hP hK
  obtain ⟨rfl, hZ, hh, hCH⟩ := hP
  have hx := Bd.exec
  have hby := Bd.bytes
  have hml : c.maxLocals = 11 := hml0
  have hown : s.vm.findClass "com/example/tidemark/tidemark/OptionTakesValuePinLaw" = some m.cls := findClass_of_methodNamed Bd.named
  have hnm := (name_of_methodNamed Bd.named Bd.method).1
  have X0 : Stand p l e room_1 (s.setVm s.vm) m #[(.int p1), (.int p2), (.int p3), (.int p4)] below meth c s₁ [] 0 0 := Stand.of_body Bd
  have e0 : s₁.heap = h0 := by rw [← hh, Bd.state]; rfl
  have N0 := Fr.nil n0
  have hS0 : s.Since s.vm h0.size := (State.WarmedH.refl s).since _
  have hk0 : h0.size ≤ h0.size := Nat.le_refl _
  have hZs := hZ
  have R0 : CHr Z ownEL s.vm h0 s.vm h0 := CHr.refl hCH
  show Go p e below (PPW s below (Q0 Z p1 p2 p3 p4 cs h0 n0) room_1.cells room_1.slots) (s₁.setTop (entryFrame m #[(.int p1), (.int p2), (.int p3), (.int p4)] maxLocals))
  refine go (fun _ k => castTop (ef_rm0 m p1 p2 p3 p4) k) ?_
  show Go p e below _ (s₁.setTop (mkF m 0 #[.val (.int p1), .val (.int p2), .val (.int p3), .val (.int p4), .unset, .unset, .unset, .unset, .unset, .unset, .unset] []))
  refine go (fun _ k => XS.iloadN X0.here hx rfl (hb hby at_0) rfl  k) ?_
  show Go p e below _ (s₁.setTop (mkF m 1 #[.val (.int p1), .val (.int p2), .val (.int p3), .val (.int p4), .unset, .unset, .unset, .unset, .unset, .unset, .unset] [(.int p4)]))
  refine go (fun _ k => XS.iconst X0.here hx rfl (hb hby at_1) k) ?_
  show Go p e below _ (s₁.setTop (mkF m 2 #[.val (.int p1), .val (.int p2), .val (.int p3), .val (.int p4), .unset, .unset, .unset, .unset, .unset, .unset, .unset] [(.int (1 : Int32)), (.int p4)]))
  refine go (fun _ k => XS.iand X0.here hx rfl (hb hby at_2) rfl k) ?_
  show Go p e below _ (s₁.setTop (mkF m 3 #[.val (.int p1), .val (.int p2), .val (.int p3), .val (.int p4), .unset, .unset, .unset, .unset, .unset, .unset, .unset] [(.int (p4 &&& (1 : Int32)))]))
  have J11_1 : ∀ (v11_2 : Int32), v11_2 = (bz (¬ ((p4 &&& (1 : Int32)) = (0 : Int32)))) → Go p e below (PPW s below (Q0 Z p1 p2 p3 p4 cs h0 n0) room_1.cells room_1.slots) (s₁.setTop (mkF m 11 #[.val (.int p1), .val (.int p2), .val (.int p3), .val (.int p4), .unset, .unset, .unset, .unset, .unset, .unset, .unset] [(.int v11_2)])) := by
    intro v11_2 hv11_2
    subst hv11_2
    show Go p e below _ (s₁.setTop (mkF m 11 #[.val (.int p1), .val (.int p2), .val (.int p3), .val (.int p4), .unset, .unset, .unset, .unset, .unset, .unset, .unset] [(.int (bz (¬ ((p4 &&& (1 : Int32)) = (0 : Int32)))))]))
    refine go (fun _ k => XS.istore X0.here hx rfl (hb hby at_11) rfl (l' := #[.val (.int p1), .val (.int p2), .val (.int p3), .val (.int p4), .val (.int (bz (¬ ((p4 &&& (1 : Int32)) = (0 : Int32))))), .unset, .unset, .unset, .unset, .unset, .unset]) rfl k) ?_
    show Go p e below _ (s₁.setTop (mkF m 13 #[.val (.int p1), .val (.int p2), .val (.int p3), .val (.int p4), .val (.int (bz (¬ ((p4 &&& (1 : Int32)) = (0 : Int32))))), .unset, .unset, .unset, .unset, .unset, .unset] []))
    refine go (fun _ k => XS.iloadN X0.here hx rfl (hb hby at_13) rfl  k) ?_
    show Go p e below _ (s₁.setTop (mkF m 14 #[.val (.int p1), .val (.int p2), .val (.int p3), .val (.int p4), .val (.int (bz (¬ ((p4 &&& (1 : Int32)) = (0 : Int32))))), .unset, .unset, .unset, .unset, .unset, .unset] [(.int p4)]))
    refine go (fun _ k => XS.iconst X0.here hx rfl (hb hby at_14) k) ?_
    show Go p e below _ (s₁.setTop (mkF m 15 #[.val (.int p1), .val (.int p2), .val (.int p3), .val (.int p4), .val (.int (bz (¬ ((p4 &&& (1 : Int32)) = (0 : Int32))))), .unset, .unset, .unset, .unset, .unset, .unset] [(.int (1 : Int32)), (.int p4)]))
    refine go (fun _ k => XS.iushr X0.here hx rfl (hb hby at_15) rfl k) ?_
    show Go p e below _ (s₁.setTop (mkF m 16 #[.val (.int p1), .val (.int p2), .val (.int p3), .val (.int p4), .val (.int (bz (¬ ((p4 &&& (1 : Int32)) = (0 : Int32))))), .unset, .unset, .unset, .unset, .unset, .unset] [(.int ((p4.toUInt32 >>> ((1 : Int32) &&& 31).toUInt32).toInt32))]))
    refine go (fun _ k => XS.iconst X0.here hx rfl (hb hby at_16) k) ?_
    show Go p e below _ (s₁.setTop (mkF m 17 #[.val (.int p1), .val (.int p2), .val (.int p3), .val (.int p4), .val (.int (bz (¬ ((p4 &&& (1 : Int32)) = (0 : Int32))))), .unset, .unset, .unset, .unset, .unset, .unset] [(.int (3 : Int32)), (.int ((p4.toUInt32 >>> ((1 : Int32) &&& 31).toUInt32).toInt32))]))
    refine go (fun _ k => XS.iand X0.here hx rfl (hb hby at_17) rfl k) ?_
    show Go p e below _ (s₁.setTop (mkF m 18 #[.val (.int p1), .val (.int p2), .val (.int p3), .val (.int p4), .val (.int (bz (¬ ((p4 &&& (1 : Int32)) = (0 : Int32))))), .unset, .unset, .unset, .unset, .unset, .unset] [(.int (((p4.toUInt32 >>> ((1 : Int32) &&& 31).toUInt32).toInt32) &&& (3 : Int32)))]))
    refine go (fun _ k => XS.istore X0.here hx rfl (hb hby at_18) rfl (l' := #[.val (.int p1), .val (.int p2), .val (.int p3), .val (.int p4), .val (.int (bz (¬ ((p4 &&& (1 : Int32)) = (0 : Int32))))), .val (.int (((p4.toUInt32 >>> ((1 : Int32) &&& 31).toUInt32).toInt32) &&& (3 : Int32))), .unset, .unset, .unset, .unset, .unset]) rfl k) ?_
    show Go p e below _ (s₁.setTop (mkF m 20 #[.val (.int p1), .val (.int p2), .val (.int p3), .val (.int p4), .val (.int (bz (¬ ((p4 &&& (1 : Int32)) = (0 : Int32))))), .val (.int (((p4.toUInt32 >>> ((1 : Int32) &&& 31).toUInt32).toInt32) &&& (3 : Int32))), .unset, .unset, .unset, .unset, .unset] []))
    refine go (fun _ k => XS.iloadN X0.here hx rfl (hb hby at_20) rfl  k) ?_
    show Go p e below _ (s₁.setTop (mkF m 21 #[.val (.int p1), .val (.int p2), .val (.int p3), .val (.int p4), .val (.int (bz (¬ ((p4 &&& (1 : Int32)) = (0 : Int32))))), .val (.int (((p4.toUInt32 >>> ((1 : Int32) &&& 31).toUInt32).toInt32) &&& (3 : Int32))), .unset, .unset, .unset, .unset, .unset] [(.int p4)]))
    refine go (fun _ k => XS.bipush X0.here hx rfl (hb hby at_21) k) ?_
    show Go p e below _ (s₁.setTop (mkF m 23 #[.val (.int p1), .val (.int p2), .val (.int p3), .val (.int p4), .val (.int (bz (¬ ((p4 &&& (1 : Int32)) = (0 : Int32))))), .val (.int (((p4.toUInt32 >>> ((1 : Int32) &&& 31).toUInt32).toInt32) &&& (3 : Int32))), .unset, .unset, .unset, .unset, .unset] [(.int (8 : Int32)), (.int p4)]))
    refine go (fun _ k => XS.iand X0.here hx rfl (hb hby at_23) rfl k) ?_
    show Go p e below _ (s₁.setTop (mkF m 24 #[.val (.int p1), .val (.int p2), .val (.int p3), .val (.int p4), .val (.int (bz (¬ ((p4 &&& (1 : Int32)) = (0 : Int32))))), .val (.int (((p4.toUInt32 >>> ((1 : Int32) &&& 31).toUInt32).toInt32) &&& (3 : Int32))), .unset, .unset, .unset, .unset, .unset] [(.int (p4 &&& (8 : Int32)))]))
    have J32_2 : ∀ (v32_4 : Int32), v32_4 = (bz (¬ ((p4 &&& (8 : Int32)) = (0 : Int32)))) → Go p e below (PPW s below (Q0 Z p1 p2 p3 p4 cs h0 n0) room_1.cells room_1.slots) (s₁.setTop (mkF m 32 #[.val (.int p1), .val (.int p2), .val (.int p3), .val (.int p4), .val (.int (bz (¬ ((p4 &&& (1 : Int32)) = (0 : Int32))))), .val (.int (((p4.toUInt32 >>> ((1 : Int32) &&& 31).toUInt32).toInt32) &&& (3 : Int32))), .unset, .unset, .unset, .unset, .unset] [(.int v32_4)])) := by
      intro v32_4 hv32_4
      subst hv32_4
      show Go p e below _ (s₁.setTop (mkF m 32 #[.val (.int p1), .val (.int p2), .val (.int p3), .val (.int p4), .val (.int (bz (¬ ((p4 &&& (1 : Int32)) = (0 : Int32))))), .val (.int (((p4.toUInt32 >>> ((1 : Int32) &&& 31).toUInt32).toInt32) &&& (3 : Int32))), .unset, .unset, .unset, .unset, .unset] [(.int (bz (¬ ((p4 &&& (8 : Int32)) = (0 : Int32)))))]))
      refine go (fun _ k => XS.istore X0.here hx rfl (hb hby at_32) rfl (l' := #[.val (.int p1), .val (.int p2), .val (.int p3), .val (.int p4), .val (.int (bz (¬ ((p4 &&& (1 : Int32)) = (0 : Int32))))), .val (.int (((p4.toUInt32 >>> ((1 : Int32) &&& 31).toUInt32).toInt32) &&& (3 : Int32))), .val (.int (bz (¬ ((p4 &&& (8 : Int32)) = (0 : Int32))))), .unset, .unset, .unset, .unset]) rfl k) ?_
      show Go p e below _ (s₁.setTop (mkF m 34 #[.val (.int p1), .val (.int p2), .val (.int p3), .val (.int p4), .val (.int (bz (¬ ((p4 &&& (1 : Int32)) = (0 : Int32))))), .val (.int (((p4.toUInt32 >>> ((1 : Int32) &&& 31).toUInt32).toInt32) &&& (3 : Int32))), .val (.int (bz (¬ ((p4 &&& (8 : Int32)) = (0 : Int32))))), .unset, .unset, .unset, .unset] []))
      refine go (fun _ k => XS.iload X0.here hx rfl (hb hby at_34) rfl  k) ?_
      show Go p e below _ (s₁.setTop (mkF m 36 #[.val (.int p1), .val (.int p2), .val (.int p3), .val (.int p4), .val (.int (bz (¬ ((p4 &&& (1 : Int32)) = (0 : Int32))))), .val (.int (((p4.toUInt32 >>> ((1 : Int32) &&& 31).toUInt32).toInt32) &&& (3 : Int32))), .val (.int (bz (¬ ((p4 &&& (8 : Int32)) = (0 : Int32))))), .unset, .unset, .unset, .unset] [(.int (bz (¬ ((p4 &&& (8 : Int32)) = (0 : Int32)))))]))
      by_cases hc36_5 : ¬ ((p4 &&& (8 : Int32)) = (0 : Int32))
      · skip
        refine go (fun _ k => XS.ifNo X0.here hx rfl (hb hby at_36) rfl ((if0 _ _).trans (feq (bz_ne hc36_5)).1) k) ?_
        show Go p e below _ (s₁.setTop (mkF m 39 #[.val (.int p1), .val (.int p2), .val (.int p3), .val (.int p4), .val (.int (bz (¬ ((p4 &&& (1 : Int32)) = (0 : Int32))))), .val (.int (((p4.toUInt32 >>> ((1 : Int32) &&& 31).toUInt32).toInt32) &&& (3 : Int32))), .val (.int (bz (¬ ((p4 &&& (8 : Int32)) = (0 : Int32))))), .unset, .unset, .unset, .unset] []))
        refine go (fun _ k => XS.aconstNull X0.here hx rfl (hb hby at_39) k) ?_
        show Go p e below _ (s₁.setTop (mkF m 40 #[.val (.int p1), .val (.int p2), .val (.int p3), .val (.int p4), .val (.int (bz (¬ ((p4 &&& (1 : Int32)) = (0 : Int32))))), .val (.int (((p4.toUInt32 >>> ((1 : Int32) &&& 31).toUInt32).toInt32) &&& (3 : Int32))), .val (.int (bz (¬ ((p4 &&& (8 : Int32)) = (0 : Int32))))), .unset, .unset, .unset, .unset] [.null]))
        refine go (fun _ k => XS.astore X0.here hx rfl (hb hby at_40) rfl rfl (l' := #[.val (.int p1), .val (.int p2), .val (.int p3), .val (.int p4), .val (.int (bz (¬ ((p4 &&& (1 : Int32)) = (0 : Int32))))), .val (.int (((p4.toUInt32 >>> ((1 : Int32) &&& 31).toUInt32).toInt32) &&& (3 : Int32))), .val (.int (bz (¬ ((p4 &&& (8 : Int32)) = (0 : Int32))))), .val .null, .unset, .unset, .unset]) rfl k) ?_
        show Go p e below _ (s₁.setTop (mkF m 42 #[.val (.int p1), .val (.int p2), .val (.int p3), .val (.int p4), .val (.int (bz (¬ ((p4 &&& (1 : Int32)) = (0 : Int32))))), .val (.int (((p4.toUInt32 >>> ((1 : Int32) &&& 31).toUInt32).toInt32) &&& (3 : Int32))), .val (.int (bz (¬ ((p4 &&& (8 : Int32)) = (0 : Int32))))), .val .null, .unset, .unset, .unset] []))
        refine go (fun _ k => XS.goto X0.here hx rfl (pc0 := 42) (pc' := 70) rfl (hb hby at_42) (by decide) (by decide) k) ?_
        show Go p e below _ (s₁.setTop (mkF m 70 #[.val (.int p1), .val (.int p2), .val (.int p3), .val (.int p4), .val (.int (bz (¬ ((p4 &&& (1 : Int32)) = (0 : Int32))))), .val (.int (((p4.toUInt32 >>> ((1 : Int32) &&& 31).toUInt32).toInt32) &&& (3 : Int32))), .val (.int (bz (¬ ((p4 &&& (8 : Int32)) = (0 : Int32))))), .val .null, .unset, .unset, .unset] []))
        refine go (fun _ k => XS.iload X0.here hx rfl (hb hby at_70) rfl  k) ?_
        show Go p e below _ (s₁.setTop (mkF m 72 #[.val (.int p1), .val (.int p2), .val (.int p3), .val (.int p4), .val (.int (bz (¬ ((p4 &&& (1 : Int32)) = (0 : Int32))))), .val (.int (((p4.toUInt32 >>> ((1 : Int32) &&& 31).toUInt32).toInt32) &&& (3 : Int32))), .val (.int (bz (¬ ((p4 &&& (8 : Int32)) = (0 : Int32))))), .val .null, .unset, .unset, .unset] [(.int (((p4.toUInt32 >>> ((1 : Int32) &&& 31).toUInt32).toInt32) &&& (3 : Int32)))]))
        by_cases hc72_6 : (((p4.toUInt32 >>> ((1 : Int32) &&& 31).toUInt32).toInt32) &&& (3 : Int32)) = (0 : Int32)
        · skip
          refine go (fun _ k => XS.ifNo X0.here hx rfl (hb hby at_72) rfl ((if0 _ _).trans (teq hc72_6).2) k) ?_
          show Go p e below _ (s₁.setTop (mkF m 75 #[.val (.int p1), .val (.int p2), .val (.int p3), .val (.int p4), .val (.int (bz (¬ ((p4 &&& (1 : Int32)) = (0 : Int32))))), .val (.int (((p4.toUInt32 >>> ((1 : Int32) &&& 31).toUInt32).toInt32) &&& (3 : Int32))), .val (.int (bz (¬ ((p4 &&& (8 : Int32)) = (0 : Int32))))), .val .null, .unset, .unset, .unset] []))
          refine go (fun _ k => XS.aconstNull X0.here hx rfl (hb hby at_75) k) ?_
          show Go p e below _ (s₁.setTop (mkF m 76 #[.val (.int p1), .val (.int p2), .val (.int p3), .val (.int p4), .val (.int (bz (¬ ((p4 &&& (1 : Int32)) = (0 : Int32))))), .val (.int (((p4.toUInt32 >>> ((1 : Int32) &&& 31).toUInt32).toInt32) &&& (3 : Int32))), .val (.int (bz (¬ ((p4 &&& (8 : Int32)) = (0 : Int32))))), .val .null, .unset, .unset, .unset] [.null]))
          refine go (fun _ k => XS.astore X0.here hx rfl (hb hby at_76) rfl rfl (l' := #[.val (.int p1), .val (.int p2), .val (.int p3), .val (.int p4), .val (.int (bz (¬ ((p4 &&& (1 : Int32)) = (0 : Int32))))), .val (.int (((p4.toUInt32 >>> ((1 : Int32) &&& 31).toUInt32).toInt32) &&& (3 : Int32))), .val (.int (bz (¬ ((p4 &&& (8 : Int32)) = (0 : Int32))))), .val .null, .val .null, .unset, .unset]) rfl k) ?_
          show Go p e below _ (s₁.setTop (mkF m 78 #[.val (.int p1), .val (.int p2), .val (.int p3), .val (.int p4), .val (.int (bz (¬ ((p4 &&& (1 : Int32)) = (0 : Int32))))), .val (.int (((p4.toUInt32 >>> ((1 : Int32) &&& 31).toUInt32).toInt32) &&& (3 : Int32))), .val (.int (bz (¬ ((p4 &&& (8 : Int32)) = (0 : Int32))))), .val .null, .val .null, .unset, .unset] []))
          refine go (fun _ k => XS.goto X0.here hx rfl (pc0 := 78) (pc' := 156) rfl (hb hby at_78) (by decide) (by decide) k) ?_
          show Go p e below _ (s₁.setTop (mkF m 156 #[.val (.int p1), .val (.int p2), .val (.int p3), .val (.int p4), .val (.int (bz (¬ ((p4 &&& (1 : Int32)) = (0 : Int32))))), .val (.int (((p4.toUInt32 >>> ((1 : Int32) &&& 31).toUInt32).toInt32) &&& (3 : Int32))), .val (.int (bz (¬ ((p4 &&& (8 : Int32)) = (0 : Int32))))), .val .null, .val .null, .unset, .unset] []))
          obtain ⟨T3, h3, X3, e3, E3, A3, D3, -, st3⟩ := newO X0 hx hZ hown (hw _ (List.mem_of_getElem? (i := 30) rfl)) (hw _ (List.mem_of_getElem? (i := 31) rfl)) (hw _ (List.mem_of_getElem? (i := 32) rfl)) e0 (g := (mkF m 156 #[.val (.int p1), .val (.int p2), .val (.int p3), .val (.int p4), .val (.int (bz (¬ ((p4 &&& (1 : Int32)) = (0 : Int32))))), .val (.int (((p4.toUInt32 >>> ((1 : Int32) &&& 31).toUInt32).toInt32) &&& (3 : Int32))), .val (.int (bz (¬ ((p4 &&& (8 : Int32)) = (0 : Int32))))), .val .null, .val .null, .unset, .unset] [])) rfl (hb hby at_156) (by decide) (by decide)
          obtain ⟨b3, gz3⟩ : ∃ z, z = h0.size := ⟨_, rfl⟩
          rw [← gz3] at A3 D3 st3
          have sz_b3 : h0.size ≤ b3 := Nat.le_trans (Keep.refl h0 []).1 (Nat.le_of_eq gz3.symm)
          have g_b3 : n0 ≤ b3 := Nat.le_trans Z0 sz_b3
          have F_name_b3 : Fld Z h3 b3 "com/example/tidemark/tidemark/Option" "name" "Ljava/lang/String;" .null := D3 (Or.inr (hw _ (List.mem_of_getElem? (i := 43) rfl))) (ty := (.object "java/lang/String")) (by decide)
          have F_value_b3 : Fld Z h3 b3 "com/example/tidemark/tidemark/Option" "value" "Ljava/lang/String;" .null := D3 (Or.inr (hw _ (List.mem_of_getElem? (i := 45) rfl))) (ty := (.object "java/lang/String")) (by decide)
          have F_required_b3 : Fld Z h3 b3 "com/example/tidemark/tidemark/Option" "required" "Z" (.int (0 : Int32)) := D3 (Or.inr (hw _ (List.mem_of_getElem? (i := 47) rfl))) (ty := .boolean) (by decide)
          refine go st3 ?_
          show Go p e below _ (T3.setTop (mkF m 159 #[.val (.int p1), .val (.int p2), .val (.int p3), .val (.int p4), .val (.int (bz (¬ ((p4 &&& (1 : Int32)) = (0 : Int32))))), .val (.int (((p4.toUInt32 >>> ((1 : Int32) &&& 31).toUInt32).toInt32) &&& (3 : Int32))), .val (.int (bz (¬ ((p4 &&& (8 : Int32)) = (0 : Int32))))), .val .null, .val .null, .unset, .unset] [(.ref b3)]))
          refine go (fun _ k => XS.dup X3.here hx rfl (hb hby at_159) rfl rfl k) ?_
          show Go p e below _ (T3.setTop (mkF m 160 #[.val (.int p1), .val (.int p2), .val (.int p3), .val (.int p4), .val (.int (bz (¬ ((p4 &&& (1 : Int32)) = (0 : Int32))))), .val (.int (((p4.toUInt32 >>> ((1 : Int32) &&& 31).toUInt32).toInt32) &&& (3 : Int32))), .val (.int (bz (¬ ((p4 &&& (8 : Int32)) = (0 : Int32))))), .val .null, .val .null, .unset, .unset] [(.ref b3), (.ref b3)]))
          refine go (fun _ k => XS.aload X3.here hx rfl (hb hby at_160) rfl rfl  k) ?_
          show Go p e below _ (T3.setTop (mkF m 162 #[.val (.int p1), .val (.int p2), .val (.int p3), .val (.int p4), .val (.int (bz (¬ ((p4 &&& (1 : Int32)) = (0 : Int32))))), .val (.int (((p4.toUInt32 >>> ((1 : Int32) &&& 31).toUInt32).toInt32) &&& (3 : Int32))), .val (.int (bz (¬ ((p4 &&& (8 : Int32)) = (0 : Int32))))), .val .null, .val .null, .unset, .unset] [.null, (.ref b3), (.ref b3)]))
          refine go (fun _ k => XS.aload X3.here hx rfl (hb hby at_162) rfl rfl  k) ?_
          show Go p e below _ (T3.setTop (mkF m 164 #[.val (.int p1), .val (.int p2), .val (.int p3), .val (.int p4), .val (.int (bz (¬ ((p4 &&& (1 : Int32)) = (0 : Int32))))), .val (.int (((p4.toUInt32 >>> ((1 : Int32) &&& 31).toUInt32).toInt32) &&& (3 : Int32))), .val (.int (bz (¬ ((p4 &&& (8 : Int32)) = (0 : Int32))))), .val .null, .val .null, .unset, .unset] [.null, .null, (.ref b3), (.ref b3)]))
          refine go (fun _ k => XS.iload X3.here hx rfl (hb hby at_164) rfl  k) ?_
          show Go p e below _ (T3.setTop (mkF m 166 #[.val (.int p1), .val (.int p2), .val (.int p3), .val (.int p4), .val (.int (bz (¬ ((p4 &&& (1 : Int32)) = (0 : Int32))))), .val (.int (((p4.toUInt32 >>> ((1 : Int32) &&& 31).toUInt32).toInt32) &&& (3 : Int32))), .val (.int (bz (¬ ((p4 &&& (8 : Int32)) = (0 : Int32))))), .val .null, .val .null, .unset, .unset] [(.int (bz (¬ ((p4 &&& (1 : Int32)) = (0 : Int32))))), .null, .null, (.ref b3), (.ref b3)]))
          have K5 : Keep h0 h3 [] := ((Keep.refl h0 []).ext E3)
          obtain ⟨_, _, ⟨T4, Lb4, cn4, sn4⟩, -, X4, ⟨Lc4, hQ4, lq4, yq4, zq4⟩, st4⟩ := X3.specialBack hx (y := (⟨"com/example/tidemark/tidemark/Option", "<init>", "(Ljava/lang/String;Ljava/lang/String;Z)V"⟩ : MethodName)) rfl hown (mvT hZ (hw _ (List.mem_of_getElem? (i := 33) rfl))) (mvT hZ (hw _ (List.mem_of_getElem? (i := 34) rfl))) (mvT hZ (hw _ (List.mem_of_getElem? (i := 35) rfl))) (by decide) (backOf (W := 1) (rm7 l Z a0 hw [] b3 Value.null Value.null (bz (¬ ((p4 &&& (1 : Int32)) = (0 : Int32)))) .null .null (.int (0 : Int32)) h3 n0 (Nat.le_trans Z0 K5.1) (rfl : Value.null.isRef = true) (rfl : Value.null.isRef = true) A3 g_b3 F_name_b3 F_value_b3 F_required_b3) hZ (hw _ (List.mem_of_getElem? (i := 35) rfl)) (hw _ (List.mem_of_getElem? (i := 32) rfl)) (by decide) (by decide)) (g := (mkF m 166 #[.val (.int p1), .val (.int p2), .val (.int p3), .val (.int p4), .val (.int (bz (¬ ((p4 &&& (1 : Int32)) = (0 : Int32))))), .val (.int (((p4.toUInt32 >>> ((1 : Int32) &&& 31).toUInt32).toInt32) &&& (3 : Int32))), .val (.int (bz (¬ ((p4 &&& (8 : Int32)) = (0 : Int32))))), .val .null, .val .null, .unset, .unset] [(.int (bz (¬ ((p4 &&& (1 : Int32)) = (0 : Int32))))), .null, .null, (.ref b3), (.ref b3)])) rfl (by rw [hml]; rfl) (Steps.refl _) (a := b3) (argsL := [.null, .null, (.int (bz (¬ ((p4 &&& (1 : Int32)) = (0 : Int32)))))]) (rest := [(.ref b3)]) (lenOf pd_8 rfl) rfl (by show 2 * 0 + _ ≤ _; exact Nat.le_of_eq rfl) (hb hby at_166) (fun _ _ => ⟨rfl, e3, (by decide : 1 + 0 ≤ _), (by decide : 3 + 0 ≤ _)⟩)
          dsimp only [Pt.U, Pt.locs, Pt.cells, Pt.slots] at X4 lq4 yq4 zq4 st4 hQ4
          subst lq4 yq4 zq4
          obtain ⟨rfl, N4q, r4_0, r4_1, r4_2⟩ := hQ4
          have N4 := Fr.app N0 N4q
          refine go (fun _ k => st4.trans k) ?_
          show Go p e below _ (T4.setTop (mkF m 169 #[.val (.int p1), .val (.int p2), .val (.int p3), .val (.int p4), .val (.int (bz (¬ ((p4 &&& (1 : Int32)) = (0 : Int32))))), .val (.int (((p4.toUInt32 >>> ((1 : Int32) &&& 31).toUInt32).toInt32) &&& (3 : Int32))), .val (.int (bz (¬ ((p4 &&& (8 : Int32)) = (0 : Int32))))), .val .null, .val .null, .unset, .unset] [(.ref b3)]))
          refine go (fun _ k => XS.astore X4.here hx rfl (hb hby at_169) rfl rfl (l' := #[.val (.int p1), .val (.int p2), .val (.int p3), .val (.int p4), .val (.int (bz (¬ ((p4 &&& (1 : Int32)) = (0 : Int32))))), .val (.int (((p4.toUInt32 >>> ((1 : Int32) &&& 31).toUInt32).toInt32) &&& (3 : Int32))), .val (.int (bz (¬ ((p4 &&& (8 : Int32)) = (0 : Int32))))), .val .null, .val .null, .val (.ref b3), .unset]) rfl k) ?_
          show Go p e below _ (T4.setTop (mkF m 171 #[.val (.int p1), .val (.int p2), .val (.int p3), .val (.int p4), .val (.int (bz (¬ ((p4 &&& (1 : Int32)) = (0 : Int32))))), .val (.int (((p4.toUInt32 >>> ((1 : Int32) &&& 31).toUInt32).toInt32) &&& (3 : Int32))), .val (.int (bz (¬ ((p4 &&& (8 : Int32)) = (0 : Int32))))), .val .null, .val .null, .val (.ref b3), .unset] []))
          refine go (fun _ k => XS.iload X4.here hx rfl (hb hby at_171) rfl  k) ?_
          show Go p e below _ (T4.setTop (mkF m 173 #[.val (.int p1), .val (.int p2), .val (.int p3), .val (.int p4), .val (.int (bz (¬ ((p4 &&& (1 : Int32)) = (0 : Int32))))), .val (.int (((p4.toUInt32 >>> ((1 : Int32) &&& 31).toUInt32).toInt32) &&& (3 : Int32))), .val (.int (bz (¬ ((p4 &&& (8 : Int32)) = (0 : Int32))))), .val .null, .val .null, .val (.ref b3), .unset] [(.int (((p4.toUInt32 >>> ((1 : Int32) &&& 31).toUInt32).toInt32) &&& (3 : Int32)))]))
          refine go (fun _ k => XS.ifYes X4.here hx rfl (pc0 := 173) (pc' := 180) rfl (hb hby at_173) rfl ((if0 _ _).trans (teq hc72_6).1) (by decide) (by decide) k) ?_
          show Go p e below _ (T4.setTop (mkF m 180 #[.val (.int p1), .val (.int p2), .val (.int p3), .val (.int p4), .val (.int (bz (¬ ((p4 &&& (1 : Int32)) = (0 : Int32))))), .val (.int (((p4.toUInt32 >>> ((1 : Int32) &&& 31).toUInt32).toInt32) &&& (3 : Int32))), .val (.int (bz (¬ ((p4 &&& (8 : Int32)) = (0 : Int32))))), .val .null, .val .null, .val (.ref b3), .unset] []))
          refine go (fun _ k => XS.iconst X4.here hx rfl (hb hby at_180) k) ?_
          show Go p e below _ (T4.setTop (mkF m 181 #[.val (.int p1), .val (.int p2), .val (.int p3), .val (.int p4), .val (.int (bz (¬ ((p4 &&& (1 : Int32)) = (0 : Int32))))), .val (.int (((p4.toUInt32 >>> ((1 : Int32) &&& 31).toUInt32).toInt32) &&& (3 : Int32))), .val (.int (bz (¬ ((p4 &&& (8 : Int32)) = (0 : Int32))))), .val .null, .val .null, .val (.ref b3), .unset] [(.int (0 : Int32))]))
          refine go (fun _ k => XS.istore X4.here hx rfl (hb hby at_181) rfl (l' := #[.val (.int p1), .val (.int p2), .val (.int p3), .val (.int p4), .val (.int (bz (¬ ((p4 &&& (1 : Int32)) = (0 : Int32))))), .val (.int (((p4.toUInt32 >>> ((1 : Int32) &&& 31).toUInt32).toInt32) &&& (3 : Int32))), .val (.int (bz (¬ ((p4 &&& (8 : Int32)) = (0 : Int32))))), .val .null, .val .null, .val (.ref b3), .val (.int (0 : Int32))]) rfl k) ?_
          show Go p e below _ (T4.setTop (mkF m 183 #[.val (.int p1), .val (.int p2), .val (.int p3), .val (.int p4), .val (.int (bz (¬ ((p4 &&& (1 : Int32)) = (0 : Int32))))), .val (.int (((p4.toUInt32 >>> ((1 : Int32) &&& 31).toUInt32).toInt32) &&& (3 : Int32))), .val (.int (bz (¬ ((p4 &&& (8 : Int32)) = (0 : Int32))))), .val .null, .val .null, .val (.ref b3), .val (.int (0 : Int32))] []))
          refine go (fun _ k => XS.aload X4.here hx rfl (hb hby at_183) rfl rfl  k) ?_
          show Go p e below _ (T4.setTop (mkF m 185 #[.val (.int p1), .val (.int p2), .val (.int p3), .val (.int p4), .val (.int (bz (¬ ((p4 &&& (1 : Int32)) = (0 : Int32))))), .val (.int (((p4.toUInt32 >>> ((1 : Int32) &&& 31).toUInt32).toInt32) &&& (3 : Int32))), .val (.int (bz (¬ ((p4 &&& (8 : Int32)) = (0 : Int32))))), .val .null, .val .null, .val (.ref b3), .val (.int (0 : Int32))] [(.ref b3)]))
          have K7 : Keep h0 T4.heap [] := (K5.trans r4_0 (allS (Or.inr sz_b3) all0))
          obtain ⟨cq6, kq6, q6a, q6b, q6c⟩ := isOf hZ rfl r4_1
          obtain ⟨_, _, ⟨T6, Lb6, cn6, sn6⟩, -, X6, ⟨Lc6, hQ6, lq6, yq6, zq6⟩, st6⟩ := X4.virtualBack hx (y := (⟨"com/example/tidemark/tidemark/Option", "takesValue", "()Z"⟩ : MethodName)) (z := (⟨"com/example/tidemark/tidemark/Option", "takesValue", "()Z"⟩ : MethodName)) hown (mvT hZ (hw _ (List.mem_of_getElem? (i := 48) rfl))) (mvT hZ (hw _ (List.mem_of_getElem? (i := 49) rfl))) (notFace_of_selects (args := #[]) (mvT hZ (hw _ (List.mem_of_getElem? (i := 51) rfl)))) (mvT hZ (hw _ (List.mem_of_getElem? (i := 51) rfl))) (mvT hZ (hw _ (List.mem_of_getElem? (i := 50) rfl))) (by decide) (backOf (W := 0) (rmtN l Z a0 hw [] b3 T4.heap n0 (Nat.le_trans Z0 K7.1) r4_1 r4_2) hZ (hw _ (List.mem_of_getElem? (i := 52) rfl)) (hw _ (List.mem_of_getElem? (i := 32) rfl)) (by decide) (by decide)) q6a q6c (g := (mkF m 185 #[.val (.int p1), .val (.int p2), .val (.int p3), .val (.int p4), .val (.int (bz (¬ ((p4 &&& (1 : Int32)) = (0 : Int32))))), .val (.int (((p4.toUInt32 >>> ((1 : Int32) &&& 31).toUInt32).toInt32) &&& (3 : Int32))), .val (.int (bz (¬ ((p4 &&& (8 : Int32)) = (0 : Int32))))), .val .null, .val .null, .val (.ref b3), .val (.int (0 : Int32))] [(.ref b3)])) rfl (by rw [hml]; rfl) (Steps.refl _) (argsL := []) (rest := []) (lenOf pd_9 rfl) rfl (by show 2 * 0 + _ ≤ _; exact Nat.le_of_eq rfl) (hb hby at_185) (fun _ _ => ⟨rfl, rfl, (by decide : 1 + 0 ≤ _), (by decide : 3 + 0 ≤ _)⟩)
          dsimp only [Pt.U, Pt.locs, Pt.cells, Pt.slots] at X6 lq6 yq6 zq6 st6 hQ6
          subst lq6 yq6 zq6
          obtain ⟨rfl, N6q, e6⟩ := hQ6
          have N6 := Fr.app N4 N6q
          skip
          refine go (fun _ k => st6.trans k) ?_
          show Go p e below _ (T6.setTop (mkF m 188 #[.val (.int p1), .val (.int p2), .val (.int p3), .val (.int p4), .val (.int (bz (¬ ((p4 &&& (1 : Int32)) = (0 : Int32))))), .val (.int (((p4.toUInt32 >>> ((1 : Int32) &&& 31).toUInt32).toInt32) &&& (3 : Int32))), .val (.int (bz (¬ ((p4 &&& (8 : Int32)) = (0 : Int32))))), .val .null, .val .null, .val (.ref b3), .val (.int (0 : Int32))] [(.int (0 : Int32))]))
          refine go (fun _ k => XS.iload X6.here hx rfl (hb hby at_188) rfl  k) ?_
          show Go p e below _ (T6.setTop (mkF m 190 #[.val (.int p1), .val (.int p2), .val (.int p3), .val (.int p4), .val (.int (bz (¬ ((p4 &&& (1 : Int32)) = (0 : Int32))))), .val (.int (((p4.toUInt32 >>> ((1 : Int32) &&& 31).toUInt32).toInt32) &&& (3 : Int32))), .val (.int (bz (¬ ((p4 &&& (8 : Int32)) = (0 : Int32))))), .val .null, .val .null, .val (.ref b3), .val (.int (0 : Int32))] [(.int (0 : Int32)), (.int (0 : Int32))]))
          refine go (fun _ k => XS.icmpNo X6.here hx rfl (hb hby at_190) rfl (teq (by decide : (0 : Int32) = (0 : Int32))).2 k) ?_
          show Go p e below _ (T6.setTop (mkF m 193 #[.val (.int p1), .val (.int p2), .val (.int p3), .val (.int p4), .val (.int (bz (¬ ((p4 &&& (1 : Int32)) = (0 : Int32))))), .val (.int (((p4.toUInt32 >>> ((1 : Int32) &&& 31).toUInt32).toInt32) &&& (3 : Int32))), .val (.int (bz (¬ ((p4 &&& (8 : Int32)) = (0 : Int32))))), .val .null, .val .null, .val (.ref b3), .val (.int (0 : Int32))] []))
          refine go (fun _ k => XS.iconst X6.here hx rfl (hb hby at_193) k) ?_
          show Go p e below _ (T6.setTop (mkF m 194 #[.val (.int p1), .val (.int p2), .val (.int p3), .val (.int p4), .val (.int (bz (¬ ((p4 &&& (1 : Int32)) = (0 : Int32))))), .val (.int (((p4.toUInt32 >>> ((1 : Int32) &&& 31).toUInt32).toInt32) &&& (3 : Int32))), .val (.int (bz (¬ ((p4 &&& (8 : Int32)) = (0 : Int32))))), .val .null, .val .null, .val (.ref b3), .val (.int (0 : Int32))] [(.int (1 : Int32))]))
          refine go (fun _ k => XS.goto X6.here hx rfl (pc0 := 194) (pc' := 198) rfl (hb hby at_194) (by decide) (by decide) k) ?_
          show Go p e below _ (T6.setTop (mkF m 198 #[.val (.int p1), .val (.int p2), .val (.int p3), .val (.int p4), .val (.int (bz (¬ ((p4 &&& (1 : Int32)) = (0 : Int32))))), .val (.int (((p4.toUInt32 >>> ((1 : Int32) &&& 31).toUInt32).toInt32) &&& (3 : Int32))), .val (.int (bz (¬ ((p4 &&& (8 : Int32)) = (0 : Int32))))), .val .null, .val .null, .val (.ref b3), .val (.int (0 : Int32))] [(.int (1 : Int32))]))
          obtain ⟨fs, hr, hrun, hended, hEW⟩ := X6.leaveW (vm₁ := s.vm) hS0 (by rw [e6]; exact (Nat.le_trans (Nat.le_trans hk0 E3.1) r4_0.1)) (v := some (.int (1 : Int32))) (fun h => by rw [Bd.returns] at h; cases h)
          refine leafW (T := T6) ⟨fs, retN X6 hx (t := .boolean) Bd.returns (by simp) (hb hby at_198) hr, hrun, hended, hEW⟩ ?_ (by decide) (by decide)
          show Q0 Z p1 p2 p3 p4 cs h0 n0 _ T6.heap _
          rw [e6]
          exact ⟨rfl, N6⟩
        · skip
          refine go (fun _ k => XS.ifYes X0.here hx rfl (pc0 := 72) (pc' := 81) rfl (hb hby at_72) rfl ((if0 _ _).trans (feq hc72_6).2) (by decide) (by decide) k) ?_
          show Go p e below _ (s₁.setTop (mkF m 81 #[.val (.int p1), .val (.int p2), .val (.int p3), .val (.int p4), .val (.int (bz (¬ ((p4 &&& (1 : Int32)) = (0 : Int32))))), .val (.int (((p4.toUInt32 >>> ((1 : Int32) &&& 31).toUInt32).toInt32) &&& (3 : Int32))), .val (.int (bz (¬ ((p4 &&& (8 : Int32)) = (0 : Int32))))), .val .null, .unset, .unset, .unset] []))
          refine go (fun _ k => XS.iload X0.here hx rfl (hb hby at_81) rfl  k) ?_
          show Go p e below _ (s₁.setTop (mkF m 83 #[.val (.int p1), .val (.int p2), .val (.int p3), .val (.int p4), .val (.int (bz (¬ ((p4 &&& (1 : Int32)) = (0 : Int32))))), .val (.int (((p4.toUInt32 >>> ((1 : Int32) &&& 31).toUInt32).toInt32) &&& (3 : Int32))), .val (.int (bz (¬ ((p4 &&& (8 : Int32)) = (0 : Int32))))), .val .null, .unset, .unset, .unset] [(.int (((p4.toUInt32 >>> ((1 : Int32) &&& 31).toUInt32).toInt32) &&& (3 : Int32)))]))
          refine go (fun _ k => XS.iconst X0.here hx rfl (hb hby at_83) k) ?_
          show Go p e below _ (s₁.setTop (mkF m 84 #[.val (.int p1), .val (.int p2), .val (.int p3), .val (.int p4), .val (.int (bz (¬ ((p4 &&& (1 : Int32)) = (0 : Int32))))), .val (.int (((p4.toUInt32 >>> ((1 : Int32) &&& 31).toUInt32).toInt32) &&& (3 : Int32))), .val (.int (bz (¬ ((p4 &&& (8 : Int32)) = (0 : Int32))))), .val .null, .unset, .unset, .unset] [(.int (1 : Int32)), (.int (((p4.toUInt32 >>> ((1 : Int32) &&& 31).toUInt32).toInt32) &&& (3 : Int32)))]))
          by_cases hc84_7 : (((p4.toUInt32 >>> ((1 : Int32) &&& 31).toUInt32).toInt32) &&& (3 : Int32)) = (1 : Int32)
          · skip
            refine go (fun _ k => XS.icmpNo X0.here hx rfl (hb hby at_84) rfl (teq hc84_7).2 k) ?_
            show Go p e below _ (s₁.setTop (mkF m 87 #[.val (.int p1), .val (.int p2), .val (.int p3), .val (.int p4), .val (.int (bz (¬ ((p4 &&& (1 : Int32)) = (0 : Int32))))), .val (.int (((p4.toUInt32 >>> ((1 : Int32) &&& 31).toUInt32).toInt32) &&& (3 : Int32))), .val (.int (bz (¬ ((p4 &&& (8 : Int32)) = (0 : Int32))))), .val .null, .unset, .unset, .unset] []))
            obtain ⟨T8, h8, X8, e8, E8, A8, D8, -, st8⟩ := newO X0 hx hZ hown (hw _ (List.mem_of_getElem? (i := 1) rfl)) (hw _ (List.mem_of_getElem? (i := 2) rfl)) (hw _ (List.mem_of_getElem? (i := 3) rfl)) e0 (g := (mkF m 87 #[.val (.int p1), .val (.int p2), .val (.int p3), .val (.int p4), .val (.int (bz (¬ ((p4 &&& (1 : Int32)) = (0 : Int32))))), .val (.int (((p4.toUInt32 >>> ((1 : Int32) &&& 31).toUInt32).toInt32) &&& (3 : Int32))), .val (.int (bz (¬ ((p4 &&& (8 : Int32)) = (0 : Int32))))), .val .null, .unset, .unset, .unset] [])) rfl (hb hby at_87) (by decide) (by decide)
            obtain ⟨b8, gz8⟩ : ∃ z, z = h0.size := ⟨_, rfl⟩
            rw [← gz8] at A8 D8 st8
            have sz_b8 : h0.size ≤ b8 := Nat.le_trans (Keep.refl h0 []).1 (Nat.le_of_eq gz8.symm)
            have g_b8 : n0 ≤ b8 := Nat.le_trans Z0 sz_b8
            have R9 := R0.trans (CHr.ext E8 R0.1)
            have F_coder_b8 : Fld Z h8 b8 "java/lang/String" "coder" "B" (.int (0 : Int32)) := D8 (Or.inr (hw _ (List.mem_of_getElem? (i := 27) rfl))) (ty := .byte) (by decide)
            have F_value_b8 : Fld Z h8 b8 "java/lang/String" "value" "[B" .null := D8 (Or.inr (hw _ (List.mem_of_getElem? (i := 29) rfl))) (ty := (.array .byte)) (by decide)
            refine go st8 ?_
            show Go p e below _ (T8.setTop (mkF m 90 #[.val (.int p1), .val (.int p2), .val (.int p3), .val (.int p4), .val (.int (bz (¬ ((p4 &&& (1 : Int32)) = (0 : Int32))))), .val (.int (((p4.toUInt32 >>> ((1 : Int32) &&& 31).toUInt32).toInt32) &&& (3 : Int32))), .val (.int (bz (¬ ((p4 &&& (8 : Int32)) = (0 : Int32))))), .val .null, .unset, .unset, .unset] [(.ref b8)]))
            refine go (fun _ k => XS.dup X8.here hx rfl (hb hby at_90) rfl rfl k) ?_
            show Go p e below _ (T8.setTop (mkF m 91 #[.val (.int p1), .val (.int p2), .val (.int p3), .val (.int p4), .val (.int (bz (¬ ((p4 &&& (1 : Int32)) = (0 : Int32))))), .val (.int (((p4.toUInt32 >>> ((1 : Int32) &&& 31).toUInt32).toInt32) &&& (3 : Int32))), .val (.int (bz (¬ ((p4 &&& (8 : Int32)) = (0 : Int32))))), .val .null, .unset, .unset, .unset] [(.ref b8), (.ref b8)]))
            refine go (fun _ k => XS.iconst X8.here hx rfl (hb hby at_91) k) ?_
            show Go p e below _ (T8.setTop (mkF m 92 #[.val (.int p1), .val (.int p2), .val (.int p3), .val (.int p4), .val (.int (bz (¬ ((p4 &&& (1 : Int32)) = (0 : Int32))))), .val (.int (((p4.toUInt32 >>> ((1 : Int32) &&& 31).toUInt32).toInt32) &&& (3 : Int32))), .val (.int (bz (¬ ((p4 &&& (8 : Int32)) = (0 : Int32))))), .val .null, .unset, .unset, .unset] [(.int (0 : Int32)), (.ref b8), (.ref b8)]))
            obtain ⟨T10, h10, ka10, X10, e10, E10, A10, st10⟩ := newP X8 hx hZ (hw _ (List.mem_of_getElem? (i := 0) rfl)) e8 (g := (mkF m 92 #[.val (.int p1), .val (.int p2), .val (.int p3), .val (.int p4), .val (.int (bz (¬ ((p4 &&& (1 : Int32)) = (0 : Int32))))), .val (.int (((p4.toUInt32 >>> ((1 : Int32) &&& 31).toUInt32).toInt32) &&& (3 : Int32))), .val (.int (bz (¬ ((p4 &&& (8 : Int32)) = (0 : Int32))))), .val .null, .unset, .unset, .unset] [(.int (0 : Int32)), (.ref b8), (.ref b8)])) rfl (hb hby at_92) rfl (by decide) (cap := 0) (by decide) (by decide) (by decide) (by decide)
            obtain ⟨b10, gz10⟩ : ∃ z, z = h8.size := ⟨_, rfl⟩
            rw [← gz10] at A10 st10
            have K11 : Keep h0 h8 [] := ((Keep.refl h0 []).ext E8)
            have sz_b10 : h0.size ≤ b10 := Nat.le_trans K11.1 (Nat.le_of_eq gz10.symm)
            have g_b10 : n0 ≤ b10 := Nat.le_trans Z0 sz_b10
            have R12 := R9.trans (CHr.ext E10 R9.1)
            have V_b10 : Arv Z h10 b10 ka10 .char (0 : Int32) [] (.int (0 : Int32)) := Arv.new A10 (by decide)
            refine go st10 ?_
            show Go p e below _ (T10.setTop (mkF m 94 #[.val (.int p1), .val (.int p2), .val (.int p3), .val (.int p4), .val (.int (bz (¬ ((p4 &&& (1 : Int32)) = (0 : Int32))))), .val (.int (((p4.toUInt32 >>> ((1 : Int32) &&& 31).toUInt32).toInt32) &&& (3 : Int32))), .val (.int (bz (¬ ((p4 &&& (8 : Int32)) = (0 : Int32))))), .val .null, .unset, .unset, .unset] [(.ref b10), (.ref b8), (.ref b8)]))
            have K14 : Keep h0 h10 [] := (K11.ext E10)
            obtain ⟨_, _, ⟨T13, Lb13, cn13, sn13⟩, -, X13, hS2_13, hg2_13, ⟨Lc13, hQ13, lq13, yq13, zq13, A13⟩, st13⟩ := X10.specialBackS hx (y := (⟨"java/lang/String", "<init>", "([C)V"⟩ : MethodName)) rfl hown (mvT hZ (hw _ (List.mem_of_getElem? (i := 4) rfl))) (mvT hZ (hw _ (List.mem_of_getElem? (i := 5) rfl))) (mvT hZ (hw _ (List.mem_of_getElem? (i := 6) rfl))) (by decide) (backOfSH (W := 1) (rmc5_0 l Z a0 hw [] b8 b10 (.int (0 : Int32)) ka10 ([]) h10 n0 (Nat.le_trans Z0 K14.1) (A8.ext E10) g_b8 (F_value_b8.ext E10) (F_coder_b8.ext E10) V_b10) hZ (hw _ (List.mem_of_getElem? (i := 6) rfl)) (hw _ (List.mem_of_getElem? (i := 3) rfl)) (by decide) (by decide) (own_EW hw) R12.1) (g := (mkF m 94 #[.val (.int p1), .val (.int p2), .val (.int p3), .val (.int p4), .val (.int (bz (¬ ((p4 &&& (1 : Int32)) = (0 : Int32))))), .val (.int (((p4.toUInt32 >>> ((1 : Int32) &&& 31).toUInt32).toInt32) &&& (3 : Int32))), .val (.int (bz (¬ ((p4 &&& (8 : Int32)) = (0 : Int32))))), .val .null, .unset, .unset, .unset] [(.ref b10), (.ref b8), (.ref b8)])) rfl (by rw [hml]; rfl) (Steps.refl _) (a := b8) (argsL := [(.ref b10)]) (rest := [(.ref b8)]) (lenOf pd_10 rfl) rfl (by show 2 * 0 + _ ≤ _; exact Nat.le_of_eq rfl) (hb hby at_94) (fun _ _ => ⟨rfl, e10, (by decide : 2 + 4 ≤ _), (by decide : 4 + 8 ≤ _)⟩)
            dsimp only [Pt.U, Pt.locs, Pt.cells, Pt.slots] at X13 lq13 yq13 zq13 st13 hQ13 hS2_13 hg2_13 A13
            subst lq13 yq13 zq13
            have hS13 := foldS hS0 (by rw [e10]; exact (Nat.le_trans (Nat.le_trans hk0 E8.1) E10.1)) hS2_13 hg2_13
            have X13 := reS (s := s) (vm0 := s.vm) X13
            have hZ13 := coldZ (vm0 := s.vm) hZ hS2_13
            have hown13 := coldO (vm0 := s.vm) hown hS2_13
            obtain ⟨rfl, N13q, r13_0, r13_1⟩ := hQ13
            have N13 := Fr.app N0 N13q
            have R15 := R12.trans A13
            refine go (fun _ k => st13.trans k) ?_
            show Go p e below _ (T13.setTop (mkF m 97 #[.val (.int p1), .val (.int p2), .val (.int p3), .val (.int p4), .val (.int (bz (¬ ((p4 &&& (1 : Int32)) = (0 : Int32))))), .val (.int (((p4.toUInt32 >>> ((1 : Int32) &&& 31).toUInt32).toInt32) &&& (3 : Int32))), .val (.int (bz (¬ ((p4 &&& (8 : Int32)) = (0 : Int32))))), .val .null, .unset, .unset, .unset] [(.ref b8)]))
            refine go (fun _ k => XS.astore X13.here hx rfl (hb hby at_97) rfl rfl (l' := #[.val (.int p1), .val (.int p2), .val (.int p3), .val (.int p4), .val (.int (bz (¬ ((p4 &&& (1 : Int32)) = (0 : Int32))))), .val (.int (((p4.toUInt32 >>> ((1 : Int32) &&& 31).toUInt32).toInt32) &&& (3 : Int32))), .val (.int (bz (¬ ((p4 &&& (8 : Int32)) = (0 : Int32))))), .val .null, .val (.ref b8), .unset, .unset]) rfl k) ?_
            show Go p e below _ (T13.setTop (mkF m 99 #[.val (.int p1), .val (.int p2), .val (.int p3), .val (.int p4), .val (.int (bz (¬ ((p4 &&& (1 : Int32)) = (0 : Int32))))), .val (.int (((p4.toUInt32 >>> ((1 : Int32) &&& 31).toUInt32).toInt32) &&& (3 : Int32))), .val (.int (bz (¬ ((p4 &&& (8 : Int32)) = (0 : Int32))))), .val .null, .val (.ref b8), .unset, .unset] []))
            refine go (fun _ k => XS.goto X13.here hx rfl (pc0 := 99) (pc' := 156) rfl (hb hby at_99) (by decide) (by decide) k) ?_
            show Go p e below _ (T13.setTop (mkF m 156 #[.val (.int p1), .val (.int p2), .val (.int p3), .val (.int p4), .val (.int (bz (¬ ((p4 &&& (1 : Int32)) = (0 : Int32))))), .val (.int (((p4.toUInt32 >>> ((1 : Int32) &&& 31).toUInt32).toInt32) &&& (3 : Int32))), .val (.int (bz (¬ ((p4 &&& (8 : Int32)) = (0 : Int32))))), .val .null, .val (.ref b8), .unset, .unset] []))
            obtain ⟨T16, h16, X16, e16, E16, A16, D16, -, st16⟩ := newO X13 hx hZ13 hown13 (hw _ (List.mem_of_getElem? (i := 30) rfl)) (hw _ (List.mem_of_getElem? (i := 31) rfl)) (hw _ (List.mem_of_getElem? (i := 32) rfl)) rfl (g := (mkF m 156 #[.val (.int p1), .val (.int p2), .val (.int p3), .val (.int p4), .val (.int (bz (¬ ((p4 &&& (1 : Int32)) = (0 : Int32))))), .val (.int (((p4.toUInt32 >>> ((1 : Int32) &&& 31).toUInt32).toInt32) &&& (3 : Int32))), .val (.int (bz (¬ ((p4 &&& (8 : Int32)) = (0 : Int32))))), .val .null, .val (.ref b8), .unset, .unset] [])) rfl (hb hby at_156) (by decide) (by decide)
            obtain ⟨b16, gz16⟩ : ∃ z, z = T13.heap.size := ⟨_, rfl⟩
            rw [← gz16] at A16 D16 st16
            have K17 : Keep h0 T13.heap [] := (K14.trans r13_0 (allS (Or.inr sz_b8) all0))
            have sz_b16 : h0.size ≤ b16 := Nat.le_trans K17.1 (Nat.le_of_eq gz16.symm)
            have g_b16 : n0 ≤ b16 := Nat.le_trans Z0 sz_b16
            have F_name_b16 : Fld Z h16 b16 "com/example/tidemark/tidemark/Option" "name" "Ljava/lang/String;" .null := D16 (Or.inr (hw _ (List.mem_of_getElem? (i := 43) rfl))) (ty := (.object "java/lang/String")) (by decide)
            have F_value_b16 : Fld Z h16 b16 "com/example/tidemark/tidemark/Option" "value" "Ljava/lang/String;" .null := D16 (Or.inr (hw _ (List.mem_of_getElem? (i := 45) rfl))) (ty := (.object "java/lang/String")) (by decide)
            have F_required_b16 : Fld Z h16 b16 "com/example/tidemark/tidemark/Option" "required" "Z" (.int (0 : Int32)) := D16 (Or.inr (hw _ (List.mem_of_getElem? (i := 47) rfl))) (ty := .boolean) (by decide)
            refine go st16 ?_
            show Go p e below _ (T16.setTop (mkF m 159 #[.val (.int p1), .val (.int p2), .val (.int p3), .val (.int p4), .val (.int (bz (¬ ((p4 &&& (1 : Int32)) = (0 : Int32))))), .val (.int (((p4.toUInt32 >>> ((1 : Int32) &&& 31).toUInt32).toInt32) &&& (3 : Int32))), .val (.int (bz (¬ ((p4 &&& (8 : Int32)) = (0 : Int32))))), .val .null, .val (.ref b8), .unset, .unset] [(.ref b16)]))
            refine go (fun _ k => XS.dup X16.here hx rfl (hb hby at_159) rfl rfl k) ?_
            show Go p e below _ (T16.setTop (mkF m 160 #[.val (.int p1), .val (.int p2), .val (.int p3), .val (.int p4), .val (.int (bz (¬ ((p4 &&& (1 : Int32)) = (0 : Int32))))), .val (.int (((p4.toUInt32 >>> ((1 : Int32) &&& 31).toUInt32).toInt32) &&& (3 : Int32))), .val (.int (bz (¬ ((p4 &&& (8 : Int32)) = (0 : Int32))))), .val .null, .val (.ref b8), .unset, .unset] [(.ref b16), (.ref b16)]))
            refine go (fun _ k => XS.aload X16.here hx rfl (hb hby at_160) rfl rfl  k) ?_
            show Go p e below _ (T16.setTop (mkF m 162 #[.val (.int p1), .val (.int p2), .val (.int p3), .val (.int p4), .val (.int (bz (¬ ((p4 &&& (1 : Int32)) = (0 : Int32))))), .val (.int (((p4.toUInt32 >>> ((1 : Int32) &&& 31).toUInt32).toInt32) &&& (3 : Int32))), .val (.int (bz (¬ ((p4 &&& (8 : Int32)) = (0 : Int32))))), .val .null, .val (.ref b8), .unset, .unset] [.null, (.ref b16), (.ref b16)]))
            refine go (fun _ k => XS.aload X16.here hx rfl (hb hby at_162) rfl rfl  k) ?_
            show Go p e below _ (T16.setTop (mkF m 164 #[.val (.int p1), .val (.int p2), .val (.int p3), .val (.int p4), .val (.int (bz (¬ ((p4 &&& (1 : Int32)) = (0 : Int32))))), .val (.int (((p4.toUInt32 >>> ((1 : Int32) &&& 31).toUInt32).toInt32) &&& (3 : Int32))), .val (.int (bz (¬ ((p4 &&& (8 : Int32)) = (0 : Int32))))), .val .null, .val (.ref b8), .unset, .unset] [(.ref b8), .null, (.ref b16), (.ref b16)]))
            refine go (fun _ k => XS.iload X16.here hx rfl (hb hby at_164) rfl  k) ?_
            show Go p e below _ (T16.setTop (mkF m 166 #[.val (.int p1), .val (.int p2), .val (.int p3), .val (.int p4), .val (.int (bz (¬ ((p4 &&& (1 : Int32)) = (0 : Int32))))), .val (.int (((p4.toUInt32 >>> ((1 : Int32) &&& 31).toUInt32).toInt32) &&& (3 : Int32))), .val (.int (bz (¬ ((p4 &&& (8 : Int32)) = (0 : Int32))))), .val .null, .val (.ref b8), .unset, .unset] [(.int (bz (¬ ((p4 &&& (1 : Int32)) = (0 : Int32))))), (.ref b8), .null, (.ref b16), (.ref b16)]))
            have K19 : Keep h0 h16 [] := (K17.ext E16)
            obtain ⟨_, _, ⟨T18, Lb18, cn18, sn18⟩, -, X18, ⟨Lc18, hQ18, lq18, yq18, zq18⟩, st18⟩ := X16.specialBack hx (y := (⟨"com/example/tidemark/tidemark/Option", "<init>", "(Ljava/lang/String;Ljava/lang/String;Z)V"⟩ : MethodName)) rfl hown13 (mvT hZ13 (hw _ (List.mem_of_getElem? (i := 33) rfl))) (mvT hZ13 (hw _ (List.mem_of_getElem? (i := 34) rfl))) (mvT hZ13 (hw _ (List.mem_of_getElem? (i := 35) rfl))) (by decide) (backOf (W := 1) (rm7 l Z a0 hw [] b16 Value.null (Value.ref b8) (bz (¬ ((p4 &&& (1 : Int32)) = (0 : Int32)))) .null .null (.int (0 : Int32)) h16 n0 (Nat.le_trans Z0 K19.1) (rfl : Value.null.isRef = true) (rfl : (Value.ref b8).isRef = true) A16 g_b16 F_name_b16 F_value_b16 F_required_b16) hZ13 (hw _ (List.mem_of_getElem? (i := 35) rfl)) (hw _ (List.mem_of_getElem? (i := 32) rfl)) (by decide) (by decide)) (g := (mkF m 166 #[.val (.int p1), .val (.int p2), .val (.int p3), .val (.int p4), .val (.int (bz (¬ ((p4 &&& (1 : Int32)) = (0 : Int32))))), .val (.int (((p4.toUInt32 >>> ((1 : Int32) &&& 31).toUInt32).toInt32) &&& (3 : Int32))), .val (.int (bz (¬ ((p4 &&& (8 : Int32)) = (0 : Int32))))), .val .null, .val (.ref b8), .unset, .unset] [(.int (bz (¬ ((p4 &&& (1 : Int32)) = (0 : Int32))))), (.ref b8), .null, (.ref b16), (.ref b16)])) rfl (by rw [hml]; rfl) (Steps.refl _) (a := b16) (argsL := [.null, (.ref b8), (.int (bz (¬ ((p4 &&& (1 : Int32)) = (0 : Int32)))))]) (rest := [(.ref b16)]) (lenOf pd_8 rfl) rfl (by show 2 * 0 + _ ≤ _; exact Nat.le_of_eq rfl) (hb hby at_166) (fun _ _ => ⟨rfl, e16, (by decide : 7 + 0 ≤ _), (by decide : 15 + 0 ≤ _)⟩)
            dsimp only [Pt.U, Pt.locs, Pt.cells, Pt.slots] at X18 lq18 yq18 zq18 st18 hQ18
            subst lq18 yq18 zq18
            obtain ⟨rfl, N18q, r18_0, r18_1, r18_2⟩ := hQ18
            have N18 := Fr.app N13 N18q
            refine go (fun _ k => st18.trans k) ?_
            show Go p e below _ (T18.setTop (mkF m 169 #[.val (.int p1), .val (.int p2), .val (.int p3), .val (.int p4), .val (.int (bz (¬ ((p4 &&& (1 : Int32)) = (0 : Int32))))), .val (.int (((p4.toUInt32 >>> ((1 : Int32) &&& 31).toUInt32).toInt32) &&& (3 : Int32))), .val (.int (bz (¬ ((p4 &&& (8 : Int32)) = (0 : Int32))))), .val .null, .val (.ref b8), .unset, .unset] [(.ref b16)]))
            refine go (fun _ k => XS.astore X18.here hx rfl (hb hby at_169) rfl rfl (l' := #[.val (.int p1), .val (.int p2), .val (.int p3), .val (.int p4), .val (.int (bz (¬ ((p4 &&& (1 : Int32)) = (0 : Int32))))), .val (.int (((p4.toUInt32 >>> ((1 : Int32) &&& 31).toUInt32).toInt32) &&& (3 : Int32))), .val (.int (bz (¬ ((p4 &&& (8 : Int32)) = (0 : Int32))))), .val .null, .val (.ref b8), .val (.ref b16), .unset]) rfl k) ?_
            show Go p e below _ (T18.setTop (mkF m 171 #[.val (.int p1), .val (.int p2), .val (.int p3), .val (.int p4), .val (.int (bz (¬ ((p4 &&& (1 : Int32)) = (0 : Int32))))), .val (.int (((p4.toUInt32 >>> ((1 : Int32) &&& 31).toUInt32).toInt32) &&& (3 : Int32))), .val (.int (bz (¬ ((p4 &&& (8 : Int32)) = (0 : Int32))))), .val .null, .val (.ref b8), .val (.ref b16), .unset] []))
            refine go (fun _ k => XS.iload X18.here hx rfl (hb hby at_171) rfl  k) ?_
            show Go p e below _ (T18.setTop (mkF m 173 #[.val (.int p1), .val (.int p2), .val (.int p3), .val (.int p4), .val (.int (bz (¬ ((p4 &&& (1 : Int32)) = (0 : Int32))))), .val (.int (((p4.toUInt32 >>> ((1 : Int32) &&& 31).toUInt32).toInt32) &&& (3 : Int32))), .val (.int (bz (¬ ((p4 &&& (8 : Int32)) = (0 : Int32))))), .val .null, .val (.ref b8), .val (.ref b16), .unset] [(.int (((p4.toUInt32 >>> ((1 : Int32) &&& 31).toUInt32).toInt32) &&& (3 : Int32)))]))
            refine go (fun _ k => XS.ifNo X18.here hx rfl (hb hby at_173) rfl ((if0 _ _).trans (feq hc72_6).1) k) ?_
            show Go p e below _ (T18.setTop (mkF m 176 #[.val (.int p1), .val (.int p2), .val (.int p3), .val (.int p4), .val (.int (bz (¬ ((p4 &&& (1 : Int32)) = (0 : Int32))))), .val (.int (((p4.toUInt32 >>> ((1 : Int32) &&& 31).toUInt32).toInt32) &&& (3 : Int32))), .val (.int (bz (¬ ((p4 &&& (8 : Int32)) = (0 : Int32))))), .val .null, .val (.ref b8), .val (.ref b16), .unset] []))
            refine go (fun _ k => XS.iconst X18.here hx rfl (hb hby at_176) k) ?_
            show Go p e below _ (T18.setTop (mkF m 177 #[.val (.int p1), .val (.int p2), .val (.int p3), .val (.int p4), .val (.int (bz (¬ ((p4 &&& (1 : Int32)) = (0 : Int32))))), .val (.int (((p4.toUInt32 >>> ((1 : Int32) &&& 31).toUInt32).toInt32) &&& (3 : Int32))), .val (.int (bz (¬ ((p4 &&& (8 : Int32)) = (0 : Int32))))), .val .null, .val (.ref b8), .val (.ref b16), .unset] [(.int (1 : Int32))]))
            refine go (fun _ k => XS.goto X18.here hx rfl (pc0 := 177) (pc' := 181) rfl (hb hby at_177) (by decide) (by decide) k) ?_
            show Go p e below _ (T18.setTop (mkF m 181 #[.val (.int p1), .val (.int p2), .val (.int p3), .val (.int p4), .val (.int (bz (¬ ((p4 &&& (1 : Int32)) = (0 : Int32))))), .val (.int (((p4.toUInt32 >>> ((1 : Int32) &&& 31).toUInt32).toInt32) &&& (3 : Int32))), .val (.int (bz (¬ ((p4 &&& (8 : Int32)) = (0 : Int32))))), .val .null, .val (.ref b8), .val (.ref b16), .unset] [(.int (1 : Int32))]))
            refine go (fun _ k => XS.istore X18.here hx rfl (hb hby at_181) rfl (l' := #[.val (.int p1), .val (.int p2), .val (.int p3), .val (.int p4), .val (.int (bz (¬ ((p4 &&& (1 : Int32)) = (0 : Int32))))), .val (.int (((p4.toUInt32 >>> ((1 : Int32) &&& 31).toUInt32).toInt32) &&& (3 : Int32))), .val (.int (bz (¬ ((p4 &&& (8 : Int32)) = (0 : Int32))))), .val .null, .val (.ref b8), .val (.ref b16), .val (.int (1 : Int32))]) rfl k) ?_
            show Go p e below _ (T18.setTop (mkF m 183 #[.val (.int p1), .val (.int p2), .val (.int p3), .val (.int p4), .val (.int (bz (¬ ((p4 &&& (1 : Int32)) = (0 : Int32))))), .val (.int (((p4.toUInt32 >>> ((1 : Int32) &&& 31).toUInt32).toInt32) &&& (3 : Int32))), .val (.int (bz (¬ ((p4 &&& (8 : Int32)) = (0 : Int32))))), .val .null, .val (.ref b8), .val (.ref b16), .val (.int (1 : Int32))] []))
            refine go (fun _ k => XS.aload X18.here hx rfl (hb hby at_183) rfl rfl  k) ?_
            show Go p e below _ (T18.setTop (mkF m 185 #[.val (.int p1), .val (.int p2), .val (.int p3), .val (.int p4), .val (.int (bz (¬ ((p4 &&& (1 : Int32)) = (0 : Int32))))), .val (.int (((p4.toUInt32 >>> ((1 : Int32) &&& 31).toUInt32).toInt32) &&& (3 : Int32))), .val (.int (bz (¬ ((p4 &&& (8 : Int32)) = (0 : Int32))))), .val .null, .val (.ref b8), .val (.ref b16), .val (.int (1 : Int32))] [(.ref b16)]))
            have K21 : Keep h0 T18.heap [] := (K19.trans r18_0 (allS (Or.inr sz_b16) all0))
            obtain ⟨cq20, kq20, q20a, q20b, q20c⟩ := isOf hZ13 rfl r18_1
            obtain ⟨_, _, ⟨T20, Lb20, cn20, sn20⟩, -, X20, ⟨Lc20, hQ20, lq20, yq20, zq20⟩, st20⟩ := X18.virtualBack hx (y := (⟨"com/example/tidemark/tidemark/Option", "takesValue", "()Z"⟩ : MethodName)) (z := (⟨"com/example/tidemark/tidemark/Option", "takesValue", "()Z"⟩ : MethodName)) hown13 (mvT hZ13 (hw _ (List.mem_of_getElem? (i := 48) rfl))) (mvT hZ13 (hw _ (List.mem_of_getElem? (i := 49) rfl))) (notFace_of_selects (args := #[]) (mvT hZ13 (hw _ (List.mem_of_getElem? (i := 51) rfl)))) (mvT hZ13 (hw _ (List.mem_of_getElem? (i := 51) rfl))) (mvT hZ13 (hw _ (List.mem_of_getElem? (i := 50) rfl))) (by decide) (backOf (W := 0) (rmtR l Z a0 hw [] b16 b8 T18.heap n0 (Nat.le_trans Z0 K21.1) r18_1 r18_2) hZ13 (hw _ (List.mem_of_getElem? (i := 52) rfl)) (hw _ (List.mem_of_getElem? (i := 32) rfl)) (by decide) (by decide)) q20a q20c (g := (mkF m 185 #[.val (.int p1), .val (.int p2), .val (.int p3), .val (.int p4), .val (.int (bz (¬ ((p4 &&& (1 : Int32)) = (0 : Int32))))), .val (.int (((p4.toUInt32 >>> ((1 : Int32) &&& 31).toUInt32).toInt32) &&& (3 : Int32))), .val (.int (bz (¬ ((p4 &&& (8 : Int32)) = (0 : Int32))))), .val .null, .val (.ref b8), .val (.ref b16), .val (.int (1 : Int32))] [(.ref b16)])) rfl (by rw [hml]; rfl) (Steps.refl _) (argsL := []) (rest := []) (lenOf pd_9 rfl) rfl (by show 2 * 0 + _ ≤ _; exact Nat.le_of_eq rfl) (hb hby at_185) (fun _ _ => ⟨rfl, rfl, (by decide : 7 + 0 ≤ _), (by decide : 15 + 0 ≤ _)⟩)
            dsimp only [Pt.U, Pt.locs, Pt.cells, Pt.slots] at X20 lq20 yq20 zq20 st20 hQ20
            subst lq20 yq20 zq20
            obtain ⟨rfl, N20q, e20⟩ := hQ20
            have N20 := Fr.app N18 N20q
            skip
            refine go (fun _ k => st20.trans k) ?_
            show Go p e below _ (T20.setTop (mkF m 188 #[.val (.int p1), .val (.int p2), .val (.int p3), .val (.int p4), .val (.int (bz (¬ ((p4 &&& (1 : Int32)) = (0 : Int32))))), .val (.int (((p4.toUInt32 >>> ((1 : Int32) &&& 31).toUInt32).toInt32) &&& (3 : Int32))), .val (.int (bz (¬ ((p4 &&& (8 : Int32)) = (0 : Int32))))), .val .null, .val (.ref b8), .val (.ref b16), .val (.int (1 : Int32))] [(.int (1 : Int32))]))
            refine go (fun _ k => XS.iload X20.here hx rfl (hb hby at_188) rfl  k) ?_
            show Go p e below _ (T20.setTop (mkF m 190 #[.val (.int p1), .val (.int p2), .val (.int p3), .val (.int p4), .val (.int (bz (¬ ((p4 &&& (1 : Int32)) = (0 : Int32))))), .val (.int (((p4.toUInt32 >>> ((1 : Int32) &&& 31).toUInt32).toInt32) &&& (3 : Int32))), .val (.int (bz (¬ ((p4 &&& (8 : Int32)) = (0 : Int32))))), .val .null, .val (.ref b8), .val (.ref b16), .val (.int (1 : Int32))] [(.int (1 : Int32)), (.int (1 : Int32))]))
            refine go (fun _ k => XS.icmpNo X20.here hx rfl (hb hby at_190) rfl (teq (by decide : (1 : Int32) = (1 : Int32))).2 k) ?_
            show Go p e below _ (T20.setTop (mkF m 193 #[.val (.int p1), .val (.int p2), .val (.int p3), .val (.int p4), .val (.int (bz (¬ ((p4 &&& (1 : Int32)) = (0 : Int32))))), .val (.int (((p4.toUInt32 >>> ((1 : Int32) &&& 31).toUInt32).toInt32) &&& (3 : Int32))), .val (.int (bz (¬ ((p4 &&& (8 : Int32)) = (0 : Int32))))), .val .null, .val (.ref b8), .val (.ref b16), .val (.int (1 : Int32))] []))
            refine go (fun _ k => XS.iconst X20.here hx rfl (hb hby at_193) k) ?_
            show Go p e below _ (T20.setTop (mkF m 194 #[.val (.int p1), .val (.int p2), .val (.int p3), .val (.int p4), .val (.int (bz (¬ ((p4 &&& (1 : Int32)) = (0 : Int32))))), .val (.int (((p4.toUInt32 >>> ((1 : Int32) &&& 31).toUInt32).toInt32) &&& (3 : Int32))), .val (.int (bz (¬ ((p4 &&& (8 : Int32)) = (0 : Int32))))), .val .null, .val (.ref b8), .val (.ref b16), .val (.int (1 : Int32))] [(.int (1 : Int32))]))
            refine go (fun _ k => XS.goto X20.here hx rfl (pc0 := 194) (pc' := 198) rfl (hb hby at_194) (by decide) (by decide) k) ?_
            show Go p e below _ (T20.setTop (mkF m 198 #[.val (.int p1), .val (.int p2), .val (.int p3), .val (.int p4), .val (.int (bz (¬ ((p4 &&& (1 : Int32)) = (0 : Int32))))), .val (.int (((p4.toUInt32 >>> ((1 : Int32) &&& 31).toUInt32).toInt32) &&& (3 : Int32))), .val (.int (bz (¬ ((p4 &&& (8 : Int32)) = (0 : Int32))))), .val .null, .val (.ref b8), .val (.ref b16), .val (.int (1 : Int32))] [(.int (1 : Int32))]))
            obtain ⟨fs, hr, hrun, hended, hEW⟩ := X20.leaveW (vm₁ := T13.vm) hS13 (by rw [e20]; exact (Nat.le_trans (Nat.le_trans (Nat.le_refl _) E16.1) r18_0.1)) (v := some (.int (1 : Int32))) (fun h => by rw [Bd.returns] at h; cases h)
            refine leafW (T := T20) ⟨fs, retN X20 hx (t := .boolean) Bd.returns (by simp) (hb hby at_198) hr, hrun, hended, hEW⟩ ?_ (by decide) (by decide)
            show Q0 Z p1 p2 p3 p4 cs h0 n0 _ T20.heap _
            rw [e20]
            exact ⟨rfl, N20⟩
          · skip
            refine go (fun _ k => XS.icmpYes X0.here hx rfl (pc0 := 84) (pc' := 102) rfl (hb hby at_84) rfl (feq hc84_7).2 (by decide) (by decide) k) ?_
            show Go p e below _ (s₁.setTop (mkF m 102 #[.val (.int p1), .val (.int p2), .val (.int p3), .val (.int p4), .val (.int (bz (¬ ((p4 &&& (1 : Int32)) = (0 : Int32))))), .val (.int (((p4.toUInt32 >>> ((1 : Int32) &&& 31).toUInt32).toInt32) &&& (3 : Int32))), .val (.int (bz (¬ ((p4 &&& (8 : Int32)) = (0 : Int32))))), .val .null, .unset, .unset, .unset] []))
            refine go (fun _ k => XS.iload X0.here hx rfl (hb hby at_102) rfl  k) ?_
            show Go p e below _ (s₁.setTop (mkF m 104 #[.val (.int p1), .val (.int p2), .val (.int p3), .val (.int p4), .val (.int (bz (¬ ((p4 &&& (1 : Int32)) = (0 : Int32))))), .val (.int (((p4.toUInt32 >>> ((1 : Int32) &&& 31).toUInt32).toInt32) &&& (3 : Int32))), .val (.int (bz (¬ ((p4 &&& (8 : Int32)) = (0 : Int32))))), .val .null, .unset, .unset, .unset] [(.int (((p4.toUInt32 >>> ((1 : Int32) &&& 31).toUInt32).toInt32) &&& (3 : Int32)))]))
            refine go (fun _ k => XS.iconst X0.here hx rfl (hb hby at_104) k) ?_
            show Go p e below _ (s₁.setTop (mkF m 105 #[.val (.int p1), .val (.int p2), .val (.int p3), .val (.int p4), .val (.int (bz (¬ ((p4 &&& (1 : Int32)) = (0 : Int32))))), .val (.int (((p4.toUInt32 >>> ((1 : Int32) &&& 31).toUInt32).toInt32) &&& (3 : Int32))), .val (.int (bz (¬ ((p4 &&& (8 : Int32)) = (0 : Int32))))), .val .null, .unset, .unset, .unset] [(.int (2 : Int32)), (.int (((p4.toUInt32 >>> ((1 : Int32) &&& 31).toUInt32).toInt32) &&& (3 : Int32)))]))
            by_cases hc105_8 : (((p4.toUInt32 >>> ((1 : Int32) &&& 31).toUInt32).toInt32) &&& (3 : Int32)) = (2 : Int32)
            · skip
              refine go (fun _ k => XS.icmpNo X0.here hx rfl (hb hby at_105) rfl (teq hc105_8).2 k) ?_
              show Go p e below _ (s₁.setTop (mkF m 108 #[.val (.int p1), .val (.int p2), .val (.int p3), .val (.int p4), .val (.int (bz (¬ ((p4 &&& (1 : Int32)) = (0 : Int32))))), .val (.int (((p4.toUInt32 >>> ((1 : Int32) &&& 31).toUInt32).toInt32) &&& (3 : Int32))), .val (.int (bz (¬ ((p4 &&& (8 : Int32)) = (0 : Int32))))), .val .null, .unset, .unset, .unset] []))
              refine go (fun _ k => XS.iloadN X0.here hx rfl (hb hby at_108) rfl  k) ?_
              show Go p e below _ (s₁.setTop (mkF m 109 #[.val (.int p1), .val (.int p2), .val (.int p3), .val (.int p4), .val (.int (bz (¬ ((p4 &&& (1 : Int32)) = (0 : Int32))))), .val (.int (((p4.toUInt32 >>> ((1 : Int32) &&& 31).toUInt32).toInt32) &&& (3 : Int32))), .val (.int (bz (¬ ((p4 &&& (8 : Int32)) = (0 : Int32))))), .val .null, .unset, .unset, .unset] [(.int p2)]))
              refine go (fun _ k => XS.sipush X0.here hx rfl (hb hby at_109) k) ?_
              show Go p e below _ (s₁.setTop (mkF m 112 #[.val (.int p1), .val (.int p2), .val (.int p3), .val (.int p4), .val (.int (bz (¬ ((p4 &&& (1 : Int32)) = (0 : Int32))))), .val (.int (((p4.toUInt32 >>> ((1 : Int32) &&& 31).toUInt32).toInt32) &&& (3 : Int32))), .val (.int (bz (¬ ((p4 &&& (8 : Int32)) = (0 : Int32))))), .val .null, .unset, .unset, .unset] [(.int (255 : Int32)), (.int p2)]))
              refine go (fun _ k => XS.iand X0.here hx rfl (hb hby at_112) rfl k) ?_
              show Go p e below _ (s₁.setTop (mkF m 113 #[.val (.int p1), .val (.int p2), .val (.int p3), .val (.int p4), .val (.int (bz (¬ ((p4 &&& (1 : Int32)) = (0 : Int32))))), .val (.int (((p4.toUInt32 >>> ((1 : Int32) &&& 31).toUInt32).toInt32) &&& (3 : Int32))), .val (.int (bz (¬ ((p4 &&& (8 : Int32)) = (0 : Int32))))), .val .null, .unset, .unset, .unset] [(.int (p2 &&& (255 : Int32)))]))
              refine go (fun _ k => XS.i2c X0.here hx rfl (hb hby at_113) rfl k) ?_
              show Go p e below _ (s₁.setTop (mkF m 114 #[.val (.int p1), .val (.int p2), .val (.int p3), .val (.int p4), .val (.int (bz (¬ ((p4 &&& (1 : Int32)) = (0 : Int32))))), .val (.int (((p4.toUInt32 >>> ((1 : Int32) &&& 31).toUInt32).toInt32) &&& (3 : Int32))), .val (.int (bz (¬ ((p4 &&& (8 : Int32)) = (0 : Int32))))), .val .null, .unset, .unset, .unset] [(.int ((p2 &&& (255 : Int32)).toUInt32.toUInt16.toUInt32.toInt32))]))
              obtain ⟨_, _, ⟨T22, Lb22, cn22, sn22⟩, -, X22, ⟨Lc22, hQ22, lq22, yq22, zq22⟩, st22⟩ := Jvm.LawKit.callS X0 hx (y := (⟨"java/lang/String", "valueOf", "(C)Ljava/lang/String;"⟩ : MethodName)) hown (mvT hZ (hw _ (List.mem_of_getElem? (i := 56) rfl))) (mvT hZ (hw _ (List.mem_of_getElem? (i := 57) rfl))) (mvT hZ (hw _ (List.mem_of_getElem? (i := 3) rfl))) (mvT hZ (hw _ (List.mem_of_getElem? (i := 58) rfl))) (by decide) (backOf (W := 0) (rm10 l Z a0 hw [] ((p2 &&& (255 : Int32)).toUInt32.toUInt16.toUInt32.toInt32) cs h0 n0 (Nat.le_trans Z0 (Keep.refl h0 []).1) O0 S_COMPACT_STRINGS (by assumption : ¬ (cs = (0 : Int32))) (own_255 p2 : ¬ ((255 : Int32) < ((p2 &&& (255 : Int32)).toUInt32.toUInt16.toUInt32.toInt32)))) hZ (hw _ (List.mem_of_getElem? (i := 58) rfl)) (hw _ (List.mem_of_getElem? (i := 3) rfl)) (by decide) (by decide)) (g := (mkF m 114 #[.val (.int p1), .val (.int p2), .val (.int p3), .val (.int p4), .val (.int (bz (¬ ((p4 &&& (1 : Int32)) = (0 : Int32))))), .val (.int (((p4.toUInt32 >>> ((1 : Int32) &&& 31).toUInt32).toInt32) &&& (3 : Int32))), .val (.int (bz (¬ ((p4 &&& (8 : Int32)) = (0 : Int32))))), .val .null, .unset, .unset, .unset] [(.int ((p2 &&& (255 : Int32)).toUInt32.toUInt16.toUInt32.toInt32))])) rfl (by rw [hml]; rfl) (argsL := [(.int ((p2 &&& (255 : Int32)).toUInt32.toUInt16.toUInt32.toInt32))]) (rest := []) (lenOf pd_11 rfl) rfl (by show 2 * 0 + _ ≤ _; exact Nat.le_of_eq rfl) (hb hby at_114) (fun _ _ => ⟨rfl, e0, (by decide : 0 + 2 ≤ _), (by decide : 0 + 5 ≤ _)⟩)
              dsimp only [Pt.U, Pt.locs, Pt.cells, Pt.slots] at X22 lq22 yq22 zq22 st22 hQ22
              subst lq22 yq22 zq22
              obtain ⟨b_22, t_22, kt_22, rfl, N22q, r22_0, r22_1, r22_2, r22_3, r22_4, r22_5, r22_6⟩ := hQ22
              have N22 := Fr.app N0 N22q
              have sz_b_22 : h0.size ≤ b_22 := Nat.le_trans (Keep.refl h0 []).1 r22_1
              have g_b_22 : n0 ≤ b_22 := Nat.le_trans Z0 sz_b_22
              have sz_t_22 : h0.size ≤ t_22 := Nat.le_trans (Keep.refl h0 []).1 r22_2
              have g_t_22 : n0 ≤ t_22 := Nat.le_trans Z0 sz_t_22
              skip
              refine go st22 ?_
              show Go p e below _ (T22.setTop (mkF m 117 #[.val (.int p1), .val (.int p2), .val (.int p3), .val (.int p4), .val (.int (bz (¬ ((p4 &&& (1 : Int32)) = (0 : Int32))))), .val (.int (((p4.toUInt32 >>> ((1 : Int32) &&& 31).toUInt32).toInt32) &&& (3 : Int32))), .val (.int (bz (¬ ((p4 &&& (8 : Int32)) = (0 : Int32))))), .val .null, .unset, .unset, .unset] [(.ref b_22)]))
              refine go (fun _ k => XS.astore X22.here hx rfl (hb hby at_117) rfl rfl (l' := #[.val (.int p1), .val (.int p2), .val (.int p3), .val (.int p4), .val (.int (bz (¬ ((p4 &&& (1 : Int32)) = (0 : Int32))))), .val (.int (((p4.toUInt32 >>> ((1 : Int32) &&& 31).toUInt32).toInt32) &&& (3 : Int32))), .val (.int (bz (¬ ((p4 &&& (8 : Int32)) = (0 : Int32))))), .val .null, .val (.ref b_22), .unset, .unset]) rfl k) ?_
              show Go p e below _ (T22.setTop (mkF m 119 #[.val (.int p1), .val (.int p2), .val (.int p3), .val (.int p4), .val (.int (bz (¬ ((p4 &&& (1 : Int32)) = (0 : Int32))))), .val (.int (((p4.toUInt32 >>> ((1 : Int32) &&& 31).toUInt32).toInt32) &&& (3 : Int32))), .val (.int (bz (¬ ((p4 &&& (8 : Int32)) = (0 : Int32))))), .val .null, .val (.ref b_22), .unset, .unset] []))
              refine go (fun _ k => XS.goto X22.here hx rfl (pc0 := 119) (pc' := 156) rfl (hb hby at_119) (by decide) (by decide) k) ?_
              show Go p e below _ (T22.setTop (mkF m 156 #[.val (.int p1), .val (.int p2), .val (.int p3), .val (.int p4), .val (.int (bz (¬ ((p4 &&& (1 : Int32)) = (0 : Int32))))), .val (.int (((p4.toUInt32 >>> ((1 : Int32) &&& 31).toUInt32).toInt32) &&& (3 : Int32))), .val (.int (bz (¬ ((p4 &&& (8 : Int32)) = (0 : Int32))))), .val .null, .val (.ref b_22), .unset, .unset] []))
              obtain ⟨T23, h23, X23, e23, E23, A23, D23, -, st23⟩ := newO X22 hx hZ hown (hw _ (List.mem_of_getElem? (i := 30) rfl)) (hw _ (List.mem_of_getElem? (i := 31) rfl)) (hw _ (List.mem_of_getElem? (i := 32) rfl)) rfl (g := (mkF m 156 #[.val (.int p1), .val (.int p2), .val (.int p3), .val (.int p4), .val (.int (bz (¬ ((p4 &&& (1 : Int32)) = (0 : Int32))))), .val (.int (((p4.toUInt32 >>> ((1 : Int32) &&& 31).toUInt32).toInt32) &&& (3 : Int32))), .val (.int (bz (¬ ((p4 &&& (8 : Int32)) = (0 : Int32))))), .val .null, .val (.ref b_22), .unset, .unset] [])) rfl (hb hby at_156) (by decide) (by decide)
              obtain ⟨b23, gz23⟩ : ∃ z, z = T22.heap.size := ⟨_, rfl⟩
              rw [← gz23] at A23 D23 st23
              have K24 : Keep h0 T22.heap [] := ((Keep.refl h0 []).trans r22_0 all0)
              have sz_b23 : h0.size ≤ b23 := Nat.le_trans K24.1 (Nat.le_of_eq gz23.symm)
              have g_b23 : n0 ≤ b23 := Nat.le_trans Z0 sz_b23
              have F_name_b23 : Fld Z h23 b23 "com/example/tidemark/tidemark/Option" "name" "Ljava/lang/String;" .null := D23 (Or.inr (hw _ (List.mem_of_getElem? (i := 43) rfl))) (ty := (.object "java/lang/String")) (by decide)
              have F_value_b23 : Fld Z h23 b23 "com/example/tidemark/tidemark/Option" "value" "Ljava/lang/String;" .null := D23 (Or.inr (hw _ (List.mem_of_getElem? (i := 45) rfl))) (ty := (.object "java/lang/String")) (by decide)
              have F_required_b23 : Fld Z h23 b23 "com/example/tidemark/tidemark/Option" "required" "Z" (.int (0 : Int32)) := D23 (Or.inr (hw _ (List.mem_of_getElem? (i := 47) rfl))) (ty := .boolean) (by decide)
              refine go st23 ?_
              show Go p e below _ (T23.setTop (mkF m 159 #[.val (.int p1), .val (.int p2), .val (.int p3), .val (.int p4), .val (.int (bz (¬ ((p4 &&& (1 : Int32)) = (0 : Int32))))), .val (.int (((p4.toUInt32 >>> ((1 : Int32) &&& 31).toUInt32).toInt32) &&& (3 : Int32))), .val (.int (bz (¬ ((p4 &&& (8 : Int32)) = (0 : Int32))))), .val .null, .val (.ref b_22), .unset, .unset] [(.ref b23)]))
              refine go (fun _ k => XS.dup X23.here hx rfl (hb hby at_159) rfl rfl k) ?_
              show Go p e below _ (T23.setTop (mkF m 160 #[.val (.int p1), .val (.int p2), .val (.int p3), .val (.int p4), .val (.int (bz (¬ ((p4 &&& (1 : Int32)) = (0 : Int32))))), .val (.int (((p4.toUInt32 >>> ((1 : Int32) &&& 31).toUInt32).toInt32) &&& (3 : Int32))), .val (.int (bz (¬ ((p4 &&& (8 : Int32)) = (0 : Int32))))), .val .null, .val (.ref b_22), .unset, .unset] [(.ref b23), (.ref b23)]))
              refine go (fun _ k => XS.aload X23.here hx rfl (hb hby at_160) rfl rfl  k) ?_
              show Go p e below _ (T23.setTop (mkF m 162 #[.val (.int p1), .val (.int p2), .val (.int p3), .val (.int p4), .val (.int (bz (¬ ((p4 &&& (1 : Int32)) = (0 : Int32))))), .val (.int (((p4.toUInt32 >>> ((1 : Int32) &&& 31).toUInt32).toInt32) &&& (3 : Int32))), .val (.int (bz (¬ ((p4 &&& (8 : Int32)) = (0 : Int32))))), .val .null, .val (.ref b_22), .unset, .unset] [.null, (.ref b23), (.ref b23)]))
              refine go (fun _ k => XS.aload X23.here hx rfl (hb hby at_162) rfl rfl  k) ?_
              show Go p e below _ (T23.setTop (mkF m 164 #[.val (.int p1), .val (.int p2), .val (.int p3), .val (.int p4), .val (.int (bz (¬ ((p4 &&& (1 : Int32)) = (0 : Int32))))), .val (.int (((p4.toUInt32 >>> ((1 : Int32) &&& 31).toUInt32).toInt32) &&& (3 : Int32))), .val (.int (bz (¬ ((p4 &&& (8 : Int32)) = (0 : Int32))))), .val .null, .val (.ref b_22), .unset, .unset] [(.ref b_22), .null, (.ref b23), (.ref b23)]))
              refine go (fun _ k => XS.iload X23.here hx rfl (hb hby at_164) rfl  k) ?_
              show Go p e below _ (T23.setTop (mkF m 166 #[.val (.int p1), .val (.int p2), .val (.int p3), .val (.int p4), .val (.int (bz (¬ ((p4 &&& (1 : Int32)) = (0 : Int32))))), .val (.int (((p4.toUInt32 >>> ((1 : Int32) &&& 31).toUInt32).toInt32) &&& (3 : Int32))), .val (.int (bz (¬ ((p4 &&& (8 : Int32)) = (0 : Int32))))), .val .null, .val (.ref b_22), .unset, .unset] [(.int (bz (¬ ((p4 &&& (1 : Int32)) = (0 : Int32))))), (.ref b_22), .null, (.ref b23), (.ref b23)]))
              have K26 : Keep h0 h23 [] := (K24.ext E23)
              obtain ⟨_, _, ⟨T25, Lb25, cn25, sn25⟩, -, X25, ⟨Lc25, hQ25, lq25, yq25, zq25⟩, st25⟩ := X23.specialBack hx (y := (⟨"com/example/tidemark/tidemark/Option", "<init>", "(Ljava/lang/String;Ljava/lang/String;Z)V"⟩ : MethodName)) rfl hown (mvT hZ (hw _ (List.mem_of_getElem? (i := 33) rfl))) (mvT hZ (hw _ (List.mem_of_getElem? (i := 34) rfl))) (mvT hZ (hw _ (List.mem_of_getElem? (i := 35) rfl))) (by decide) (backOf (W := 1) (rm7 l Z a0 hw [] b23 Value.null (Value.ref b_22) (bz (¬ ((p4 &&& (1 : Int32)) = (0 : Int32)))) .null .null (.int (0 : Int32)) h23 n0 (Nat.le_trans Z0 K26.1) (rfl : Value.null.isRef = true) (rfl : (Value.ref b_22).isRef = true) A23 g_b23 F_name_b23 F_value_b23 F_required_b23) hZ (hw _ (List.mem_of_getElem? (i := 35) rfl)) (hw _ (List.mem_of_getElem? (i := 32) rfl)) (by decide) (by decide)) (g := (mkF m 166 #[.val (.int p1), .val (.int p2), .val (.int p3), .val (.int p4), .val (.int (bz (¬ ((p4 &&& (1 : Int32)) = (0 : Int32))))), .val (.int (((p4.toUInt32 >>> ((1 : Int32) &&& 31).toUInt32).toInt32) &&& (3 : Int32))), .val (.int (bz (¬ ((p4 &&& (8 : Int32)) = (0 : Int32))))), .val .null, .val (.ref b_22), .unset, .unset] [(.int (bz (¬ ((p4 &&& (1 : Int32)) = (0 : Int32))))), (.ref b_22), .null, (.ref b23), (.ref b23)])) rfl (by rw [hml]; rfl) (Steps.refl _) (a := b23) (argsL := [.null, (.ref b_22), (.int (bz (¬ ((p4 &&& (1 : Int32)) = (0 : Int32)))))]) (rest := [(.ref b23)]) (lenOf pd_8 rfl) rfl (by show 2 * 0 + _ ≤ _; exact Nat.le_of_eq rfl) (hb hby at_166) (fun _ _ => ⟨rfl, e23, (by decide : 3 + 0 ≤ _), (by decide : 8 + 0 ≤ _)⟩)
              dsimp only [Pt.U, Pt.locs, Pt.cells, Pt.slots] at X25 lq25 yq25 zq25 st25 hQ25
              subst lq25 yq25 zq25
              obtain ⟨rfl, N25q, r25_0, r25_1, r25_2⟩ := hQ25
              have N25 := Fr.app N22 N25q
              refine go (fun _ k => st25.trans k) ?_
              show Go p e below _ (T25.setTop (mkF m 169 #[.val (.int p1), .val (.int p2), .val (.int p3), .val (.int p4), .val (.int (bz (¬ ((p4 &&& (1 : Int32)) = (0 : Int32))))), .val (.int (((p4.toUInt32 >>> ((1 : Int32) &&& 31).toUInt32).toInt32) &&& (3 : Int32))), .val (.int (bz (¬ ((p4 &&& (8 : Int32)) = (0 : Int32))))), .val .null, .val (.ref b_22), .unset, .unset] [(.ref b23)]))
              refine go (fun _ k => XS.astore X25.here hx rfl (hb hby at_169) rfl rfl (l' := #[.val (.int p1), .val (.int p2), .val (.int p3), .val (.int p4), .val (.int (bz (¬ ((p4 &&& (1 : Int32)) = (0 : Int32))))), .val (.int (((p4.toUInt32 >>> ((1 : Int32) &&& 31).toUInt32).toInt32) &&& (3 : Int32))), .val (.int (bz (¬ ((p4 &&& (8 : Int32)) = (0 : Int32))))), .val .null, .val (.ref b_22), .val (.ref b23), .unset]) rfl k) ?_
              show Go p e below _ (T25.setTop (mkF m 171 #[.val (.int p1), .val (.int p2), .val (.int p3), .val (.int p4), .val (.int (bz (¬ ((p4 &&& (1 : Int32)) = (0 : Int32))))), .val (.int (((p4.toUInt32 >>> ((1 : Int32) &&& 31).toUInt32).toInt32) &&& (3 : Int32))), .val (.int (bz (¬ ((p4 &&& (8 : Int32)) = (0 : Int32))))), .val .null, .val (.ref b_22), .val (.ref b23), .unset] []))
              refine go (fun _ k => XS.iload X25.here hx rfl (hb hby at_171) rfl  k) ?_
              show Go p e below _ (T25.setTop (mkF m 173 #[.val (.int p1), .val (.int p2), .val (.int p3), .val (.int p4), .val (.int (bz (¬ ((p4 &&& (1 : Int32)) = (0 : Int32))))), .val (.int (((p4.toUInt32 >>> ((1 : Int32) &&& 31).toUInt32).toInt32) &&& (3 : Int32))), .val (.int (bz (¬ ((p4 &&& (8 : Int32)) = (0 : Int32))))), .val .null, .val (.ref b_22), .val (.ref b23), .unset] [(.int (((p4.toUInt32 >>> ((1 : Int32) &&& 31).toUInt32).toInt32) &&& (3 : Int32)))]))
              refine go (fun _ k => XS.ifNo X25.here hx rfl (hb hby at_173) rfl ((if0 _ _).trans (feq hc72_6).1) k) ?_
              show Go p e below _ (T25.setTop (mkF m 176 #[.val (.int p1), .val (.int p2), .val (.int p3), .val (.int p4), .val (.int (bz (¬ ((p4 &&& (1 : Int32)) = (0 : Int32))))), .val (.int (((p4.toUInt32 >>> ((1 : Int32) &&& 31).toUInt32).toInt32) &&& (3 : Int32))), .val (.int (bz (¬ ((p4 &&& (8 : Int32)) = (0 : Int32))))), .val .null, .val (.ref b_22), .val (.ref b23), .unset] []))
              refine go (fun _ k => XS.iconst X25.here hx rfl (hb hby at_176) k) ?_
              show Go p e below _ (T25.setTop (mkF m 177 #[.val (.int p1), .val (.int p2), .val (.int p3), .val (.int p4), .val (.int (bz (¬ ((p4 &&& (1 : Int32)) = (0 : Int32))))), .val (.int (((p4.toUInt32 >>> ((1 : Int32) &&& 31).toUInt32).toInt32) &&& (3 : Int32))), .val (.int (bz (¬ ((p4 &&& (8 : Int32)) = (0 : Int32))))), .val .null, .val (.ref b_22), .val (.ref b23), .unset] [(.int (1 : Int32))]))
              refine go (fun _ k => XS.goto X25.here hx rfl (pc0 := 177) (pc' := 181) rfl (hb hby at_177) (by decide) (by decide) k) ?_
              show Go p e below _ (T25.setTop (mkF m 181 #[.val (.int p1), .val (.int p2), .val (.int p3), .val (.int p4), .val (.int (bz (¬ ((p4 &&& (1 : Int32)) = (0 : Int32))))), .val (.int (((p4.toUInt32 >>> ((1 : Int32) &&& 31).toUInt32).toInt32) &&& (3 : Int32))), .val (.int (bz (¬ ((p4 &&& (8 : Int32)) = (0 : Int32))))), .val .null, .val (.ref b_22), .val (.ref b23), .unset] [(.int (1 : Int32))]))
              refine go (fun _ k => XS.istore X25.here hx rfl (hb hby at_181) rfl (l' := #[.val (.int p1), .val (.int p2), .val (.int p3), .val (.int p4), .val (.int (bz (¬ ((p4 &&& (1 : Int32)) = (0 : Int32))))), .val (.int (((p4.toUInt32 >>> ((1 : Int32) &&& 31).toUInt32).toInt32) &&& (3 : Int32))), .val (.int (bz (¬ ((p4 &&& (8 : Int32)) = (0 : Int32))))), .val .null, .val (.ref b_22), .val (.ref b23), .val (.int (1 : Int32))]) rfl k) ?_
              show Go p e below _ (T25.setTop (mkF m 183 #[.val (.int p1), .val (.int p2), .val (.int p3), .val (.int p4), .val (.int (bz (¬ ((p4 &&& (1 : Int32)) = (0 : Int32))))), .val (.int (((p4.toUInt32 >>> ((1 : Int32) &&& 31).toUInt32).toInt32) &&& (3 : Int32))), .val (.int (bz (¬ ((p4 &&& (8 : Int32)) = (0 : Int32))))), .val .null, .val (.ref b_22), .val (.ref b23), .val (.int (1 : Int32))] []))
              refine go (fun _ k => XS.aload X25.here hx rfl (hb hby at_183) rfl rfl  k) ?_
              show Go p e below _ (T25.setTop (mkF m 185 #[.val (.int p1), .val (.int p2), .val (.int p3), .val (.int p4), .val (.int (bz (¬ ((p4 &&& (1 : Int32)) = (0 : Int32))))), .val (.int (((p4.toUInt32 >>> ((1 : Int32) &&& 31).toUInt32).toInt32) &&& (3 : Int32))), .val (.int (bz (¬ ((p4 &&& (8 : Int32)) = (0 : Int32))))), .val .null, .val (.ref b_22), .val (.ref b23), .val (.int (1 : Int32))] [(.ref b23)]))
              have K28 : Keep h0 T25.heap [] := (K26.trans r25_0 (allS (Or.inr sz_b23) all0))
              obtain ⟨cq27, kq27, q27a, q27b, q27c⟩ := isOf hZ rfl r25_1
              obtain ⟨_, _, ⟨T27, Lb27, cn27, sn27⟩, -, X27, ⟨Lc27, hQ27, lq27, yq27, zq27⟩, st27⟩ := X25.virtualBack hx (y := (⟨"com/example/tidemark/tidemark/Option", "takesValue", "()Z"⟩ : MethodName)) (z := (⟨"com/example/tidemark/tidemark/Option", "takesValue", "()Z"⟩ : MethodName)) hown (mvT hZ (hw _ (List.mem_of_getElem? (i := 48) rfl))) (mvT hZ (hw _ (List.mem_of_getElem? (i := 49) rfl))) (notFace_of_selects (args := #[]) (mvT hZ (hw _ (List.mem_of_getElem? (i := 51) rfl)))) (mvT hZ (hw _ (List.mem_of_getElem? (i := 51) rfl))) (mvT hZ (hw _ (List.mem_of_getElem? (i := 50) rfl))) (by decide) (backOf (W := 0) (rmtR l Z a0 hw [] b23 b_22 T25.heap n0 (Nat.le_trans Z0 K28.1) r25_1 r25_2) hZ (hw _ (List.mem_of_getElem? (i := 52) rfl)) (hw _ (List.mem_of_getElem? (i := 32) rfl)) (by decide) (by decide)) q27a q27c (g := (mkF m 185 #[.val (.int p1), .val (.int p2), .val (.int p3), .val (.int p4), .val (.int (bz (¬ ((p4 &&& (1 : Int32)) = (0 : Int32))))), .val (.int (((p4.toUInt32 >>> ((1 : Int32) &&& 31).toUInt32).toInt32) &&& (3 : Int32))), .val (.int (bz (¬ ((p4 &&& (8 : Int32)) = (0 : Int32))))), .val .null, .val (.ref b_22), .val (.ref b23), .val (.int (1 : Int32))] [(.ref b23)])) rfl (by rw [hml]; rfl) (Steps.refl _) (argsL := []) (rest := []) (lenOf pd_9 rfl) rfl (by show 2 * 0 + _ ≤ _; exact Nat.le_of_eq rfl) (hb hby at_185) (fun _ _ => ⟨rfl, rfl, (by decide : 3 + 0 ≤ _), (by decide : 8 + 0 ≤ _)⟩)
              dsimp only [Pt.U, Pt.locs, Pt.cells, Pt.slots] at X27 lq27 yq27 zq27 st27 hQ27
              subst lq27 yq27 zq27
              obtain ⟨rfl, N27q, e27⟩ := hQ27
              have N27 := Fr.app N25 N27q
              skip
              refine go (fun _ k => st27.trans k) ?_
              show Go p e below _ (T27.setTop (mkF m 188 #[.val (.int p1), .val (.int p2), .val (.int p3), .val (.int p4), .val (.int (bz (¬ ((p4 &&& (1 : Int32)) = (0 : Int32))))), .val (.int (((p4.toUInt32 >>> ((1 : Int32) &&& 31).toUInt32).toInt32) &&& (3 : Int32))), .val (.int (bz (¬ ((p4 &&& (8 : Int32)) = (0 : Int32))))), .val .null, .val (.ref b_22), .val (.ref b23), .val (.int (1 : Int32))] [(.int (1 : Int32))]))
              refine go (fun _ k => XS.iload X27.here hx rfl (hb hby at_188) rfl  k) ?_
              show Go p e below _ (T27.setTop (mkF m 190 #[.val (.int p1), .val (.int p2), .val (.int p3), .val (.int p4), .val (.int (bz (¬ ((p4 &&& (1 : Int32)) = (0 : Int32))))), .val (.int (((p4.toUInt32 >>> ((1 : Int32) &&& 31).toUInt32).toInt32) &&& (3 : Int32))), .val (.int (bz (¬ ((p4 &&& (8 : Int32)) = (0 : Int32))))), .val .null, .val (.ref b_22), .val (.ref b23), .val (.int (1 : Int32))] [(.int (1 : Int32)), (.int (1 : Int32))]))
              refine go (fun _ k => XS.icmpNo X27.here hx rfl (hb hby at_190) rfl (teq (by decide : (1 : Int32) = (1 : Int32))).2 k) ?_
              show Go p e below _ (T27.setTop (mkF m 193 #[.val (.int p1), .val (.int p2), .val (.int p3), .val (.int p4), .val (.int (bz (¬ ((p4 &&& (1 : Int32)) = (0 : Int32))))), .val (.int (((p4.toUInt32 >>> ((1 : Int32) &&& 31).toUInt32).toInt32) &&& (3 : Int32))), .val (.int (bz (¬ ((p4 &&& (8 : Int32)) = (0 : Int32))))), .val .null, .val (.ref b_22), .val (.ref b23), .val (.int (1 : Int32))] []))
              refine go (fun _ k => XS.iconst X27.here hx rfl (hb hby at_193) k) ?_
              show Go p e below _ (T27.setTop (mkF m 194 #[.val (.int p1), .val (.int p2), .val (.int p3), .val (.int p4), .val (.int (bz (¬ ((p4 &&& (1 : Int32)) = (0 : Int32))))), .val (.int (((p4.toUInt32 >>> ((1 : Int32) &&& 31).toUInt32).toInt32) &&& (3 : Int32))), .val (.int (bz (¬ ((p4 &&& (8 : Int32)) = (0 : Int32))))), .val .null, .val (.ref b_22), .val (.ref b23), .val (.int (1 : Int32))] [(.int (1 : Int32))]))
              refine go (fun _ k => XS.goto X27.here hx rfl (pc0 := 194) (pc' := 198) rfl (hb hby at_194) (by decide) (by decide) k) ?_
              show Go p e below _ (T27.setTop (mkF m 198 #[.val (.int p1), .val (.int p2), .val (.int p3), .val (.int p4), .val (.int (bz (¬ ((p4 &&& (1 : Int32)) = (0 : Int32))))), .val (.int (((p4.toUInt32 >>> ((1 : Int32) &&& 31).toUInt32).toInt32) &&& (3 : Int32))), .val (.int (bz (¬ ((p4 &&& (8 : Int32)) = (0 : Int32))))), .val .null, .val (.ref b_22), .val (.ref b23), .val (.int (1 : Int32))] [(.int (1 : Int32))]))
              obtain ⟨fs, hr, hrun, hended, hEW⟩ := X27.leaveW (vm₁ := s.vm) hS0 (by rw [e27]; exact (Nat.le_trans (Nat.le_trans (Nat.le_trans hk0 r22_0.1) E23.1) r25_0.1)) (v := some (.int (1 : Int32))) (fun h => by rw [Bd.returns] at h; cases h)
              refine leafW (T := T27) ⟨fs, retN X27 hx (t := .boolean) Bd.returns (by simp) (hb hby at_198) hr, hrun, hended, hEW⟩ ?_ (by decide) (by decide)
              show Q0 Z p1 p2 p3 p4 cs h0 n0 _ T27.heap _
              rw [e27]
              exact ⟨rfl, N27⟩
            · skip
              refine go (fun _ k => XS.icmpYes X0.here hx rfl (pc0 := 105) (pc' := 122) rfl (hb hby at_105) rfl (feq hc105_8).2 (by decide) (by decide) k) ?_
              show Go p e below _ (s₁.setTop (mkF m 122 #[.val (.int p1), .val (.int p2), .val (.int p3), .val (.int p4), .val (.int (bz (¬ ((p4 &&& (1 : Int32)) = (0 : Int32))))), .val (.int (((p4.toUInt32 >>> ((1 : Int32) &&& 31).toUInt32).toInt32) &&& (3 : Int32))), .val (.int (bz (¬ ((p4 &&& (8 : Int32)) = (0 : Int32))))), .val .null, .unset, .unset, .unset] []))
              refine go (fun _ k => XS.iconst X0.here hx rfl (hb hby at_122) k) ?_
              show Go p e below _ (s₁.setTop (mkF m 123 #[.val (.int p1), .val (.int p2), .val (.int p3), .val (.int p4), .val (.int (bz (¬ ((p4 &&& (1 : Int32)) = (0 : Int32))))), .val (.int (((p4.toUInt32 >>> ((1 : Int32) &&& 31).toUInt32).toInt32) &&& (3 : Int32))), .val (.int (bz (¬ ((p4 &&& (8 : Int32)) = (0 : Int32))))), .val .null, .unset, .unset, .unset] [(.int (2 : Int32))]))
              obtain ⟨T29, h29, ka29, X29, e29, E29, A29, st29⟩ := newP X0 hx hZ (hw _ (List.mem_of_getElem? (i := 0) rfl)) e0 (g := (mkF m 123 #[.val (.int p1), .val (.int p2), .val (.int p3), .val (.int p4), .val (.int (bz (¬ ((p4 &&& (1 : Int32)) = (0 : Int32))))), .val (.int (((p4.toUInt32 >>> ((1 : Int32) &&& 31).toUInt32).toInt32) &&& (3 : Int32))), .val (.int (bz (¬ ((p4 &&& (8 : Int32)) = (0 : Int32))))), .val .null, .unset, .unset, .unset] [(.int (2 : Int32))])) rfl (hb hby at_123) rfl (by decide) (cap := 2) (by decide) (by decide) (by decide) (by decide)
              obtain ⟨b29, gz29⟩ : ∃ z, z = h0.size := ⟨_, rfl⟩
              rw [← gz29] at A29 st29
              have sz_b29 : h0.size ≤ b29 := Nat.le_trans (Keep.refl h0 []).1 (Nat.le_of_eq gz29.symm)
              have g_b29 : n0 ≤ b29 := Nat.le_trans Z0 sz_b29
              have V_b29 : Arv Z h29 b29 ka29 .char (2 : Int32) [(.int (0 : Int32)), (.int (0 : Int32))] (.int (0 : Int32)) := (Arv.new A29 (by decide)).pad (pad_rep [] (.int (0 : Int32)) 2)
              refine go st29 ?_
              show Go p e below _ (T29.setTop (mkF m 125 #[.val (.int p1), .val (.int p2), .val (.int p3), .val (.int p4), .val (.int (bz (¬ ((p4 &&& (1 : Int32)) = (0 : Int32))))), .val (.int (((p4.toUInt32 >>> ((1 : Int32) &&& 31).toUInt32).toInt32) &&& (3 : Int32))), .val (.int (bz (¬ ((p4 &&& (8 : Int32)) = (0 : Int32))))), .val .null, .unset, .unset, .unset] [(.ref b29)]))
              refine go (fun _ k => XS.dup X29.here hx rfl (hb hby at_125) rfl rfl k) ?_
              show Go p e below _ (T29.setTop (mkF m 126 #[.val (.int p1), .val (.int p2), .val (.int p3), .val (.int p4), .val (.int (bz (¬ ((p4 &&& (1 : Int32)) = (0 : Int32))))), .val (.int (((p4.toUInt32 >>> ((1 : Int32) &&& 31).toUInt32).toInt32) &&& (3 : Int32))), .val (.int (bz (¬ ((p4 &&& (8 : Int32)) = (0 : Int32))))), .val .null, .unset, .unset, .unset] [(.ref b29), (.ref b29)]))
              refine go (fun _ k => XS.iconst X29.here hx rfl (hb hby at_126) k) ?_
              show Go p e below _ (T29.setTop (mkF m 127 #[.val (.int p1), .val (.int p2), .val (.int p3), .val (.int p4), .val (.int (bz (¬ ((p4 &&& (1 : Int32)) = (0 : Int32))))), .val (.int (((p4.toUInt32 >>> ((1 : Int32) &&& 31).toUInt32).toInt32) &&& (3 : Int32))), .val (.int (bz (¬ ((p4 &&& (8 : Int32)) = (0 : Int32))))), .val .null, .unset, .unset, .unset] [(.int (0 : Int32)), (.ref b29), (.ref b29)]))
              refine go (fun _ k => XS.iloadN X29.here hx rfl (hb hby at_127) rfl  k) ?_
              show Go p e below _ (T29.setTop (mkF m 128 #[.val (.int p1), .val (.int p2), .val (.int p3), .val (.int p4), .val (.int (bz (¬ ((p4 &&& (1 : Int32)) = (0 : Int32))))), .val (.int (((p4.toUInt32 >>> ((1 : Int32) &&& 31).toUInt32).toInt32) &&& (3 : Int32))), .val (.int (bz (¬ ((p4 &&& (8 : Int32)) = (0 : Int32))))), .val .null, .unset, .unset, .unset] [(.int p2), (.int (0 : Int32)), (.ref b29), (.ref b29)]))
              refine go (fun _ k => XS.sipush X29.here hx rfl (hb hby at_128) k) ?_
              show Go p e below _ (T29.setTop (mkF m 131 #[.val (.int p1), .val (.int p2), .val (.int p3), .val (.int p4), .val (.int (bz (¬ ((p4 &&& (1 : Int32)) = (0 : Int32))))), .val (.int (((p4.toUInt32 >>> ((1 : Int32) &&& 31).toUInt32).toInt32) &&& (3 : Int32))), .val (.int (bz (¬ ((p4 &&& (8 : Int32)) = (0 : Int32))))), .val .null, .unset, .unset, .unset] [(.int (255 : Int32)), (.int p2), (.int (0 : Int32)), (.ref b29), (.ref b29)]))
              refine go (fun _ k => XS.iand X29.here hx rfl (hb hby at_131) rfl k) ?_
              show Go p e below _ (T29.setTop (mkF m 132 #[.val (.int p1), .val (.int p2), .val (.int p3), .val (.int p4), .val (.int (bz (¬ ((p4 &&& (1 : Int32)) = (0 : Int32))))), .val (.int (((p4.toUInt32 >>> ((1 : Int32) &&& 31).toUInt32).toInt32) &&& (3 : Int32))), .val (.int (bz (¬ ((p4 &&& (8 : Int32)) = (0 : Int32))))), .val .null, .unset, .unset, .unset] [(.int (p2 &&& (255 : Int32))), (.int (0 : Int32)), (.ref b29), (.ref b29)]))
              refine go (fun _ k => XS.i2c X29.here hx rfl (hb hby at_132) rfl k) ?_
              show Go p e below _ (T29.setTop (mkF m 133 #[.val (.int p1), .val (.int p2), .val (.int p3), .val (.int p4), .val (.int (bz (¬ ((p4 &&& (1 : Int32)) = (0 : Int32))))), .val (.int (((p4.toUInt32 >>> ((1 : Int32) &&& 31).toUInt32).toInt32) &&& (3 : Int32))), .val (.int (bz (¬ ((p4 &&& (8 : Int32)) = (0 : Int32))))), .val .null, .unset, .unset, .unset] [(.int ((p2 &&& (255 : Int32)).toUInt32.toUInt16.toUInt32.toInt32)), (.int (0 : Int32)), (.ref b29), (.ref b29)]))
              obtain ⟨cl30, Ar30, qa30, Sa30, Ma30, Ha30, Ga30⟩ := id V_b29
              have hin30 : ¬ ((0 : Int32) < 0 ∨ cl30.slots.size ≤ ((0 : Int32)).toNatClampNeg) := inb_of Sa30 ⟨by decide, by decide⟩
              obtain ⟨T30, h30, X30, e30, W30, st30⟩ := stC X29 hx hZ e29 Ar30 (j := (0 : Int32)) hin30 (g := (mkF m 133 #[.val (.int p1), .val (.int p2), .val (.int p3), .val (.int p4), .val (.int (bz (¬ ((p4 &&& (1 : Int32)) = (0 : Int32))))), .val (.int (((p4.toUInt32 >>> ((1 : Int32) &&& 31).toUInt32).toInt32) &&& (3 : Int32))), .val (.int (bz (¬ ((p4 &&& (8 : Int32)) = (0 : Int32))))), .val .null, .unset, .unset, .unset] [(.int ((p2 &&& (255 : Int32)).toUInt32.toUInt16.toUInt32.toInt32)), (.int (0 : Int32)), (.ref b29), (.ref b29)])) rfl rfl (hb hby at_133)
              have V30 := Arv.set Ar30 qa30 Sa30 Ma30 Ha30 Ga30 (fits_nar_char _) W30 0 rfl (Nat.le_of_ble_eq_true rfl)
              have V_b29_30 : Arv Z h30 b29 ka29 .char (2 : Int32) ([(.int (nar .char ((p2 &&& (255 : Int32)).toUInt32.toUInt16.toUInt32.toInt32))), (.int (0 : Int32))]) (.int (0 : Int32)) := V30
              have N30 := Fr.snoc X30 N0 g_b29
              refine go st30 ?_
              show Go p e below _ (T30.setTop (mkF m 134 #[.val (.int p1), .val (.int p2), .val (.int p3), .val (.int p4), .val (.int (bz (¬ ((p4 &&& (1 : Int32)) = (0 : Int32))))), .val (.int (((p4.toUInt32 >>> ((1 : Int32) &&& 31).toUInt32).toInt32) &&& (3 : Int32))), .val (.int (bz (¬ ((p4 &&& (8 : Int32)) = (0 : Int32))))), .val .null, .unset, .unset, .unset] [(.ref b29)]))
              refine go (fun _ k => XS.dup X30.here hx rfl (hb hby at_134) rfl rfl k) ?_
              show Go p e below _ (T30.setTop (mkF m 135 #[.val (.int p1), .val (.int p2), .val (.int p3), .val (.int p4), .val (.int (bz (¬ ((p4 &&& (1 : Int32)) = (0 : Int32))))), .val (.int (((p4.toUInt32 >>> ((1 : Int32) &&& 31).toUInt32).toInt32) &&& (3 : Int32))), .val (.int (bz (¬ ((p4 &&& (8 : Int32)) = (0 : Int32))))), .val .null, .unset, .unset, .unset] [(.ref b29), (.ref b29)]))
              refine go (fun _ k => XS.iconst X30.here hx rfl (hb hby at_135) k) ?_
              show Go p e below _ (T30.setTop (mkF m 136 #[.val (.int p1), .val (.int p2), .val (.int p3), .val (.int p4), .val (.int (bz (¬ ((p4 &&& (1 : Int32)) = (0 : Int32))))), .val (.int (((p4.toUInt32 >>> ((1 : Int32) &&& 31).toUInt32).toInt32) &&& (3 : Int32))), .val (.int (bz (¬ ((p4 &&& (8 : Int32)) = (0 : Int32))))), .val .null, .unset, .unset, .unset] [(.int (1 : Int32)), (.ref b29), (.ref b29)]))
              refine go (fun _ k => XS.iloadN X30.here hx rfl (hb hby at_136) rfl  k) ?_
              show Go p e below _ (T30.setTop (mkF m 137 #[.val (.int p1), .val (.int p2), .val (.int p3), .val (.int p4), .val (.int (bz (¬ ((p4 &&& (1 : Int32)) = (0 : Int32))))), .val (.int (((p4.toUInt32 >>> ((1 : Int32) &&& 31).toUInt32).toInt32) &&& (3 : Int32))), .val (.int (bz (¬ ((p4 &&& (8 : Int32)) = (0 : Int32))))), .val .null, .unset, .unset, .unset] [(.int p3), (.int (1 : Int32)), (.ref b29), (.ref b29)]))
              refine go (fun _ k => XS.sipush X30.here hx rfl (hb hby at_137) k) ?_
              show Go p e below _ (T30.setTop (mkF m 140 #[.val (.int p1), .val (.int p2), .val (.int p3), .val (.int p4), .val (.int (bz (¬ ((p4 &&& (1 : Int32)) = (0 : Int32))))), .val (.int (((p4.toUInt32 >>> ((1 : Int32) &&& 31).toUInt32).toInt32) &&& (3 : Int32))), .val (.int (bz (¬ ((p4 &&& (8 : Int32)) = (0 : Int32))))), .val .null, .unset, .unset, .unset] [(.int (255 : Int32)), (.int p3), (.int (1 : Int32)), (.ref b29), (.ref b29)]))
              refine go (fun _ k => XS.iand X30.here hx rfl (hb hby at_140) rfl k) ?_
              show Go p e below _ (T30.setTop (mkF m 141 #[.val (.int p1), .val (.int p2), .val (.int p3), .val (.int p4), .val (.int (bz (¬ ((p4 &&& (1 : Int32)) = (0 : Int32))))), .val (.int (((p4.toUInt32 >>> ((1 : Int32) &&& 31).toUInt32).toInt32) &&& (3 : Int32))), .val (.int (bz (¬ ((p4 &&& (8 : Int32)) = (0 : Int32))))), .val .null, .unset, .unset, .unset] [(.int (p3 &&& (255 : Int32))), (.int (1 : Int32)), (.ref b29), (.ref b29)]))
              refine go (fun _ k => XS.i2c X30.here hx rfl (hb hby at_141) rfl k) ?_
              show Go p e below _ (T30.setTop (mkF m 142 #[.val (.int p1), .val (.int p2), .val (.int p3), .val (.int p4), .val (.int (bz (¬ ((p4 &&& (1 : Int32)) = (0 : Int32))))), .val (.int (((p4.toUInt32 >>> ((1 : Int32) &&& 31).toUInt32).toInt32) &&& (3 : Int32))), .val (.int (bz (¬ ((p4 &&& (8 : Int32)) = (0 : Int32))))), .val .null, .unset, .unset, .unset] [(.int ((p3 &&& (255 : Int32)).toUInt32.toUInt16.toUInt32.toInt32)), (.int (1 : Int32)), (.ref b29), (.ref b29)]))
              obtain ⟨cl31, Ar31, qa31, Sa31, Ma31, Ha31, Ga31⟩ := id V_b29_30
              have hin31 : ¬ ((1 : Int32) < 0 ∨ cl31.slots.size ≤ ((1 : Int32)).toNatClampNeg) := inb_of Sa31 ⟨by decide, by decide⟩
              obtain ⟨T31, h31, X31, e31, W31, st31⟩ := stC X30 hx hZ e30 Ar31 (j := (1 : Int32)) hin31 (g := (mkF m 142 #[.val (.int p1), .val (.int p2), .val (.int p3), .val (.int p4), .val (.int (bz (¬ ((p4 &&& (1 : Int32)) = (0 : Int32))))), .val (.int (((p4.toUInt32 >>> ((1 : Int32) &&& 31).toUInt32).toInt32) &&& (3 : Int32))), .val (.int (bz (¬ ((p4 &&& (8 : Int32)) = (0 : Int32))))), .val .null, .unset, .unset, .unset] [(.int ((p3 &&& (255 : Int32)).toUInt32.toUInt16.toUInt32.toInt32)), (.int (1 : Int32)), (.ref b29), (.ref b29)])) rfl rfl (hb hby at_142)
              have V31 := Arv.set Ar31 qa31 Sa31 Ma31 Ha31 Ga31 (fits_nar_char _) W31 1 rfl (Nat.le_of_ble_eq_true rfl)
              have V_b29_31 : Arv Z h31 b29 ka29 .char (2 : Int32) ([(.int (nar .char ((p2 &&& (255 : Int32)).toUInt32.toUInt16.toUInt32.toInt32))), (.int (nar .char ((p3 &&& (255 : Int32)).toUInt32.toUInt16.toUInt32.toInt32)))]) (.int (0 : Int32)) := V31
              have N31 := Fr.snoc X31 N30 g_b29
              refine go st31 ?_
              show Go p e below _ (T31.setTop (mkF m 143 #[.val (.int p1), .val (.int p2), .val (.int p3), .val (.int p4), .val (.int (bz (¬ ((p4 &&& (1 : Int32)) = (0 : Int32))))), .val (.int (((p4.toUInt32 >>> ((1 : Int32) &&& 31).toUInt32).toInt32) &&& (3 : Int32))), .val (.int (bz (¬ ((p4 &&& (8 : Int32)) = (0 : Int32))))), .val .null, .unset, .unset, .unset] [(.ref b29)]))
              refine go (fun _ k => XS.astore X31.here hx rfl (hb hby at_143) rfl rfl (l' := #[.val (.int p1), .val (.int p2), .val (.int p3), .val (.int p4), .val (.int (bz (¬ ((p4 &&& (1 : Int32)) = (0 : Int32))))), .val (.int (((p4.toUInt32 >>> ((1 : Int32) &&& 31).toUInt32).toInt32) &&& (3 : Int32))), .val (.int (bz (¬ ((p4 &&& (8 : Int32)) = (0 : Int32))))), .val .null, .unset, .val (.ref b29), .unset]) rfl k) ?_
              show Go p e below _ (T31.setTop (mkF m 145 #[.val (.int p1), .val (.int p2), .val (.int p3), .val (.int p4), .val (.int (bz (¬ ((p4 &&& (1 : Int32)) = (0 : Int32))))), .val (.int (((p4.toUInt32 >>> ((1 : Int32) &&& 31).toUInt32).toInt32) &&& (3 : Int32))), .val (.int (bz (¬ ((p4 &&& (8 : Int32)) = (0 : Int32))))), .val .null, .unset, .val (.ref b29), .unset] []))
              obtain ⟨T32, h32, X32, e32, E32, A32, D32, -, st32⟩ := newO X31 hx hZ hown (hw _ (List.mem_of_getElem? (i := 1) rfl)) (hw _ (List.mem_of_getElem? (i := 2) rfl)) (hw _ (List.mem_of_getElem? (i := 3) rfl)) e31 (g := (mkF m 145 #[.val (.int p1), .val (.int p2), .val (.int p3), .val (.int p4), .val (.int (bz (¬ ((p4 &&& (1 : Int32)) = (0 : Int32))))), .val (.int (((p4.toUInt32 >>> ((1 : Int32) &&& 31).toUInt32).toInt32) &&& (3 : Int32))), .val (.int (bz (¬ ((p4 &&& (8 : Int32)) = (0 : Int32))))), .val .null, .unset, .val (.ref b29), .unset] [])) rfl (hb hby at_145) (by decide) (by decide)
              obtain ⟨b32, gz32⟩ : ∃ z, z = h31.size := ⟨_, rfl⟩
              rw [← gz32] at A32 D32 st32
              have K33 : Keep h0 h31 [] := ((((Keep.refl h0 []).ext E29).wr W30 (Or.inr sz_b29)).wr W31 (Or.inr sz_b29))
              have sz_b32 : h0.size ≤ b32 := Nat.le_trans K33.1 (Nat.le_of_eq gz32.symm)
              have g_b32 : n0 ≤ b32 := Nat.le_trans Z0 sz_b32
              have F_coder_b32 : Fld Z h32 b32 "java/lang/String" "coder" "B" (.int (0 : Int32)) := D32 (Or.inr (hw _ (List.mem_of_getElem? (i := 27) rfl))) (ty := .byte) (by decide)
              have F_value_b32 : Fld Z h32 b32 "java/lang/String" "value" "[B" .null := D32 (Or.inr (hw _ (List.mem_of_getElem? (i := 29) rfl))) (ty := (.array .byte)) (by decide)
              refine go st32 ?_
              show Go p e below _ (T32.setTop (mkF m 148 #[.val (.int p1), .val (.int p2), .val (.int p3), .val (.int p4), .val (.int (bz (¬ ((p4 &&& (1 : Int32)) = (0 : Int32))))), .val (.int (((p4.toUInt32 >>> ((1 : Int32) &&& 31).toUInt32).toInt32) &&& (3 : Int32))), .val (.int (bz (¬ ((p4 &&& (8 : Int32)) = (0 : Int32))))), .val .null, .unset, .val (.ref b29), .unset] [(.ref b32)]))
              refine go (fun _ k => XS.dup X32.here hx rfl (hb hby at_148) rfl rfl k) ?_
              show Go p e below _ (T32.setTop (mkF m 149 #[.val (.int p1), .val (.int p2), .val (.int p3), .val (.int p4), .val (.int (bz (¬ ((p4 &&& (1 : Int32)) = (0 : Int32))))), .val (.int (((p4.toUInt32 >>> ((1 : Int32) &&& 31).toUInt32).toInt32) &&& (3 : Int32))), .val (.int (bz (¬ ((p4 &&& (8 : Int32)) = (0 : Int32))))), .val .null, .unset, .val (.ref b29), .unset] [(.ref b32), (.ref b32)]))
              refine go (fun _ k => XS.aload X32.here hx rfl (hb hby at_149) rfl rfl  k) ?_
              show Go p e below _ (T32.setTop (mkF m 151 #[.val (.int p1), .val (.int p2), .val (.int p3), .val (.int p4), .val (.int (bz (¬ ((p4 &&& (1 : Int32)) = (0 : Int32))))), .val (.int (((p4.toUInt32 >>> ((1 : Int32) &&& 31).toUInt32).toInt32) &&& (3 : Int32))), .val (.int (bz (¬ ((p4 &&& (8 : Int32)) = (0 : Int32))))), .val .null, .unset, .val (.ref b29), .unset] [(.ref b29), (.ref b32), (.ref b32)]))
              have K35 : Keep h0 h32 [] := (K33.ext E32)
              obtain ⟨_, _, ⟨T34, Lb34, cn34, sn34⟩, -, X34, ⟨Lc34, hQ34, lq34, yq34, zq34⟩, st34⟩ := X32.specialBack hx (y := (⟨"java/lang/String", "<init>", "([C)V"⟩ : MethodName)) rfl hown (mvT hZ (hw _ (List.mem_of_getElem? (i := 4) rfl))) (mvT hZ (hw _ (List.mem_of_getElem? (i := 5) rfl))) (mvT hZ (hw _ (List.mem_of_getElem? (i := 6) rfl))) (by decide) (backOf (W := 1) (rmc5_2 l Z a0 hw [] b32 b29 .null (.int (0 : Int32)) ka29 cs (nar .char ((p2 &&& (255 : Int32)).toUInt32.toUInt16.toUInt32.toInt32)) (nar .char ((p3 &&& (255 : Int32)).toUInt32.toUInt16.toUInt32.toInt32)) h32 n0 (Nat.le_trans Z0 K35.1) ((((O0.ext E29).wr W30 g_b29).wr W31 g_b29).ext E32) S_COMPACT_STRINGS (by assumption : ¬ (cs = (0 : Int32))) A32 g_b32 F_value_b32 F_coder_b32 (V_b29_31.ext E32) (own_255c p2 : ¬ ((255 : Int32) < (nar .char ((p2 &&& (255 : Int32)).toUInt32.toUInt16.toUInt32.toInt32)))) (own_255c p3 : ¬ ((255 : Int32) < (nar .char ((p3 &&& (255 : Int32)).toUInt32.toUInt16.toUInt32.toInt32))))) hZ (hw _ (List.mem_of_getElem? (i := 6) rfl)) (hw _ (List.mem_of_getElem? (i := 3) rfl)) (by decide) (by decide)) (g := (mkF m 151 #[.val (.int p1), .val (.int p2), .val (.int p3), .val (.int p4), .val (.int (bz (¬ ((p4 &&& (1 : Int32)) = (0 : Int32))))), .val (.int (((p4.toUInt32 >>> ((1 : Int32) &&& 31).toUInt32).toInt32) &&& (3 : Int32))), .val (.int (bz (¬ ((p4 &&& (8 : Int32)) = (0 : Int32))))), .val .null, .unset, .val (.ref b29), .unset] [(.ref b29), (.ref b32), (.ref b32)])) rfl (by rw [hml]; rfl) (Steps.refl _) (a := b32) (argsL := [(.ref b29)]) (rest := [(.ref b32)]) (lenOf pd_10 rfl) rfl (by show 2 * 0 + _ ≤ _; exact Nat.le_of_eq rfl) (hb hby at_151) (fun _ _ => ⟨rfl, e32, (by decide : 2 + 1 ≤ _), (by decide : 6 + 2 ≤ _)⟩)
              dsimp only [Pt.U, Pt.locs, Pt.cells, Pt.slots] at X34 lq34 yq34 zq34 st34 hQ34
              subst lq34 yq34 zq34
              obtain ⟨b_34, kb_34, rfl, N34q, r34_0, r34_1, r34_2, r34_3, r34_4, r34_5⟩ := hQ34
              have N34 := Fr.app N31 N34q
              have sz_b_34 : h0.size ≤ b_34 := Nat.le_trans K35.1 r34_1
              have g_b_34 : n0 ≤ b_34 := Nat.le_trans Z0 sz_b_34
              refine go (fun _ k => st34.trans k) ?_
              show Go p e below _ (T34.setTop (mkF m 154 #[.val (.int p1), .val (.int p2), .val (.int p3), .val (.int p4), .val (.int (bz (¬ ((p4 &&& (1 : Int32)) = (0 : Int32))))), .val (.int (((p4.toUInt32 >>> ((1 : Int32) &&& 31).toUInt32).toInt32) &&& (3 : Int32))), .val (.int (bz (¬ ((p4 &&& (8 : Int32)) = (0 : Int32))))), .val .null, .unset, .val (.ref b29), .unset] [(.ref b32)]))
              refine go (fun _ k => XS.astore X34.here hx rfl (hb hby at_154) rfl rfl (l' := #[.val (.int p1), .val (.int p2), .val (.int p3), .val (.int p4), .val (.int (bz (¬ ((p4 &&& (1 : Int32)) = (0 : Int32))))), .val (.int (((p4.toUInt32 >>> ((1 : Int32) &&& 31).toUInt32).toInt32) &&& (3 : Int32))), .val (.int (bz (¬ ((p4 &&& (8 : Int32)) = (0 : Int32))))), .val .null, .val (.ref b32), .val (.ref b29), .unset]) rfl k) ?_
              show Go p e below _ (T34.setTop (mkF m 156 #[.val (.int p1), .val (.int p2), .val (.int p3), .val (.int p4), .val (.int (bz (¬ ((p4 &&& (1 : Int32)) = (0 : Int32))))), .val (.int (((p4.toUInt32 >>> ((1 : Int32) &&& 31).toUInt32).toInt32) &&& (3 : Int32))), .val (.int (bz (¬ ((p4 &&& (8 : Int32)) = (0 : Int32))))), .val .null, .val (.ref b32), .val (.ref b29), .unset] []))
              obtain ⟨T36, h36, X36, e36, E36, A36, D36, -, st36⟩ := newO X34 hx hZ hown (hw _ (List.mem_of_getElem? (i := 30) rfl)) (hw _ (List.mem_of_getElem? (i := 31) rfl)) (hw _ (List.mem_of_getElem? (i := 32) rfl)) rfl (g := (mkF m 156 #[.val (.int p1), .val (.int p2), .val (.int p3), .val (.int p4), .val (.int (bz (¬ ((p4 &&& (1 : Int32)) = (0 : Int32))))), .val (.int (((p4.toUInt32 >>> ((1 : Int32) &&& 31).toUInt32).toInt32) &&& (3 : Int32))), .val (.int (bz (¬ ((p4 &&& (8 : Int32)) = (0 : Int32))))), .val .null, .val (.ref b32), .val (.ref b29), .unset] [])) rfl (hb hby at_156) (by decide) (by decide)
              obtain ⟨b36, gz36⟩ : ∃ z, z = T34.heap.size := ⟨_, rfl⟩
              rw [← gz36] at A36 D36 st36
              have K37 : Keep h0 T34.heap [] := (K35.trans r34_0 (allS (Or.inr sz_b32) all0))
              have sz_b36 : h0.size ≤ b36 := Nat.le_trans K37.1 (Nat.le_of_eq gz36.symm)
              have g_b36 : n0 ≤ b36 := Nat.le_trans Z0 sz_b36
              have F_name_b36 : Fld Z h36 b36 "com/example/tidemark/tidemark/Option" "name" "Ljava/lang/String;" .null := D36 (Or.inr (hw _ (List.mem_of_getElem? (i := 43) rfl))) (ty := (.object "java/lang/String")) (by decide)
              have F_value_b36 : Fld Z h36 b36 "com/example/tidemark/tidemark/Option" "value" "Ljava/lang/String;" .null := D36 (Or.inr (hw _ (List.mem_of_getElem? (i := 45) rfl))) (ty := (.object "java/lang/String")) (by decide)
              have F_required_b36 : Fld Z h36 b36 "com/example/tidemark/tidemark/Option" "required" "Z" (.int (0 : Int32)) := D36 (Or.inr (hw _ (List.mem_of_getElem? (i := 47) rfl))) (ty := .boolean) (by decide)
              refine go st36 ?_
              show Go p e below _ (T36.setTop (mkF m 159 #[.val (.int p1), .val (.int p2), .val (.int p3), .val (.int p4), .val (.int (bz (¬ ((p4 &&& (1 : Int32)) = (0 : Int32))))), .val (.int (((p4.toUInt32 >>> ((1 : Int32) &&& 31).toUInt32).toInt32) &&& (3 : Int32))), .val (.int (bz (¬ ((p4 &&& (8 : Int32)) = (0 : Int32))))), .val .null, .val (.ref b32), .val (.ref b29), .unset] [(.ref b36)]))
              refine go (fun _ k => XS.dup X36.here hx rfl (hb hby at_159) rfl rfl k) ?_
              show Go p e below _ (T36.setTop (mkF m 160 #[.val (.int p1), .val (.int p2), .val (.int p3), .val (.int p4), .val (.int (bz (¬ ((p4 &&& (1 : Int32)) = (0 : Int32))))), .val (.int (((p4.toUInt32 >>> ((1 : Int32) &&& 31).toUInt32).toInt32) &&& (3 : Int32))), .val (.int (bz (¬ ((p4 &&& (8 : Int32)) = (0 : Int32))))), .val .null, .val (.ref b32), .val (.ref b29), .unset] [(.ref b36), (.ref b36)]))
              refine go (fun _ k => XS.aload X36.here hx rfl (hb hby at_160) rfl rfl  k) ?_
              show Go p e below _ (T36.setTop (mkF m 162 #[.val (.int p1), .val (.int p2), .val (.int p3), .val (.int p4), .val (.int (bz (¬ ((p4 &&& (1 : Int32)) = (0 : Int32))))), .val (.int (((p4.toUInt32 >>> ((1 : Int32) &&& 31).toUInt32).toInt32) &&& (3 : Int32))), .val (.int (bz (¬ ((p4 &&& (8 : Int32)) = (0 : Int32))))), .val .null, .val (.ref b32), .val (.ref b29), .unset] [.null, (.ref b36), (.ref b36)]))
              refine go (fun _ k => XS.aload X36.here hx rfl (hb hby at_162) rfl rfl  k) ?_
              show Go p e below _ (T36.setTop (mkF m 164 #[.val (.int p1), .val (.int p2), .val (.int p3), .val (.int p4), .val (.int (bz (¬ ((p4 &&& (1 : Int32)) = (0 : Int32))))), .val (.int (((p4.toUInt32 >>> ((1 : Int32) &&& 31).toUInt32).toInt32) &&& (3 : Int32))), .val (.int (bz (¬ ((p4 &&& (8 : Int32)) = (0 : Int32))))), .val .null, .val (.ref b32), .val (.ref b29), .unset] [(.ref b32), .null, (.ref b36), (.ref b36)]))
              refine go (fun _ k => XS.iload X36.here hx rfl (hb hby at_164) rfl  k) ?_
              show Go p e below _ (T36.setTop (mkF m 166 #[.val (.int p1), .val (.int p2), .val (.int p3), .val (.int p4), .val (.int (bz (¬ ((p4 &&& (1 : Int32)) = (0 : Int32))))), .val (.int (((p4.toUInt32 >>> ((1 : Int32) &&& 31).toUInt32).toInt32) &&& (3 : Int32))), .val (.int (bz (¬ ((p4 &&& (8 : Int32)) = (0 : Int32))))), .val .null, .val (.ref b32), .val (.ref b29), .unset] [(.int (bz (¬ ((p4 &&& (1 : Int32)) = (0 : Int32))))), (.ref b32), .null, (.ref b36), (.ref b36)]))
              have K39 : Keep h0 h36 [] := (K37.ext E36)
              obtain ⟨_, _, ⟨T38, Lb38, cn38, sn38⟩, -, X38, ⟨Lc38, hQ38, lq38, yq38, zq38⟩, st38⟩ := X36.specialBack hx (y := (⟨"com/example/tidemark/tidemark/Option", "<init>", "(Ljava/lang/String;Ljava/lang/String;Z)V"⟩ : MethodName)) rfl hown (mvT hZ (hw _ (List.mem_of_getElem? (i := 33) rfl))) (mvT hZ (hw _ (List.mem_of_getElem? (i := 34) rfl))) (mvT hZ (hw _ (List.mem_of_getElem? (i := 35) rfl))) (by decide) (backOf (W := 1) (rm7 l Z a0 hw [] b36 Value.null (Value.ref b32) (bz (¬ ((p4 &&& (1 : Int32)) = (0 : Int32)))) .null .null (.int (0 : Int32)) h36 n0 (Nat.le_trans Z0 K39.1) (rfl : Value.null.isRef = true) (rfl : (Value.ref b32).isRef = true) A36 g_b36 F_name_b36 F_value_b36 F_required_b36) hZ (hw _ (List.mem_of_getElem? (i := 35) rfl)) (hw _ (List.mem_of_getElem? (i := 32) rfl)) (by decide) (by decide)) (g := (mkF m 166 #[.val (.int p1), .val (.int p2), .val (.int p3), .val (.int p4), .val (.int (bz (¬ ((p4 &&& (1 : Int32)) = (0 : Int32))))), .val (.int (((p4.toUInt32 >>> ((1 : Int32) &&& 31).toUInt32).toInt32) &&& (3 : Int32))), .val (.int (bz (¬ ((p4 &&& (8 : Int32)) = (0 : Int32))))), .val .null, .val (.ref b32), .val (.ref b29), .unset] [(.int (bz (¬ ((p4 &&& (1 : Int32)) = (0 : Int32))))), (.ref b32), .null, (.ref b36), (.ref b36)])) rfl (by rw [hml]; rfl) (Steps.refl _) (a := b36) (argsL := [.null, (.ref b32), (.int (bz (¬ ((p4 &&& (1 : Int32)) = (0 : Int32)))))]) (rest := [(.ref b36)]) (lenOf pd_8 rfl) rfl (by show 2 * 0 + _ ≤ _; exact Nat.le_of_eq rfl) (hb hby at_166) (fun _ _ => ⟨rfl, e36, (by decide : 4 + 0 ≤ _), (by decide : 11 + 0 ≤ _)⟩)
              dsimp only [Pt.U, Pt.locs, Pt.cells, Pt.slots] at X38 lq38 yq38 zq38 st38 hQ38
              subst lq38 yq38 zq38
              obtain ⟨rfl, N38q, r38_0, r38_1, r38_2⟩ := hQ38
              have N38 := Fr.app N34 N38q
              refine go (fun _ k => st38.trans k) ?_
              show Go p e below _ (T38.setTop (mkF m 169 #[.val (.int p1), .val (.int p2), .val (.int p3), .val (.int p4), .val (.int (bz (¬ ((p4 &&& (1 : Int32)) = (0 : Int32))))), .val (.int (((p4.toUInt32 >>> ((1 : Int32) &&& 31).toUInt32).toInt32) &&& (3 : Int32))), .val (.int (bz (¬ ((p4 &&& (8 : Int32)) = (0 : Int32))))), .val .null, .val (.ref b32), .val (.ref b29), .unset] [(.ref b36)]))
              refine go (fun _ k => XS.astore X38.here hx rfl (hb hby at_169) rfl rfl (l' := #[.val (.int p1), .val (.int p2), .val (.int p3), .val (.int p4), .val (.int (bz (¬ ((p4 &&& (1 : Int32)) = (0 : Int32))))), .val (.int (((p4.toUInt32 >>> ((1 : Int32) &&& 31).toUInt32).toInt32) &&& (3 : Int32))), .val (.int (bz (¬ ((p4 &&& (8 : Int32)) = (0 : Int32))))), .val .null, .val (.ref b32), .val (.ref b36), .unset]) rfl k) ?_
              show Go p e below _ (T38.setTop (mkF m 171 #[.val (.int p1), .val (.int p2), .val (.int p3), .val (.int p4), .val (.int (bz (¬ ((p4 &&& (1 : Int32)) = (0 : Int32))))), .val (.int (((p4.toUInt32 >>> ((1 : Int32) &&& 31).toUInt32).toInt32) &&& (3 : Int32))), .val (.int (bz (¬ ((p4 &&& (8 : Int32)) = (0 : Int32))))), .val .null, .val (.ref b32), .val (.ref b36), .unset] []))
              refine go (fun _ k => XS.iload X38.here hx rfl (hb hby at_171) rfl  k) ?_
              show Go p e below _ (T38.setTop (mkF m 173 #[.val (.int p1), .val (.int p2), .val (.int p3), .val (.int p4), .val (.int (bz (¬ ((p4 &&& (1 : Int32)) = (0 : Int32))))), .val (.int (((p4.toUInt32 >>> ((1 : Int32) &&& 31).toUInt32).toInt32) &&& (3 : Int32))), .val (.int (bz (¬ ((p4 &&& (8 : Int32)) = (0 : Int32))))), .val .null, .val (.ref b32), .val (.ref b36), .unset] [(.int (((p4.toUInt32 >>> ((1 : Int32) &&& 31).toUInt32).toInt32) &&& (3 : Int32)))]))
              refine go (fun _ k => XS.ifNo X38.here hx rfl (hb hby at_173) rfl ((if0 _ _).trans (feq hc72_6).1) k) ?_
              show Go p e below _ (T38.setTop (mkF m 176 #[.val (.int p1), .val (.int p2), .val (.int p3), .val (.int p4), .val (.int (bz (¬ ((p4 &&& (1 : Int32)) = (0 : Int32))))), .val (.int (((p4.toUInt32 >>> ((1 : Int32) &&& 31).toUInt32).toInt32) &&& (3 : Int32))), .val (.int (bz (¬ ((p4 &&& (8 : Int32)) = (0 : Int32))))), .val .null, .val (.ref b32), .val (.ref b36), .unset] []))
              refine go (fun _ k => XS.iconst X38.here hx rfl (hb hby at_176) k) ?_
              show Go p e below _ (T38.setTop (mkF m 177 #[.val (.int p1), .val (.int p2), .val (.int p3), .val (.int p4), .val (.int (bz (¬ ((p4 &&& (1 : Int32)) = (0 : Int32))))), .val (.int (((p4.toUInt32 >>> ((1 : Int32) &&& 31).toUInt32).toInt32) &&& (3 : Int32))), .val (.int (bz (¬ ((p4 &&& (8 : Int32)) = (0 : Int32))))), .val .null, .val (.ref b32), .val (.ref b36), .unset] [(.int (1 : Int32))]))
              refine go (fun _ k => XS.goto X38.here hx rfl (pc0 := 177) (pc' := 181) rfl (hb hby at_177) (by decide) (by decide) k) ?_
              show Go p e below _ (T38.setTop (mkF m 181 #[.val (.int p1), .val (.int p2), .val (.int p3), .val (.int p4), .val (.int (bz (¬ ((p4 &&& (1 : Int32)) = (0 : Int32))))), .val (.int (((p4.toUInt32 >>> ((1 : Int32) &&& 31).toUInt32).toInt32) &&& (3 : Int32))), .val (.int (bz (¬ ((p4 &&& (8 : Int32)) = (0 : Int32))))), .val .null, .val (.ref b32), .val (.ref b36), .unset] [(.int (1 : Int32))]))
              refine go (fun _ k => XS.istore X38.here hx rfl (hb hby at_181) rfl (l' := #[.val (.int p1), .val (.int p2), .val (.int p3), .val (.int p4), .val (.int (bz (¬ ((p4 &&& (1 : Int32)) = (0 : Int32))))), .val (.int (((p4.toUInt32 >>> ((1 : Int32) &&& 31).toUInt32).toInt32) &&& (3 : Int32))), .val (.int (bz (¬ ((p4 &&& (8 : Int32)) = (0 : Int32))))), .val .null, .val (.ref b32), .val (.ref b36), .val (.int (1 : Int32))]) rfl k) ?_
              show Go p e below _ (T38.setTop (mkF m 183 #[.val (.int p1), .val (.int p2), .val (.int p3), .val (.int p4), .val (.int (bz (¬ ((p4 &&& (1 : Int32)) = (0 : Int32))))), .val (.int (((p4.toUInt32 >>> ((1 : Int32) &&& 31).toUInt32).toInt32) &&& (3 : Int32))), .val (.int (bz (¬ ((p4 &&& (8 : Int32)) = (0 : Int32))))), .val .null, .val (.ref b32), .val (.ref b36), .val (.int (1 : Int32))] []))
              refine go (fun _ k => XS.aload X38.here hx rfl (hb hby at_183) rfl rfl  k) ?_
              show Go p e below _ (T38.setTop (mkF m 185 #[.val (.int p1), .val (.int p2), .val (.int p3), .val (.int p4), .val (.int (bz (¬ ((p4 &&& (1 : Int32)) = (0 : Int32))))), .val (.int (((p4.toUInt32 >>> ((1 : Int32) &&& 31).toUInt32).toInt32) &&& (3 : Int32))), .val (.int (bz (¬ ((p4 &&& (8 : Int32)) = (0 : Int32))))), .val .null, .val (.ref b32), .val (.ref b36), .val (.int (1 : Int32))] [(.ref b36)]))
              have K41 : Keep h0 T38.heap [] := (K39.trans r38_0 (allS (Or.inr sz_b36) all0))
              obtain ⟨cq40, kq40, q40a, q40b, q40c⟩ := isOf hZ rfl r38_1
              obtain ⟨_, _, ⟨T40, Lb40, cn40, sn40⟩, -, X40, ⟨Lc40, hQ40, lq40, yq40, zq40⟩, st40⟩ := X38.virtualBack hx (y := (⟨"com/example/tidemark/tidemark/Option", "takesValue", "()Z"⟩ : MethodName)) (z := (⟨"com/example/tidemark/tidemark/Option", "takesValue", "()Z"⟩ : MethodName)) hown (mvT hZ (hw _ (List.mem_of_getElem? (i := 48) rfl))) (mvT hZ (hw _ (List.mem_of_getElem? (i := 49) rfl))) (notFace_of_selects (args := #[]) (mvT hZ (hw _ (List.mem_of_getElem? (i := 51) rfl)))) (mvT hZ (hw _ (List.mem_of_getElem? (i := 51) rfl))) (mvT hZ (hw _ (List.mem_of_getElem? (i := 50) rfl))) (by decide) (backOf (W := 0) (rmtR l Z a0 hw [] b36 b32 T38.heap n0 (Nat.le_trans Z0 K41.1) r38_1 r38_2) hZ (hw _ (List.mem_of_getElem? (i := 52) rfl)) (hw _ (List.mem_of_getElem? (i := 32) rfl)) (by decide) (by decide)) q40a q40c (g := (mkF m 185 #[.val (.int p1), .val (.int p2), .val (.int p3), .val (.int p4), .val (.int (bz (¬ ((p4 &&& (1 : Int32)) = (0 : Int32))))), .val (.int (((p4.toUInt32 >>> ((1 : Int32) &&& 31).toUInt32).toInt32) &&& (3 : Int32))), .val (.int (bz (¬ ((p4 &&& (8 : Int32)) = (0 : Int32))))), .val .null, .val (.ref b32), .val (.ref b36), .val (.int (1 : Int32))] [(.ref b36)])) rfl (by rw [hml]; rfl) (Steps.refl _) (argsL := []) (rest := []) (lenOf pd_9 rfl) rfl (by show 2 * 0 + _ ≤ _; exact Nat.le_of_eq rfl) (hb hby at_185) (fun _ _ => ⟨rfl, rfl, (by decide : 4 + 0 ≤ _), (by decide : 11 + 0 ≤ _)⟩)
              dsimp only [Pt.U, Pt.locs, Pt.cells, Pt.slots] at X40 lq40 yq40 zq40 st40 hQ40
              subst lq40 yq40 zq40
              obtain ⟨rfl, N40q, e40⟩ := hQ40
              have N40 := Fr.app N38 N40q
              skip
              refine go (fun _ k => st40.trans k) ?_
              show Go p e below _ (T40.setTop (mkF m 188 #[.val (.int p1), .val (.int p2), .val (.int p3), .val (.int p4), .val (.int (bz (¬ ((p4 &&& (1 : Int32)) = (0 : Int32))))), .val (.int (((p4.toUInt32 >>> ((1 : Int32) &&& 31).toUInt32).toInt32) &&& (3 : Int32))), .val (.int (bz (¬ ((p4 &&& (8 : Int32)) = (0 : Int32))))), .val .null, .val (.ref b32), .val (.ref b36), .val (.int (1 : Int32))] [(.int (1 : Int32))]))
              refine go (fun _ k => XS.iload X40.here hx rfl (hb hby at_188) rfl  k) ?_
              show Go p e below _ (T40.setTop (mkF m 190 #[.val (.int p1), .val (.int p2), .val (.int p3), .val (.int p4), .val (.int (bz (¬ ((p4 &&& (1 : Int32)) = (0 : Int32))))), .val (.int (((p4.toUInt32 >>> ((1 : Int32) &&& 31).toUInt32).toInt32) &&& (3 : Int32))), .val (.int (bz (¬ ((p4 &&& (8 : Int32)) = (0 : Int32))))), .val .null, .val (.ref b32), .val (.ref b36), .val (.int (1 : Int32))] [(.int (1 : Int32)), (.int (1 : Int32))]))
              refine go (fun _ k => XS.icmpNo X40.here hx rfl (hb hby at_190) rfl (teq (by decide : (1 : Int32) = (1 : Int32))).2 k) ?_
              show Go p e below _ (T40.setTop (mkF m 193 #[.val (.int p1), .val (.int p2), .val (.int p3), .val (.int p4), .val (.int (bz (¬ ((p4 &&& (1 : Int32)) = (0 : Int32))))), .val (.int (((p4.toUInt32 >>> ((1 : Int32) &&& 31).toUInt32).toInt32) &&& (3 : Int32))), .val (.int (bz (¬ ((p4 &&& (8 : Int32)) = (0 : Int32))))), .val .null, .val (.ref b32), .val (.ref b36), .val (.int (1 : Int32))] []))
              refine go (fun _ k => XS.iconst X40.here hx rfl (hb hby at_193) k) ?_
              show Go p e below _ (T40.setTop (mkF m 194 #[.val (.int p1), .val (.int p2), .val (.int p3), .val (.int p4), .val (.int (bz (¬ ((p4 &&& (1 : Int32)) = (0 : Int32))))), .val (.int (((p4.toUInt32 >>> ((1 : Int32) &&& 31).toUInt32).toInt32) &&& (3 : Int32))), .val (.int (bz (¬ ((p4 &&& (8 : Int32)) = (0 : Int32))))), .val .null, .val (.ref b32), .val (.ref b36), .val (.int (1 : Int32))] [(.int (1 : Int32))]))
              refine go (fun _ k => XS.goto X40.here hx rfl (pc0 := 194) (pc' := 198) rfl (hb hby at_194) (by decide) (by decide) k) ?_
              show Go p e below _ (T40.setTop (mkF m 198 #[.val (.int p1), .val (.int p2), .val (.int p3), .val (.int p4), .val (.int (bz (¬ ((p4 &&& (1 : Int32)) = (0 : Int32))))), .val (.int (((p4.toUInt32 >>> ((1 : Int32) &&& 31).toUInt32).toInt32) &&& (3 : Int32))), .val (.int (bz (¬ ((p4 &&& (8 : Int32)) = (0 : Int32))))), .val .null, .val (.ref b32), .val (.ref b36), .val (.int (1 : Int32))] [(.int (1 : Int32))]))
              obtain ⟨fs, hr, hrun, hended, hEW⟩ := X40.leaveW (vm₁ := s.vm) hS0 (by rw [e40]; exact (Nat.le_trans (Nat.le_trans (Nat.le_trans (Nat.le_trans (Nat.le_trans (Nat.le_trans (Nat.le_trans hk0 E29.1) (Keep.of_wr W30).1) (Keep.of_wr W31).1) E32.1) r34_0.1) E36.1) r38_0.1)) (v := some (.int (1 : Int32))) (fun h => by rw [Bd.returns] at h; cases h)
              refine leafW (T := T40) ⟨fs, retN X40 hx (t := .boolean) Bd.returns (by simp) (hb hby at_198) hr, hrun, hended, hEW⟩ ?_ (by decide) (by decide)
              show Q0 Z p1 p2 p3 p4 cs h0 n0 _ T40.heap _
              rw [e40]
              exact ⟨rfl, N40⟩
      · skip
        refine go (fun _ k => XS.ifYes X0.here hx rfl (pc0 := 36) (pc' := 45) rfl (hb hby at_36) rfl ((if0 _ _).trans (teq (bz_f hc36_5)).1) (by decide) (by decide) k) ?_
        show Go p e below _ (s₁.setTop (mkF m 45 #[.val (.int p1), .val (.int p2), .val (.int p3), .val (.int p4), .val (.int (bz (¬ ((p4 &&& (1 : Int32)) = (0 : Int32))))), .val (.int (((p4.toUInt32 >>> ((1 : Int32) &&& 31).toUInt32).toInt32) &&& (3 : Int32))), .val (.int (bz (¬ ((p4 &&& (8 : Int32)) = (0 : Int32))))), .unset, .unset, .unset, .unset] []))
        refine go (fun _ k => XS.iconst X0.here hx rfl (hb hby at_45) k) ?_
        show Go p e below _ (s₁.setTop (mkF m 46 #[.val (.int p1), .val (.int p2), .val (.int p3), .val (.int p4), .val (.int (bz (¬ ((p4 &&& (1 : Int32)) = (0 : Int32))))), .val (.int (((p4.toUInt32 >>> ((1 : Int32) &&& 31).toUInt32).toInt32) &&& (3 : Int32))), .val (.int (bz (¬ ((p4 &&& (8 : Int32)) = (0 : Int32))))), .unset, .unset, .unset, .unset] [(.int (1 : Int32))]))
        obtain ⟨T42, h42, ka42, X42, e42, E42, A42, st42⟩ := newP X0 hx hZ (hw _ (List.mem_of_getElem? (i := 0) rfl)) e0 (g := (mkF m 46 #[.val (.int p1), .val (.int p2), .val (.int p3), .val (.int p4), .val (.int (bz (¬ ((p4 &&& (1 : Int32)) = (0 : Int32))))), .val (.int (((p4.toUInt32 >>> ((1 : Int32) &&& 31).toUInt32).toInt32) &&& (3 : Int32))), .val (.int (bz (¬ ((p4 &&& (8 : Int32)) = (0 : Int32))))), .unset, .unset, .unset, .unset] [(.int (1 : Int32))])) rfl (hb hby at_46) rfl (by decide) (cap := 1) (by decide) (by decide) (by decide) (by decide)
        obtain ⟨b42, gz42⟩ : ∃ z, z = h0.size := ⟨_, rfl⟩
        rw [← gz42] at A42 st42
        have sz_b42 : h0.size ≤ b42 := Nat.le_trans (Keep.refl h0 []).1 (Nat.le_of_eq gz42.symm)
        have g_b42 : n0 ≤ b42 := Nat.le_trans Z0 sz_b42
        have R43 := R0.trans (CHr.ext E42 R0.1)
        have V_b42 : Arv Z h42 b42 ka42 .char (1 : Int32) [(.int (0 : Int32))] (.int (0 : Int32)) := (Arv.new A42 (by decide)).pad (pad_rep [] (.int (0 : Int32)) 1)
        refine go st42 ?_
        show Go p e below _ (T42.setTop (mkF m 48 #[.val (.int p1), .val (.int p2), .val (.int p3), .val (.int p4), .val (.int (bz (¬ ((p4 &&& (1 : Int32)) = (0 : Int32))))), .val (.int (((p4.toUInt32 >>> ((1 : Int32) &&& 31).toUInt32).toInt32) &&& (3 : Int32))), .val (.int (bz (¬ ((p4 &&& (8 : Int32)) = (0 : Int32))))), .unset, .unset, .unset, .unset] [(.ref b42)]))
        refine go (fun _ k => XS.dup X42.here hx rfl (hb hby at_48) rfl rfl k) ?_
        show Go p e below _ (T42.setTop (mkF m 49 #[.val (.int p1), .val (.int p2), .val (.int p3), .val (.int p4), .val (.int (bz (¬ ((p4 &&& (1 : Int32)) = (0 : Int32))))), .val (.int (((p4.toUInt32 >>> ((1 : Int32) &&& 31).toUInt32).toInt32) &&& (3 : Int32))), .val (.int (bz (¬ ((p4 &&& (8 : Int32)) = (0 : Int32))))), .unset, .unset, .unset, .unset] [(.ref b42), (.ref b42)]))
        refine go (fun _ k => XS.iconst X42.here hx rfl (hb hby at_49) k) ?_
        show Go p e below _ (T42.setTop (mkF m 50 #[.val (.int p1), .val (.int p2), .val (.int p3), .val (.int p4), .val (.int (bz (¬ ((p4 &&& (1 : Int32)) = (0 : Int32))))), .val (.int (((p4.toUInt32 >>> ((1 : Int32) &&& 31).toUInt32).toInt32) &&& (3 : Int32))), .val (.int (bz (¬ ((p4 &&& (8 : Int32)) = (0 : Int32))))), .unset, .unset, .unset, .unset] [(.int (0 : Int32)), (.ref b42), (.ref b42)]))
        refine go (fun _ k => XS.iloadN X42.here hx rfl (hb hby at_50) rfl  k) ?_
        show Go p e below _ (T42.setTop (mkF m 51 #[.val (.int p1), .val (.int p2), .val (.int p3), .val (.int p4), .val (.int (bz (¬ ((p4 &&& (1 : Int32)) = (0 : Int32))))), .val (.int (((p4.toUInt32 >>> ((1 : Int32) &&& 31).toUInt32).toInt32) &&& (3 : Int32))), .val (.int (bz (¬ ((p4 &&& (8 : Int32)) = (0 : Int32))))), .unset, .unset, .unset, .unset] [(.int p1), (.int (0 : Int32)), (.ref b42), (.ref b42)]))
        refine go (fun _ k => XS.sipush X42.here hx rfl (hb hby at_51) k) ?_
        show Go p e below _ (T42.setTop (mkF m 54 #[.val (.int p1), .val (.int p2), .val (.int p3), .val (.int p4), .val (.int (bz (¬ ((p4 &&& (1 : Int32)) = (0 : Int32))))), .val (.int (((p4.toUInt32 >>> ((1 : Int32) &&& 31).toUInt32).toInt32) &&& (3 : Int32))), .val (.int (bz (¬ ((p4 &&& (8 : Int32)) = (0 : Int32))))), .unset, .unset, .unset, .unset] [(.int (255 : Int32)), (.int p1), (.int (0 : Int32)), (.ref b42), (.ref b42)]))
        refine go (fun _ k => XS.iand X42.here hx rfl (hb hby at_54) rfl k) ?_
        show Go p e below _ (T42.setTop (mkF m 55 #[.val (.int p1), .val (.int p2), .val (.int p3), .val (.int p4), .val (.int (bz (¬ ((p4 &&& (1 : Int32)) = (0 : Int32))))), .val (.int (((p4.toUInt32 >>> ((1 : Int32) &&& 31).toUInt32).toInt32) &&& (3 : Int32))), .val (.int (bz (¬ ((p4 &&& (8 : Int32)) = (0 : Int32))))), .unset, .unset, .unset, .unset] [(.int (p1 &&& (255 : Int32))), (.int (0 : Int32)), (.ref b42), (.ref b42)]))
        refine go (fun _ k => XS.i2c X42.here hx rfl (hb hby at_55) rfl k) ?_
        show Go p e below _ (T42.setTop (mkF m 56 #[.val (.int p1), .val (.int p2), .val (.int p3), .val (.int p4), .val (.int (bz (¬ ((p4 &&& (1 : Int32)) = (0 : Int32))))), .val (.int (((p4.toUInt32 >>> ((1 : Int32) &&& 31).toUInt32).toInt32) &&& (3 : Int32))), .val (.int (bz (¬ ((p4 &&& (8 : Int32)) = (0 : Int32))))), .unset, .unset, .unset, .unset] [(.int ((p1 &&& (255 : Int32)).toUInt32.toUInt16.toUInt32.toInt32)), (.int (0 : Int32)), (.ref b42), (.ref b42)]))
        obtain ⟨cl44, Ar44, qa44, Sa44, Ma44, Ha44, Ga44⟩ := id V_b42
        have hin44 : ¬ ((0 : Int32) < 0 ∨ cl44.slots.size ≤ ((0 : Int32)).toNatClampNeg) := inb_of Sa44 ⟨by decide, by decide⟩
        obtain ⟨T44, h44, X44, e44, W44, st44⟩ := stC X42 hx hZ e42 Ar44 (j := (0 : Int32)) hin44 (g := (mkF m 56 #[.val (.int p1), .val (.int p2), .val (.int p3), .val (.int p4), .val (.int (bz (¬ ((p4 &&& (1 : Int32)) = (0 : Int32))))), .val (.int (((p4.toUInt32 >>> ((1 : Int32) &&& 31).toUInt32).toInt32) &&& (3 : Int32))), .val (.int (bz (¬ ((p4 &&& (8 : Int32)) = (0 : Int32))))), .unset, .unset, .unset, .unset] [(.int ((p1 &&& (255 : Int32)).toUInt32.toUInt16.toUInt32.toInt32)), (.int (0 : Int32)), (.ref b42), (.ref b42)])) rfl rfl (hb hby at_56)
        have V44 := Arv.set Ar44 qa44 Sa44 Ma44 Ha44 Ga44 (fits_nar_char _) W44 0 rfl (Nat.le_of_ble_eq_true rfl)
        have V_b42_44 : Arv Z h44 b42 ka42 .char (1 : Int32) ([(.int (nar .char ((p1 &&& (255 : Int32)).toUInt32.toUInt16.toUInt32.toInt32)))]) (.int (0 : Int32)) := V44
        have sfb42_46 := (Safe.ext E42 R0.1 (Safe.new (Nat.le_of_eq gz42.symm)))
        have R45 := R43.trans (CHr.wr W44 sfb42_46 R43.1)
        have N44 := Fr.snoc X44 N0 g_b42
        refine go st44 ?_
        show Go p e below _ (T44.setTop (mkF m 57 #[.val (.int p1), .val (.int p2), .val (.int p3), .val (.int p4), .val (.int (bz (¬ ((p4 &&& (1 : Int32)) = (0 : Int32))))), .val (.int (((p4.toUInt32 >>> ((1 : Int32) &&& 31).toUInt32).toInt32) &&& (3 : Int32))), .val (.int (bz (¬ ((p4 &&& (8 : Int32)) = (0 : Int32))))), .unset, .unset, .unset, .unset] [(.ref b42)]))
        refine go (fun _ k => XS.astore X44.here hx rfl (hb hby at_57) rfl rfl (l' := #[.val (.int p1), .val (.int p2), .val (.int p3), .val (.int p4), .val (.int (bz (¬ ((p4 &&& (1 : Int32)) = (0 : Int32))))), .val (.int (((p4.toUInt32 >>> ((1 : Int32) &&& 31).toUInt32).toInt32) &&& (3 : Int32))), .val (.int (bz (¬ ((p4 &&& (8 : Int32)) = (0 : Int32))))), .unset, .val (.ref b42), .unset, .unset]) rfl k) ?_
        show Go p e below _ (T44.setTop (mkF m 59 #[.val (.int p1), .val (.int p2), .val (.int p3), .val (.int p4), .val (.int (bz (¬ ((p4 &&& (1 : Int32)) = (0 : Int32))))), .val (.int (((p4.toUInt32 >>> ((1 : Int32) &&& 31).toUInt32).toInt32) &&& (3 : Int32))), .val (.int (bz (¬ ((p4 &&& (8 : Int32)) = (0 : Int32))))), .unset, .val (.ref b42), .unset, .unset] []))
        obtain ⟨T47, h47, X47, e47, E47, A47, D47, -, st47⟩ := newO X44 hx hZ hown (hw _ (List.mem_of_getElem? (i := 1) rfl)) (hw _ (List.mem_of_getElem? (i := 2) rfl)) (hw _ (List.mem_of_getElem? (i := 3) rfl)) e44 (g := (mkF m 59 #[.val (.int p1), .val (.int p2), .val (.int p3), .val (.int p4), .val (.int (bz (¬ ((p4 &&& (1 : Int32)) = (0 : Int32))))), .val (.int (((p4.toUInt32 >>> ((1 : Int32) &&& 31).toUInt32).toInt32) &&& (3 : Int32))), .val (.int (bz (¬ ((p4 &&& (8 : Int32)) = (0 : Int32))))), .unset, .val (.ref b42), .unset, .unset] [])) rfl (hb hby at_59) (by decide) (by decide)
        obtain ⟨b47, gz47⟩ : ∃ z, z = h44.size := ⟨_, rfl⟩
        rw [← gz47] at A47 D47 st47
        have K48 : Keep h0 h44 [] := (((Keep.refl h0 []).ext E42).wr W44 (Or.inr sz_b42))
        have sz_b47 : h0.size ≤ b47 := Nat.le_trans K48.1 (Nat.le_of_eq gz47.symm)
        have g_b47 : n0 ≤ b47 := Nat.le_trans Z0 sz_b47
        have R49 := R45.trans (CHr.ext E47 R45.1)
        have F_coder_b47 : Fld Z h47 b47 "java/lang/String" "coder" "B" (.int (0 : Int32)) := D47 (Or.inr (hw _ (List.mem_of_getElem? (i := 27) rfl))) (ty := .byte) (by decide)
        have F_value_b47 : Fld Z h47 b47 "java/lang/String" "value" "[B" .null := D47 (Or.inr (hw _ (List.mem_of_getElem? (i := 29) rfl))) (ty := (.array .byte)) (by decide)
        refine go st47 ?_
        show Go p e below _ (T47.setTop (mkF m 62 #[.val (.int p1), .val (.int p2), .val (.int p3), .val (.int p4), .val (.int (bz (¬ ((p4 &&& (1 : Int32)) = (0 : Int32))))), .val (.int (((p4.toUInt32 >>> ((1 : Int32) &&& 31).toUInt32).toInt32) &&& (3 : Int32))), .val (.int (bz (¬ ((p4 &&& (8 : Int32)) = (0 : Int32))))), .unset, .val (.ref b42), .unset, .unset] [(.ref b47)]))
        refine go (fun _ k => XS.dup X47.here hx rfl (hb hby at_62) rfl rfl k) ?_
        show Go p e below _ (T47.setTop (mkF m 63 #[.val (.int p1), .val (.int p2), .val (.int p3), .val (.int p4), .val (.int (bz (¬ ((p4 &&& (1 : Int32)) = (0 : Int32))))), .val (.int (((p4.toUInt32 >>> ((1 : Int32) &&& 31).toUInt32).toInt32) &&& (3 : Int32))), .val (.int (bz (¬ ((p4 &&& (8 : Int32)) = (0 : Int32))))), .unset, .val (.ref b42), .unset, .unset] [(.ref b47), (.ref b47)]))
        refine go (fun _ k => XS.aload X47.here hx rfl (hb hby at_63) rfl rfl  k) ?_
        show Go p e below _ (T47.setTop (mkF m 65 #[.val (.int p1), .val (.int p2), .val (.int p3), .val (.int p4), .val (.int (bz (¬ ((p4 &&& (1 : Int32)) = (0 : Int32))))), .val (.int (((p4.toUInt32 >>> ((1 : Int32) &&& 31).toUInt32).toInt32) &&& (3 : Int32))), .val (.int (bz (¬ ((p4 &&& (8 : Int32)) = (0 : Int32))))), .unset, .val (.ref b42), .unset, .unset] [(.ref b42), (.ref b47), (.ref b47)]))
        have K51 : Keep h0 h47 [] := (K48.ext E47)
        obtain ⟨_, _, ⟨T50, Lb50, cn50, sn50⟩, -, X50, ⟨Lc50, hQ50, lq50, yq50, zq50⟩, st50⟩ := X47.specialBack hx (y := (⟨"java/lang/String", "<init>", "([C)V"⟩ : MethodName)) rfl hown (mvT hZ (hw _ (List.mem_of_getElem? (i := 4) rfl))) (mvT hZ (hw _ (List.mem_of_getElem? (i := 5) rfl))) (mvT hZ (hw _ (List.mem_of_getElem? (i := 6) rfl))) (by decide) (backOf (W := 1) (rmc5_1 l Z a0 hw [] b47 b42 .null (.int (0 : Int32)) ka42 cs (nar .char ((p1 &&& (255 : Int32)).toUInt32.toUInt16.toUInt32.toInt32)) h47 n0 (Nat.le_trans Z0 K51.1) (((O0.ext E42).wr W44 g_b42).ext E47) S_COMPACT_STRINGS (by assumption : ¬ (cs = (0 : Int32))) A47 g_b47 F_value_b47 F_coder_b47 (V_b42_44.ext E47) (own_255c p1 : ¬ ((255 : Int32) < (nar .char ((p1 &&& (255 : Int32)).toUInt32.toUInt16.toUInt32.toInt32))))) hZ (hw _ (List.mem_of_getElem? (i := 6) rfl)) (hw _ (List.mem_of_getElem? (i := 3) rfl)) (by decide) (by decide)) (g := (mkF m 65 #[.val (.int p1), .val (.int p2), .val (.int p3), .val (.int p4), .val (.int (bz (¬ ((p4 &&& (1 : Int32)) = (0 : Int32))))), .val (.int (((p4.toUInt32 >>> ((1 : Int32) &&& 31).toUInt32).toInt32) &&& (3 : Int32))), .val (.int (bz (¬ ((p4 &&& (8 : Int32)) = (0 : Int32))))), .unset, .val (.ref b42), .unset, .unset] [(.ref b42), (.ref b47), (.ref b47)])) rfl (by rw [hml]; rfl) (Steps.refl _) (a := b47) (argsL := [(.ref b42)]) (rest := [(.ref b47)]) (lenOf pd_10 rfl) rfl (by show 2 * 0 + _ ≤ _; exact Nat.le_of_eq rfl) (hb hby at_65) (fun _ _ => ⟨rfl, e47, (by decide : 2 + 1 ≤ _), (by decide : 5 + 1 ≤ _)⟩)
        dsimp only [Pt.U, Pt.locs, Pt.cells, Pt.slots] at X50 lq50 yq50 zq50 st50 hQ50
        subst lq50 yq50 zq50
        obtain ⟨b_50, kb_50, rfl, N50q, r50_0, r50_1, r50_2, r50_3, r50_4, r50_5⟩ := hQ50
        have N50 := Fr.app N44 N50q
        have sz_b_50 : h0.size ≤ b_50 := Nat.le_trans K51.1 r50_1
        have g_b_50 : n0 ≤ b_50 := Nat.le_trans Z0 sz_b_50
        have sfb47_53 := (Safe.ext E47 R45.1 (Safe.new (Nat.le_of_eq gz47.symm)))
        have R52 := R49.trans (CHr.keep r50_0 (sfS sfb47_53 sf0) R49.1)
        refine go (fun _ k => st50.trans k) ?_
        show Go p e below _ (T50.setTop (mkF m 68 #[.val (.int p1), .val (.int p2), .val (.int p3), .val (.int p4), .val (.int (bz (¬ ((p4 &&& (1 : Int32)) = (0 : Int32))))), .val (.int (((p4.toUInt32 >>> ((1 : Int32) &&& 31).toUInt32).toInt32) &&& (3 : Int32))), .val (.int (bz (¬ ((p4 &&& (8 : Int32)) = (0 : Int32))))), .unset, .val (.ref b42), .unset, .unset] [(.ref b47)]))
        refine go (fun _ k => XS.astore X50.here hx rfl (hb hby at_68) rfl rfl (l' := #[.val (.int p1), .val (.int p2), .val (.int p3), .val (.int p4), .val (.int (bz (¬ ((p4 &&& (1 : Int32)) = (0 : Int32))))), .val (.int (((p4.toUInt32 >>> ((1 : Int32) &&& 31).toUInt32).toInt32) &&& (3 : Int32))), .val (.int (bz (¬ ((p4 &&& (8 : Int32)) = (0 : Int32))))), .val (.ref b47), .val (.ref b42), .unset, .unset]) rfl k) ?_
        show Go p e below _ (T50.setTop (mkF m 70 #[.val (.int p1), .val (.int p2), .val (.int p3), .val (.int p4), .val (.int (bz (¬ ((p4 &&& (1 : Int32)) = (0 : Int32))))), .val (.int (((p4.toUInt32 >>> ((1 : Int32) &&& 31).toUInt32).toInt32) &&& (3 : Int32))), .val (.int (bz (¬ ((p4 &&& (8 : Int32)) = (0 : Int32))))), .val (.ref b47), .val (.ref b42), .unset, .unset] []))
        refine go (fun _ k => XS.iload X50.here hx rfl (hb hby at_70) rfl  k) ?_
        show Go p e below _ (T50.setTop (mkF m 72 #[.val (.int p1), .val (.int p2), .val (.int p3), .val (.int p4), .val (.int (bz (¬ ((p4 &&& (1 : Int32)) = (0 : Int32))))), .val (.int (((p4.toUInt32 >>> ((1 : Int32) &&& 31).toUInt32).toInt32) &&& (3 : Int32))), .val (.int (bz (¬ ((p4 &&& (8 : Int32)) = (0 : Int32))))), .val (.ref b47), .val (.ref b42), .unset, .unset] [(.int (((p4.toUInt32 >>> ((1 : Int32) &&& 31).toUInt32).toInt32) &&& (3 : Int32)))]))
        by_cases hc72_9 : (((p4.toUInt32 >>> ((1 : Int32) &&& 31).toUInt32).toInt32) &&& (3 : Int32)) = (0 : Int32)
        · skip
          refine go (fun _ k => XS.ifNo X50.here hx rfl (hb hby at_72) rfl ((if0 _ _).trans (teq hc72_9).2) k) ?_
          show Go p e below _ (T50.setTop (mkF m 75 #[.val (.int p1), .val (.int p2), .val (.int p3), .val (.int p4), .val (.int (bz (¬ ((p4 &&& (1 : Int32)) = (0 : Int32))))), .val (.int (((p4.toUInt32 >>> ((1 : Int32) &&& 31).toUInt32).toInt32) &&& (3 : Int32))), .val (.int (bz (¬ ((p4 &&& (8 : Int32)) = (0 : Int32))))), .val (.ref b47), .val (.ref b42), .unset, .unset] []))
          refine go (fun _ k => XS.aconstNull X50.here hx rfl (hb hby at_75) k) ?_
          show Go p e below _ (T50.setTop (mkF m 76 #[.val (.int p1), .val (.int p2), .val (.int p3), .val (.int p4), .val (.int (bz (¬ ((p4 &&& (1 : Int32)) = (0 : Int32))))), .val (.int (((p4.toUInt32 >>> ((1 : Int32) &&& 31).toUInt32).toInt32) &&& (3 : Int32))), .val (.int (bz (¬ ((p4 &&& (8 : Int32)) = (0 : Int32))))), .val (.ref b47), .val (.ref b42), .unset, .unset] [.null]))
          refine go (fun _ k => XS.astore X50.here hx rfl (hb hby at_76) rfl rfl (l' := #[.val (.int p1), .val (.int p2), .val (.int p3), .val (.int p4), .val (.int (bz (¬ ((p4 &&& (1 : Int32)) = (0 : Int32))))), .val (.int (((p4.toUInt32 >>> ((1 : Int32) &&& 31).toUInt32).toInt32) &&& (3 : Int32))), .val (.int (bz (¬ ((p4 &&& (8 : Int32)) = (0 : Int32))))), .val (.ref b47), .val .null, .unset, .unset]) rfl k) ?_
          show Go p e below _ (T50.setTop (mkF m 78 #[.val (.int p1), .val (.int p2), .val (.int p3), .val (.int p4), .val (.int (bz (¬ ((p4 &&& (1 : Int32)) = (0 : Int32))))), .val (.int (((p4.toUInt32 >>> ((1 : Int32) &&& 31).toUInt32).toInt32) &&& (3 : Int32))), .val (.int (bz (¬ ((p4 &&& (8 : Int32)) = (0 : Int32))))), .val (.ref b47), .val .null, .unset, .unset] []))
          refine go (fun _ k => XS.goto X50.here hx rfl (pc0 := 78) (pc' := 156) rfl (hb hby at_78) (by decide) (by decide) k) ?_
          show Go p e below _ (T50.setTop (mkF m 156 #[.val (.int p1), .val (.int p2), .val (.int p3), .val (.int p4), .val (.int (bz (¬ ((p4 &&& (1 : Int32)) = (0 : Int32))))), .val (.int (((p4.toUInt32 >>> ((1 : Int32) &&& 31).toUInt32).toInt32) &&& (3 : Int32))), .val (.int (bz (¬ ((p4 &&& (8 : Int32)) = (0 : Int32))))), .val (.ref b47), .val .null, .unset, .unset] []))
          obtain ⟨T54, h54, X54, e54, E54, A54, D54, -, st54⟩ := newO X50 hx hZ hown (hw _ (List.mem_of_getElem? (i := 30) rfl)) (hw _ (List.mem_of_getElem? (i := 31) rfl)) (hw _ (List.mem_of_getElem? (i := 32) rfl)) rfl (g := (mkF m 156 #[.val (.int p1), .val (.int p2), .val (.int p3), .val (.int p4), .val (.int (bz (¬ ((p4 &&& (1 : Int32)) = (0 : Int32))))), .val (.int (((p4.toUInt32 >>> ((1 : Int32) &&& 31).toUInt32).toInt32) &&& (3 : Int32))), .val (.int (bz (¬ ((p4 &&& (8 : Int32)) = (0 : Int32))))), .val (.ref b47), .val .null, .unset, .unset] [])) rfl (hb hby at_156) (by decide) (by decide)
          obtain ⟨b54, gz54⟩ : ∃ z, z = T50.heap.size := ⟨_, rfl⟩
          rw [← gz54] at A54 D54 st54
          have K55 : Keep h0 T50.heap [] := (K51.trans r50_0 (allS (Or.inr sz_b47) all0))
          have sz_b54 : h0.size ≤ b54 := Nat.le_trans K55.1 (Nat.le_of_eq gz54.symm)
          have g_b54 : n0 ≤ b54 := Nat.le_trans Z0 sz_b54
          have F_name_b54 : Fld Z h54 b54 "com/example/tidemark/tidemark/Option" "name" "Ljava/lang/String;" .null := D54 (Or.inr (hw _ (List.mem_of_getElem? (i := 43) rfl))) (ty := (.object "java/lang/String")) (by decide)
          have F_value_b54 : Fld Z h54 b54 "com/example/tidemark/tidemark/Option" "value" "Ljava/lang/String;" .null := D54 (Or.inr (hw _ (List.mem_of_getElem? (i := 45) rfl))) (ty := (.object "java/lang/String")) (by decide)
          have F_required_b54 : Fld Z h54 b54 "com/example/tidemark/tidemark/Option" "required" "Z" (.int (0 : Int32)) := D54 (Or.inr (hw _ (List.mem_of_getElem? (i := 47) rfl))) (ty := .boolean) (by decide)
          refine go st54 ?_
          show Go p e below _ (T54.setTop (mkF m 159 #[.val (.int p1), .val (.int p2), .val (.int p3), .val (.int p4), .val (.int (bz (¬ ((p4 &&& (1 : Int32)) = (0 : Int32))))), .val (.int (((p4.toUInt32 >>> ((1 : Int32) &&& 31).toUInt32).toInt32) &&& (3 : Int32))), .val (.int (bz (¬ ((p4 &&& (8 : Int32)) = (0 : Int32))))), .val (.ref b47), .val .null, .unset, .unset] [(.ref b54)]))
          refine go (fun _ k => XS.dup X54.here hx rfl (hb hby at_159) rfl rfl k) ?_
          show Go p e below _ (T54.setTop (mkF m 160 #[.val (.int p1), .val (.int p2), .val (.int p3), .val (.int p4), .val (.int (bz (¬ ((p4 &&& (1 : Int32)) = (0 : Int32))))), .val (.int (((p4.toUInt32 >>> ((1 : Int32) &&& 31).toUInt32).toInt32) &&& (3 : Int32))), .val (.int (bz (¬ ((p4 &&& (8 : Int32)) = (0 : Int32))))), .val (.ref b47), .val .null, .unset, .unset] [(.ref b54), (.ref b54)]))
          refine go (fun _ k => XS.aload X54.here hx rfl (hb hby at_160) rfl rfl  k) ?_
          show Go p e below _ (T54.setTop (mkF m 162 #[.val (.int p1), .val (.int p2), .val (.int p3), .val (.int p4), .val (.int (bz (¬ ((p4 &&& (1 : Int32)) = (0 : Int32))))), .val (.int (((p4.toUInt32 >>> ((1 : Int32) &&& 31).toUInt32).toInt32) &&& (3 : Int32))), .val (.int (bz (¬ ((p4 &&& (8 : Int32)) = (0 : Int32))))), .val (.ref b47), .val .null, .unset, .unset] [(.ref b47), (.ref b54), (.ref b54)]))
          refine go (fun _ k => XS.aload X54.here hx rfl (hb hby at_162) rfl rfl  k) ?_
          show Go p e below _ (T54.setTop (mkF m 164 #[.val (.int p1), .val (.int p2), .val (.int p3), .val (.int p4), .val (.int (bz (¬ ((p4 &&& (1 : Int32)) = (0 : Int32))))), .val (.int (((p4.toUInt32 >>> ((1 : Int32) &&& 31).toUInt32).toInt32) &&& (3 : Int32))), .val (.int (bz (¬ ((p4 &&& (8 : Int32)) = (0 : Int32))))), .val (.ref b47), .val .null, .unset, .unset] [.null, (.ref b47), (.ref b54), (.ref b54)]))
          refine go (fun _ k => XS.iload X54.here hx rfl (hb hby at_164) rfl  k) ?_
          show Go p e below _ (T54.setTop (mkF m 166 #[.val (.int p1), .val (.int p2), .val (.int p3), .val (.int p4), .val (.int (bz (¬ ((p4 &&& (1 : Int32)) = (0 : Int32))))), .val (.int (((p4.toUInt32 >>> ((1 : Int32) &&& 31).toUInt32).toInt32) &&& (3 : Int32))), .val (.int (bz (¬ ((p4 &&& (8 : Int32)) = (0 : Int32))))), .val (.ref b47), .val .null, .unset, .unset] [(.int (bz (¬ ((p4 &&& (1 : Int32)) = (0 : Int32))))), .null, (.ref b47), (.ref b54), (.ref b54)]))
          have K57 : Keep h0 h54 [] := (K55.ext E54)
          obtain ⟨_, _, ⟨T56, Lb56, cn56, sn56⟩, -, X56, ⟨Lc56, hQ56, lq56, yq56, zq56⟩, st56⟩ := X54.specialBack hx (y := (⟨"com/example/tidemark/tidemark/Option", "<init>", "(Ljava/lang/String;Ljava/lang/String;Z)V"⟩ : MethodName)) rfl hown (mvT hZ (hw _ (List.mem_of_getElem? (i := 33) rfl))) (mvT hZ (hw _ (List.mem_of_getElem? (i := 34) rfl))) (mvT hZ (hw _ (List.mem_of_getElem? (i := 35) rfl))) (by decide) (backOf (W := 1) (rm7 l Z a0 hw [] b54 (Value.ref b47) Value.null (bz (¬ ((p4 &&& (1 : Int32)) = (0 : Int32)))) .null .null (.int (0 : Int32)) h54 n0 (Nat.le_trans Z0 K57.1) (rfl : (Value.ref b47).isRef = true) (rfl : Value.null.isRef = true) A54 g_b54 F_name_b54 F_value_b54 F_required_b54) hZ (hw _ (List.mem_of_getElem? (i := 35) rfl)) (hw _ (List.mem_of_getElem? (i := 32) rfl)) (by decide) (by decide)) (g := (mkF m 166 #[.val (.int p1), .val (.int p2), .val (.int p3), .val (.int p4), .val (.int (bz (¬ ((p4 &&& (1 : Int32)) = (0 : Int32))))), .val (.int (((p4.toUInt32 >>> ((1 : Int32) &&& 31).toUInt32).toInt32) &&& (3 : Int32))), .val (.int (bz (¬ ((p4 &&& (8 : Int32)) = (0 : Int32))))), .val (.ref b47), .val .null, .unset, .unset] [(.int (bz (¬ ((p4 &&& (1 : Int32)) = (0 : Int32))))), .null, (.ref b47), (.ref b54), (.ref b54)])) rfl (by rw [hml]; rfl) (Steps.refl _) (a := b54) (argsL := [(.ref b47), .null, (.int (bz (¬ ((p4 &&& (1 : Int32)) = (0 : Int32)))))]) (rest := [(.ref b54)]) (lenOf pd_8 rfl) rfl (by show 2 * 0 + _ ≤ _; exact Nat.le_of_eq rfl) (hb hby at_166) (fun _ _ => ⟨rfl, e54, (by decide : 4 + 0 ≤ _), (by decide : 9 + 0 ≤ _)⟩)
          dsimp only [Pt.U, Pt.locs, Pt.cells, Pt.slots] at X56 lq56 yq56 zq56 st56 hQ56
          subst lq56 yq56 zq56
          obtain ⟨rfl, N56q, r56_0, r56_1, r56_2⟩ := hQ56
          have N56 := Fr.app N50 N56q
          refine go (fun _ k => st56.trans k) ?_
          show Go p e below _ (T56.setTop (mkF m 169 #[.val (.int p1), .val (.int p2), .val (.int p3), .val (.int p4), .val (.int (bz (¬ ((p4 &&& (1 : Int32)) = (0 : Int32))))), .val (.int (((p4.toUInt32 >>> ((1 : Int32) &&& 31).toUInt32).toInt32) &&& (3 : Int32))), .val (.int (bz (¬ ((p4 &&& (8 : Int32)) = (0 : Int32))))), .val (.ref b47), .val .null, .unset, .unset] [(.ref b54)]))
          refine go (fun _ k => XS.astore X56.here hx rfl (hb hby at_169) rfl rfl (l' := #[.val (.int p1), .val (.int p2), .val (.int p3), .val (.int p4), .val (.int (bz (¬ ((p4 &&& (1 : Int32)) = (0 : Int32))))), .val (.int (((p4.toUInt32 >>> ((1 : Int32) &&& 31).toUInt32).toInt32) &&& (3 : Int32))), .val (.int (bz (¬ ((p4 &&& (8 : Int32)) = (0 : Int32))))), .val (.ref b47), .val .null, .val (.ref b54), .unset]) rfl k) ?_
          show Go p e below _ (T56.setTop (mkF m 171 #[.val (.int p1), .val (.int p2), .val (.int p3), .val (.int p4), .val (.int (bz (¬ ((p4 &&& (1 : Int32)) = (0 : Int32))))), .val (.int (((p4.toUInt32 >>> ((1 : Int32) &&& 31).toUInt32).toInt32) &&& (3 : Int32))), .val (.int (bz (¬ ((p4 &&& (8 : Int32)) = (0 : Int32))))), .val (.ref b47), .val .null, .val (.ref b54), .unset] []))
          refine go (fun _ k => XS.iload X56.here hx rfl (hb hby at_171) rfl  k) ?_
          show Go p e below _ (T56.setTop (mkF m 173 #[.val (.int p1), .val (.int p2), .val (.int p3), .val (.int p4), .val (.int (bz (¬ ((p4 &&& (1 : Int32)) = (0 : Int32))))), .val (.int (((p4.toUInt32 >>> ((1 : Int32) &&& 31).toUInt32).toInt32) &&& (3 : Int32))), .val (.int (bz (¬ ((p4 &&& (8 : Int32)) = (0 : Int32))))), .val (.ref b47), .val .null, .val (.ref b54), .unset] [(.int (((p4.toUInt32 >>> ((1 : Int32) &&& 31).toUInt32).toInt32) &&& (3 : Int32)))]))
          refine go (fun _ k => XS.ifYes X56.here hx rfl (pc0 := 173) (pc' := 180) rfl (hb hby at_173) rfl ((if0 _ _).trans (teq hc72_9).1) (by decide) (by decide) k) ?_
          show Go p e below _ (T56.setTop (mkF m 180 #[.val (.int p1), .val (.int p2), .val (.int p3), .val (.int p4), .val (.int (bz (¬ ((p4 &&& (1 : Int32)) = (0 : Int32))))), .val (.int (((p4.toUInt32 >>> ((1 : Int32) &&& 31).toUInt32).toInt32) &&& (3 : Int32))), .val (.int (bz (¬ ((p4 &&& (8 : Int32)) = (0 : Int32))))), .val (.ref b47), .val .null, .val (.ref b54), .unset] []))
          refine go (fun _ k => XS.iconst X56.here hx rfl (hb hby at_180) k) ?_
          show Go p e below _ (T56.setTop (mkF m 181 #[.val (.int p1), .val (.int p2), .val (.int p3), .val (.int p4), .val (.int (bz (¬ ((p4 &&& (1 : Int32)) = (0 : Int32))))), .val (.int (((p4.toUInt32 >>> ((1 : Int32) &&& 31).toUInt32).toInt32) &&& (3 : Int32))), .val (.int (bz (¬ ((p4 &&& (8 : Int32)) = (0 : Int32))))), .val (.ref b47), .val .null, .val (.ref b54), .unset] [(.int (0 : Int32))]))
          refine go (fun _ k => XS.istore X56.here hx rfl (hb hby at_181) rfl (l' := #[.val (.int p1), .val (.int p2), .val (.int p3), .val (.int p4), .val (.int (bz (¬ ((p4 &&& (1 : Int32)) = (0 : Int32))))), .val (.int (((p4.toUInt32 >>> ((1 : Int32) &&& 31).toUInt32).toInt32) &&& (3 : Int32))), .val (.int (bz (¬ ((p4 &&& (8 : Int32)) = (0 : Int32))))), .val (.ref b47), .val .null, .val (.ref b54), .val (.int (0 : Int32))]) rfl k) ?_
          show Go p e below _ (T56.setTop (mkF m 183 #[.val (.int p1), .val (.int p2), .val (.int p3), .val (.int p4), .val (.int (bz (¬ ((p4 &&& (1 : Int32)) = (0 : Int32))))), .val (.int (((p4.toUInt32 >>> ((1 : Int32) &&& 31).toUInt32).toInt32) &&& (3 : Int32))), .val (.int (bz (¬ ((p4 &&& (8 : Int32)) = (0 : Int32))))), .val (.ref b47), .val .null, .val (.ref b54), .val (.int (0 : Int32))] []))
          refine go (fun _ k => XS.aload X56.here hx rfl (hb hby at_183) rfl rfl  k) ?_
          show Go p e below _ (T56.setTop (mkF m 185 #[.val (.int p1), .val (.int p2), .val (.int p3), .val (.int p4), .val (.int (bz (¬ ((p4 &&& (1 : Int32)) = (0 : Int32))))), .val (.int (((p4.toUInt32 >>> ((1 : Int32) &&& 31).toUInt32).toInt32) &&& (3 : Int32))), .val (.int (bz (¬ ((p4 &&& (8 : Int32)) = (0 : Int32))))), .val (.ref b47), .val .null, .val (.ref b54), .val (.int (0 : Int32))] [(.ref b54)]))
          have K59 : Keep h0 T56.heap [] := (K57.trans r56_0 (allS (Or.inr sz_b54) all0))
          obtain ⟨cq58, kq58, q58a, q58b, q58c⟩ := isOf hZ rfl r56_1
          obtain ⟨_, _, ⟨T58, Lb58, cn58, sn58⟩, -, X58, ⟨Lc58, hQ58, lq58, yq58, zq58⟩, st58⟩ := X56.virtualBack hx (y := (⟨"com/example/tidemark/tidemark/Option", "takesValue", "()Z"⟩ : MethodName)) (z := (⟨"com/example/tidemark/tidemark/Option", "takesValue", "()Z"⟩ : MethodName)) hown (mvT hZ (hw _ (List.mem_of_getElem? (i := 48) rfl))) (mvT hZ (hw _ (List.mem_of_getElem? (i := 49) rfl))) (notFace_of_selects (args := #[]) (mvT hZ (hw _ (List.mem_of_getElem? (i := 51) rfl)))) (mvT hZ (hw _ (List.mem_of_getElem? (i := 51) rfl))) (mvT hZ (hw _ (List.mem_of_getElem? (i := 50) rfl))) (by decide) (backOf (W := 0) (rmtN l Z a0 hw [] b54 T56.heap n0 (Nat.le_trans Z0 K59.1) r56_1 r56_2) hZ (hw _ (List.mem_of_getElem? (i := 52) rfl)) (hw _ (List.mem_of_getElem? (i := 32) rfl)) (by decide) (by decide)) q58a q58c (g := (mkF m 185 #[.val (.int p1), .val (.int p2), .val (.int p3), .val (.int p4), .val (.int (bz (¬ ((p4 &&& (1 : Int32)) = (0 : Int32))))), .val (.int (((p4.toUInt32 >>> ((1 : Int32) &&& 31).toUInt32).toInt32) &&& (3 : Int32))), .val (.int (bz (¬ ((p4 &&& (8 : Int32)) = (0 : Int32))))), .val (.ref b47), .val .null, .val (.ref b54), .val (.int (0 : Int32))] [(.ref b54)])) rfl (by rw [hml]; rfl) (Steps.refl _) (argsL := []) (rest := []) (lenOf pd_9 rfl) rfl (by show 2 * 0 + _ ≤ _; exact Nat.le_of_eq rfl) (hb hby at_185) (fun _ _ => ⟨rfl, rfl, (by decide : 4 + 0 ≤ _), (by decide : 9 + 0 ≤ _)⟩)
          dsimp only [Pt.U, Pt.locs, Pt.cells, Pt.slots] at X58 lq58 yq58 zq58 st58 hQ58
          subst lq58 yq58 zq58
          obtain ⟨rfl, N58q, e58⟩ := hQ58
          have N58 := Fr.app N56 N58q
          skip
          refine go (fun _ k => st58.trans k) ?_
          show Go p e below _ (T58.setTop (mkF m 188 #[.val (.int p1), .val (.int p2), .val (.int p3), .val (.int p4), .val (.int (bz (¬ ((p4 &&& (1 : Int32)) = (0 : Int32))))), .val (.int (((p4.toUInt32 >>> ((1 : Int32) &&& 31).toUInt32).toInt32) &&& (3 : Int32))), .val (.int (bz (¬ ((p4 &&& (8 : Int32)) = (0 : Int32))))), .val (.ref b47), .val .null, .val (.ref b54), .val (.int (0 : Int32))] [(.int (0 : Int32))]))
          refine go (fun _ k => XS.iload X58.here hx rfl (hb hby at_188) rfl  k) ?_
          show Go p e below _ (T58.setTop (mkF m 190 #[.val (.int p1), .val (.int p2), .val (.int p3), .val (.int p4), .val (.int (bz (¬ ((p4 &&& (1 : Int32)) = (0 : Int32))))), .val (.int (((p4.toUInt32 >>> ((1 : Int32) &&& 31).toUInt32).toInt32) &&& (3 : Int32))), .val (.int (bz (¬ ((p4 &&& (8 : Int32)) = (0 : Int32))))), .val (.ref b47), .val .null, .val (.ref b54), .val (.int (0 : Int32))] [(.int (0 : Int32)), (.int (0 : Int32))]))
          refine go (fun _ k => XS.icmpNo X58.here hx rfl (hb hby at_190) rfl (teq (by decide : (0 : Int32) = (0 : Int32))).2 k) ?_
          show Go p e below _ (T58.setTop (mkF m 193 #[.val (.int p1), .val (.int p2), .val (.int p3), .val (.int p4), .val (.int (bz (¬ ((p4 &&& (1 : Int32)) = (0 : Int32))))), .val (.int (((p4.toUInt32 >>> ((1 : Int32) &&& 31).toUInt32).toInt32) &&& (3 : Int32))), .val (.int (bz (¬ ((p4 &&& (8 : Int32)) = (0 : Int32))))), .val (.ref b47), .val .null, .val (.ref b54), .val (.int (0 : Int32))] []))
          refine go (fun _ k => XS.iconst X58.here hx rfl (hb hby at_193) k) ?_
          show Go p e below _ (T58.setTop (mkF m 194 #[.val (.int p1), .val (.int p2), .val (.int p3), .val (.int p4), .val (.int (bz (¬ ((p4 &&& (1 : Int32)) = (0 : Int32))))), .val (.int (((p4.toUInt32 >>> ((1 : Int32) &&& 31).toUInt32).toInt32) &&& (3 : Int32))), .val (.int (bz (¬ ((p4 &&& (8 : Int32)) = (0 : Int32))))), .val (.ref b47), .val .null, .val (.ref b54), .val (.int (0 : Int32))] [(.int (1 : Int32))]))
          refine go (fun _ k => XS.goto X58.here hx rfl (pc0 := 194) (pc' := 198) rfl (hb hby at_194) (by decide) (by decide) k) ?_
          show Go p e below _ (T58.setTop (mkF m 198 #[.val (.int p1), .val (.int p2), .val (.int p3), .val (.int p4), .val (.int (bz (¬ ((p4 &&& (1 : Int32)) = (0 : Int32))))), .val (.int (((p4.toUInt32 >>> ((1 : Int32) &&& 31).toUInt32).toInt32) &&& (3 : Int32))), .val (.int (bz (¬ ((p4 &&& (8 : Int32)) = (0 : Int32))))), .val (.ref b47), .val .null, .val (.ref b54), .val (.int (0 : Int32))] [(.int (1 : Int32))]))
          obtain ⟨fs, hr, hrun, hended, hEW⟩ := X58.leaveW (vm₁ := s.vm) hS0 (by rw [e58]; exact (Nat.le_trans (Nat.le_trans (Nat.le_trans (Nat.le_trans (Nat.le_trans (Nat.le_trans hk0 E42.1) (Keep.of_wr W44).1) E47.1) r50_0.1) E54.1) r56_0.1)) (v := some (.int (1 : Int32))) (fun h => by rw [Bd.returns] at h; cases h)
          refine leafW (T := T58) ⟨fs, retN X58 hx (t := .boolean) Bd.returns (by simp) (hb hby at_198) hr, hrun, hended, hEW⟩ ?_ (by decide) (by decide)
          show Q0 Z p1 p2 p3 p4 cs h0 n0 _ T58.heap _
          rw [e58]
          exact ⟨rfl, N58⟩
        · skip
          refine go (fun _ k => XS.ifYes X50.here hx rfl (pc0 := 72) (pc' := 81) rfl (hb hby at_72) rfl ((if0 _ _).trans (feq hc72_9).2) (by decide) (by decide) k) ?_
          show Go p e below _ (T50.setTop (mkF m 81 #[.val (.int p1), .val (.int p2), .val (.int p3), .val (.int p4), .val (.int (bz (¬ ((p4 &&& (1 : Int32)) = (0 : Int32))))), .val (.int (((p4.toUInt32 >>> ((1 : Int32) &&& 31).toUInt32).toInt32) &&& (3 : Int32))), .val (.int (bz (¬ ((p4 &&& (8 : Int32)) = (0 : Int32))))), .val (.ref b47), .val (.ref b42), .unset, .unset] []))
          refine go (fun _ k => XS.iload X50.here hx rfl (hb hby at_81) rfl  k) ?_
          show Go p e below _ (T50.setTop (mkF m 83 #[.val (.int p1), .val (.int p2), .val (.int p3), .val (.int p4), .val (.int (bz (¬ ((p4 &&& (1 : Int32)) = (0 : Int32))))), .val (.int (((p4.toUInt32 >>> ((1 : Int32) &&& 31).toUInt32).toInt32) &&& (3 : Int32))), .val (.int (bz (¬ ((p4 &&& (8 : Int32)) = (0 : Int32))))), .val (.ref b47), .val (.ref b42), .unset, .unset] [(.int (((p4.toUInt32 >>> ((1 : Int32) &&& 31).toUInt32).toInt32) &&& (3 : Int32)))]))
          refine go (fun _ k => XS.iconst X50.here hx rfl (hb hby at_83) k) ?_
          show Go p e below _ (T50.setTop (mkF m 84 #[.val (.int p1), .val (.int p2), .val (.int p3), .val (.int p4), .val (.int (bz (¬ ((p4 &&& (1 : Int32)) = (0 : Int32))))), .val (.int (((p4.toUInt32 >>> ((1 : Int32) &&& 31).toUInt32).toInt32) &&& (3 : Int32))), .val (.int (bz (¬ ((p4 &&& (8 : Int32)) = (0 : Int32))))), .val (.ref b47), .val (.ref b42), .unset, .unset] [(.int (1 : Int32)), (.int (((p4.toUInt32 >>> ((1 : Int32) &&& 31).toUInt32).toInt32) &&& (3 : Int32)))]))
          by_cases hc84_10 : (((p4.toUInt32 >>> ((1 : Int32) &&& 31).toUInt32).toInt32) &&& (3 : Int32)) = (1 : Int32)
          · skip
            refine go (fun _ k => XS.icmpNo X50.here hx rfl (hb hby at_84) rfl (teq hc84_10).2 k) ?_
            show Go p e below _ (T50.setTop (mkF m 87 #[.val (.int p1), .val (.int p2), .val (.int p3), .val (.int p4), .val (.int (bz (¬ ((p4 &&& (1 : Int32)) = (0 : Int32))))), .val (.int (((p4.toUInt32 >>> ((1 : Int32) &&& 31).toUInt32).toInt32) &&& (3 : Int32))), .val (.int (bz (¬ ((p4 &&& (8 : Int32)) = (0 : Int32))))), .val (.ref b47), .val (.ref b42), .unset, .unset] []))
            obtain ⟨T60, h60, X60, e60, E60, A60, D60, -, st60⟩ := newO X50 hx hZ hown (hw _ (List.mem_of_getElem? (i := 1) rfl)) (hw _ (List.mem_of_getElem? (i := 2) rfl)) (hw _ (List.mem_of_getElem? (i := 3) rfl)) rfl (g := (mkF m 87 #[.val (.int p1), .val (.int p2), .val (.int p3), .val (.int p4), .val (.int (bz (¬ ((p4 &&& (1 : Int32)) = (0 : Int32))))), .val (.int (((p4.toUInt32 >>> ((1 : Int32) &&& 31).toUInt32).toInt32) &&& (3 : Int32))), .val (.int (bz (¬ ((p4 &&& (8 : Int32)) = (0 : Int32))))), .val (.ref b47), .val (.ref b42), .unset, .unset] [])) rfl (hb hby at_87) (by decide) (by decide)
            obtain ⟨b60, gz60⟩ : ∃ z, z = T50.heap.size := ⟨_, rfl⟩
            rw [← gz60] at A60 D60 st60
            have K61 : Keep h0 T50.heap [] := (K51.trans r50_0 (allS (Or.inr sz_b47) all0))
            have sz_b60 : h0.size ≤ b60 := Nat.le_trans K61.1 (Nat.le_of_eq gz60.symm)
            have g_b60 : n0 ≤ b60 := Nat.le_trans Z0 sz_b60
            have R62 := R52.trans (CHr.ext E60 R52.1)
            have F_coder_b60 : Fld Z h60 b60 "java/lang/String" "coder" "B" (.int (0 : Int32)) := D60 (Or.inr (hw _ (List.mem_of_getElem? (i := 27) rfl))) (ty := .byte) (by decide)
            have F_value_b60 : Fld Z h60 b60 "java/lang/String" "value" "[B" .null := D60 (Or.inr (hw _ (List.mem_of_getElem? (i := 29) rfl))) (ty := (.array .byte)) (by decide)
            refine go st60 ?_
            show Go p e below _ (T60.setTop (mkF m 90 #[.val (.int p1), .val (.int p2), .val (.int p3), .val (.int p4), .val (.int (bz (¬ ((p4 &&& (1 : Int32)) = (0 : Int32))))), .val (.int (((p4.toUInt32 >>> ((1 : Int32) &&& 31).toUInt32).toInt32) &&& (3 : Int32))), .val (.int (bz (¬ ((p4 &&& (8 : Int32)) = (0 : Int32))))), .val (.ref b47), .val (.ref b42), .unset, .unset] [(.ref b60)]))
            refine go (fun _ k => XS.dup X60.here hx rfl (hb hby at_90) rfl rfl k) ?_
            show Go p e below _ (T60.setTop (mkF m 91 #[.val (.int p1), .val (.int p2), .val (.int p3), .val (.int p4), .val (.int (bz (¬ ((p4 &&& (1 : Int32)) = (0 : Int32))))), .val (.int (((p4.toUInt32 >>> ((1 : Int32) &&& 31).toUInt32).toInt32) &&& (3 : Int32))), .val (.int (bz (¬ ((p4 &&& (8 : Int32)) = (0 : Int32))))), .val (.ref b47), .val (.ref b42), .unset, .unset] [(.ref b60), (.ref b60)]))
            refine go (fun _ k => XS.iconst X60.here hx rfl (hb hby at_91) k) ?_
            show Go p e below _ (T60.setTop (mkF m 92 #[.val (.int p1), .val (.int p2), .val (.int p3), .val (.int p4), .val (.int (bz (¬ ((p4 &&& (1 : Int32)) = (0 : Int32))))), .val (.int (((p4.toUInt32 >>> ((1 : Int32) &&& 31).toUInt32).toInt32) &&& (3 : Int32))), .val (.int (bz (¬ ((p4 &&& (8 : Int32)) = (0 : Int32))))), .val (.ref b47), .val (.ref b42), .unset, .unset] [(.int (0 : Int32)), (.ref b60), (.ref b60)]))
            obtain ⟨T63, h63, ka63, X63, e63, E63, A63, st63⟩ := newP X60 hx hZ (hw _ (List.mem_of_getElem? (i := 0) rfl)) e60 (g := (mkF m 92 #[.val (.int p1), .val (.int p2), .val (.int p3), .val (.int p4), .val (.int (bz (¬ ((p4 &&& (1 : Int32)) = (0 : Int32))))), .val (.int (((p4.toUInt32 >>> ((1 : Int32) &&& 31).toUInt32).toInt32) &&& (3 : Int32))), .val (.int (bz (¬ ((p4 &&& (8 : Int32)) = (0 : Int32))))), .val (.ref b47), .val (.ref b42), .unset, .unset] [(.int (0 : Int32)), (.ref b60), (.ref b60)])) rfl (hb hby at_92) rfl (by decide) (cap := 0) (by decide) (by decide) (by decide) (by decide)
            obtain ⟨b63, gz63⟩ : ∃ z, z = h60.size := ⟨_, rfl⟩
            rw [← gz63] at A63 st63
            have K64 : Keep h0 h60 [] := (K61.ext E60)
            have sz_b63 : h0.size ≤ b63 := Nat.le_trans K64.1 (Nat.le_of_eq gz63.symm)
            have g_b63 : n0 ≤ b63 := Nat.le_trans Z0 sz_b63
            have R65 := R62.trans (CHr.ext E63 R62.1)
            have V_b63 : Arv Z h63 b63 ka63 .char (0 : Int32) [] (.int (0 : Int32)) := Arv.new A63 (by decide)
            refine go st63 ?_
            show Go p e below _ (T63.setTop (mkF m 94 #[.val (.int p1), .val (.int p2), .val (.int p3), .val (.int p4), .val (.int (bz (¬ ((p4 &&& (1 : Int32)) = (0 : Int32))))), .val (.int (((p4.toUInt32 >>> ((1 : Int32) &&& 31).toUInt32).toInt32) &&& (3 : Int32))), .val (.int (bz (¬ ((p4 &&& (8 : Int32)) = (0 : Int32))))), .val (.ref b47), .val (.ref b42), .unset, .unset] [(.ref b63), (.ref b60), (.ref b60)]))
            have K67 : Keep h0 h63 [] := (K64.ext E63)
            obtain ⟨_, _, ⟨T66, Lb66, cn66, sn66⟩, -, X66, hS2_66, hg2_66, ⟨Lc66, hQ66, lq66, yq66, zq66, A66⟩, st66⟩ := X63.specialBackS hx (y := (⟨"java/lang/String", "<init>", "([C)V"⟩ : MethodName)) rfl hown (mvT hZ (hw _ (List.mem_of_getElem? (i := 4) rfl))) (mvT hZ (hw _ (List.mem_of_getElem? (i := 5) rfl))) (mvT hZ (hw _ (List.mem_of_getElem? (i := 6) rfl))) (by decide) (backOfSH (W := 1) (rmc5_0 l Z a0 hw [] b60 b63 (.int (0 : Int32)) ka63 ([]) h63 n0 (Nat.le_trans Z0 K67.1) (A60.ext E63) g_b60 (F_value_b60.ext E63) (F_coder_b60.ext E63) V_b63) hZ (hw _ (List.mem_of_getElem? (i := 6) rfl)) (hw _ (List.mem_of_getElem? (i := 3) rfl)) (by decide) (by decide) (own_EW hw) R65.1) (g := (mkF m 94 #[.val (.int p1), .val (.int p2), .val (.int p3), .val (.int p4), .val (.int (bz (¬ ((p4 &&& (1 : Int32)) = (0 : Int32))))), .val (.int (((p4.toUInt32 >>> ((1 : Int32) &&& 31).toUInt32).toInt32) &&& (3 : Int32))), .val (.int (bz (¬ ((p4 &&& (8 : Int32)) = (0 : Int32))))), .val (.ref b47), .val (.ref b42), .unset, .unset] [(.ref b63), (.ref b60), (.ref b60)])) rfl (by rw [hml]; rfl) (Steps.refl _) (a := b60) (argsL := [(.ref b63)]) (rest := [(.ref b60)]) (lenOf pd_10 rfl) rfl (by show 2 * 0 + _ ≤ _; exact Nat.le_of_eq rfl) (hb hby at_94) (fun _ _ => ⟨rfl, e63, (by decide : 5 + 4 ≤ _), (by decide : 10 + 8 ≤ _)⟩)
            dsimp only [Pt.U, Pt.locs, Pt.cells, Pt.slots] at X66 lq66 yq66 zq66 st66 hQ66 hS2_66 hg2_66 A66
            subst lq66 yq66 zq66
            have hS66 := foldS hS0 (by rw [e63]; exact (Nat.le_trans (Nat.le_trans (Nat.le_trans (Nat.le_trans (Nat.le_trans (Nat.le_trans hk0 E42.1) (Keep.of_wr W44).1) E47.1) r50_0.1) E60.1) E63.1)) hS2_66 hg2_66
            have X66 := reS (s := s) (vm0 := s.vm) X66
            have hZ66 := coldZ (vm0 := s.vm) hZ hS2_66
            have hown66 := coldO (vm0 := s.vm) hown hS2_66
            obtain ⟨rfl, N66q, r66_0, r66_1⟩ := hQ66
            have N66 := Fr.app N50 N66q
            have R68 := R65.trans A66
            refine go (fun _ k => st66.trans k) ?_
            show Go p e below _ (T66.setTop (mkF m 97 #[.val (.int p1), .val (.int p2), .val (.int p3), .val (.int p4), .val (.int (bz (¬ ((p4 &&& (1 : Int32)) = (0 : Int32))))), .val (.int (((p4.toUInt32 >>> ((1 : Int32) &&& 31).toUInt32).toInt32) &&& (3 : Int32))), .val (.int (bz (¬ ((p4 &&& (8 : Int32)) = (0 : Int32))))), .val (.ref b47), .val (.ref b42), .unset, .unset] [(.ref b60)]))
            refine go (fun _ k => XS.astore X66.here hx rfl (hb hby at_97) rfl rfl (l' := #[.val (.int p1), .val (.int p2), .val (.int p3), .val (.int p4), .val (.int (bz (¬ ((p4 &&& (1 : Int32)) = (0 : Int32))))), .val (.int (((p4.toUInt32 >>> ((1 : Int32) &&& 31).toUInt32).toInt32) &&& (3 : Int32))), .val (.int (bz (¬ ((p4 &&& (8 : Int32)) = (0 : Int32))))), .val (.ref b47), .val (.ref b60), .unset, .unset]) rfl k) ?_
            show Go p e below _ (T66.setTop (mkF m 99 #[.val (.int p1), .val (.int p2), .val (.int p3), .val (.int p4), .val (.int (bz (¬ ((p4 &&& (1 : Int32)) = (0 : Int32))))), .val (.int (((p4.toUInt32 >>> ((1 : Int32) &&& 31).toUInt32).toInt32) &&& (3 : Int32))), .val (.int (bz (¬ ((p4 &&& (8 : Int32)) = (0 : Int32))))), .val (.ref b47), .val (.ref b60), .unset, .unset] []))
            refine go (fun _ k => XS.goto X66.here hx rfl (pc0 := 99) (pc' := 156) rfl (hb hby at_99) (by decide) (by decide) k) ?_
            show Go p e below _ (T66.setTop (mkF m 156 #[.val (.int p1), .val (.int p2), .val (.int p3), .val (.int p4), .val (.int (bz (¬ ((p4 &&& (1 : Int32)) = (0 : Int32))))), .val (.int (((p4.toUInt32 >>> ((1 : Int32) &&& 31).toUInt32).toInt32) &&& (3 : Int32))), .val (.int (bz (¬ ((p4 &&& (8 : Int32)) = (0 : Int32))))), .val (.ref b47), .val (.ref b60), .unset, .unset] []))
            obtain ⟨T69, h69, X69, e69, E69, A69, D69, -, st69⟩ := newO X66 hx hZ66 hown66 (hw _ (List.mem_of_getElem? (i := 30) rfl)) (hw _ (List.mem_of_getElem? (i := 31) rfl)) (hw _ (List.mem_of_getElem? (i := 32) rfl)) rfl (g := (mkF m 156 #[.val (.int p1), .val (.int p2), .val (.int p3), .val (.int p4), .val (.int (bz (¬ ((p4 &&& (1 : Int32)) = (0 : Int32))))), .val (.int (((p4.toUInt32 >>> ((1 : Int32) &&& 31).toUInt32).toInt32) &&& (3 : Int32))), .val (.int (bz (¬ ((p4 &&& (8 : Int32)) = (0 : Int32))))), .val (.ref b47), .val (.ref b60), .unset, .unset] [])) rfl (hb hby at_156) (by decide) (by decide)
            obtain ⟨b69, gz69⟩ : ∃ z, z = T66.heap.size := ⟨_, rfl⟩
            rw [← gz69] at A69 D69 st69
            have K70 : Keep h0 T66.heap [] := (K67.trans r66_0 (allS (Or.inr sz_b60) all0))
            have sz_b69 : h0.size ≤ b69 := Nat.le_trans K70.1 (Nat.le_of_eq gz69.symm)
            have g_b69 : n0 ≤ b69 := Nat.le_trans Z0 sz_b69
            have F_name_b69 : Fld Z h69 b69 "com/example/tidemark/tidemark/Option" "name" "Ljava/lang/String;" .null := D69 (Or.inr (hw _ (List.mem_of_getElem? (i := 43) rfl))) (ty := (.object "java/lang/String")) (by decide)
            have F_value_b69 : Fld Z h69 b69 "com/example/tidemark/tidemark/Option" "value" "Ljava/lang/String;" .null := D69 (Or.inr (hw _ (List.mem_of_getElem? (i := 45) rfl))) (ty := (.object "java/lang/String")) (by decide)
            have F_required_b69 : Fld Z h69 b69 "com/example/tidemark/tidemark/Option" "required" "Z" (.int (0 : Int32)) := D69 (Or.inr (hw _ (List.mem_of_getElem? (i := 47) rfl))) (ty := .boolean) (by decide)
            refine go st69 ?_
            show Go p e below _ (T69.setTop (mkF m 159 #[.val (.int p1), .val (.int p2), .val (.int p3), .val (.int p4), .val (.int (bz (¬ ((p4 &&& (1 : Int32)) = (0 : Int32))))), .val (.int (((p4.toUInt32 >>> ((1 : Int32) &&& 31).toUInt32).toInt32) &&& (3 : Int32))), .val (.int (bz (¬ ((p4 &&& (8 : Int32)) = (0 : Int32))))), .val (.ref b47), .val (.ref b60), .unset, .unset] [(.ref b69)]))
            refine go (fun _ k => XS.dup X69.here hx rfl (hb hby at_159) rfl rfl k) ?_
            show Go p e below _ (T69.setTop (mkF m 160 #[.val (.int p1), .val (.int p2), .val (.int p3), .val (.int p4), .val (.int (bz (¬ ((p4 &&& (1 : Int32)) = (0 : Int32))))), .val (.int (((p4.toUInt32 >>> ((1 : Int32) &&& 31).toUInt32).toInt32) &&& (3 : Int32))), .val (.int (bz (¬ ((p4 &&& (8 : Int32)) = (0 : Int32))))), .val (.ref b47), .val (.ref b60), .unset, .unset] [(.ref b69), (.ref b69)]))
            refine go (fun _ k => XS.aload X69.here hx rfl (hb hby at_160) rfl rfl  k) ?_
            show Go p e below _ (T69.setTop (mkF m 162 #[.val (.int p1), .val (.int p2), .val (.int p3), .val (.int p4), .val (.int (bz (¬ ((p4 &&& (1 : Int32)) = (0 : Int32))))), .val (.int (((p4.toUInt32 >>> ((1 : Int32) &&& 31).toUInt32).toInt32) &&& (3 : Int32))), .val (.int (bz (¬ ((p4 &&& (8 : Int32)) = (0 : Int32))))), .val (.ref b47), .val (.ref b60), .unset, .unset] [(.ref b47), (.ref b69), (.ref b69)]))
            refine go (fun _ k => XS.aload X69.here hx rfl (hb hby at_162) rfl rfl  k) ?_
            show Go p e below _ (T69.setTop (mkF m 164 #[.val (.int p1), .val (.int p2), .val (.int p3), .val (.int p4), .val (.int (bz (¬ ((p4 &&& (1 : Int32)) = (0 : Int32))))), .val (.int (((p4.toUInt32 >>> ((1 : Int32) &&& 31).toUInt32).toInt32) &&& (3 : Int32))), .val (.int (bz (¬ ((p4 &&& (8 : Int32)) = (0 : Int32))))), .val (.ref b47), .val (.ref b60), .unset, .unset] [(.ref b60), (.ref b47), (.ref b69), (.ref b69)]))
            refine go (fun _ k => XS.iload X69.here hx rfl (hb hby at_164) rfl  k) ?_
            show Go p e below _ (T69.setTop (mkF m 166 #[.val (.int p1), .val (.int p2), .val (.int p3), .val (.int p4), .val (.int (bz (¬ ((p4 &&& (1 : Int32)) = (0 : Int32))))), .val (.int (((p4.toUInt32 >>> ((1 : Int32) &&& 31).toUInt32).toInt32) &&& (3 : Int32))), .val (.int (bz (¬ ((p4 &&& (8 : Int32)) = (0 : Int32))))), .val (.ref b47), .val (.ref b60), .unset, .unset] [(.int (bz (¬ ((p4 &&& (1 : Int32)) = (0 : Int32))))), (.ref b60), (.ref b47), (.ref b69), (.ref b69)]))
            have K72 : Keep h0 h69 [] := (K70.ext E69)
            obtain ⟨_, _, ⟨T71, Lb71, cn71, sn71⟩, -, X71, ⟨Lc71, hQ71, lq71, yq71, zq71⟩, st71⟩ := X69.specialBack hx (y := (⟨"com/example/tidemark/tidemark/Option", "<init>", "(Ljava/lang/String;Ljava/lang/String;Z)V"⟩ : MethodName)) rfl hown66 (mvT hZ66 (hw _ (List.mem_of_getElem? (i := 33) rfl))) (mvT hZ66 (hw _ (List.mem_of_getElem? (i := 34) rfl))) (mvT hZ66 (hw _ (List.mem_of_getElem? (i := 35) rfl))) (by decide) (backOf (W := 1) (rm7 l Z a0 hw [] b69 (Value.ref b47) (Value.ref b60) (bz (¬ ((p4 &&& (1 : Int32)) = (0 : Int32)))) .null .null (.int (0 : Int32)) h69 n0 (Nat.le_trans Z0 K72.1) (rfl : (Value.ref b47).isRef = true) (rfl : (Value.ref b60).isRef = true) A69 g_b69 F_name_b69 F_value_b69 F_required_b69) hZ66 (hw _ (List.mem_of_getElem? (i := 35) rfl)) (hw _ (List.mem_of_getElem? (i := 32) rfl)) (by decide) (by decide)) (g := (mkF m 166 #[.val (.int p1), .val (.int p2), .val (.int p3), .val (.int p4), .val (.int (bz (¬ ((p4 &&& (1 : Int32)) = (0 : Int32))))), .val (.int (((p4.toUInt32 >>> ((1 : Int32) &&& 31).toUInt32).toInt32) &&& (3 : Int32))), .val (.int (bz (¬ ((p4 &&& (8 : Int32)) = (0 : Int32))))), .val (.ref b47), .val (.ref b60), .unset, .unset] [(.int (bz (¬ ((p4 &&& (1 : Int32)) = (0 : Int32))))), (.ref b60), (.ref b47), (.ref b69), (.ref b69)])) rfl (by rw [hml]; rfl) (Steps.refl _) (a := b69) (argsL := [(.ref b47), (.ref b60), (.int (bz (¬ ((p4 &&& (1 : Int32)) = (0 : Int32)))))]) (rest := [(.ref b69)]) (lenOf pd_8 rfl) rfl (by show 2 * 0 + _ ≤ _; exact Nat.le_of_eq rfl) (hb hby at_166) (fun _ _ => ⟨rfl, e69, (by decide : 10 + 0 ≤ _), (by decide : 21 + 0 ≤ _)⟩)
            dsimp only [Pt.U, Pt.locs, Pt.cells, Pt.slots] at X71 lq71 yq71 zq71 st71 hQ71
            subst lq71 yq71 zq71
            obtain ⟨rfl, N71q, r71_0, r71_1, r71_2⟩ := hQ71
            have N71 := Fr.app N66 N71q
            refine go (fun _ k => st71.trans k) ?_
            show Go p e below _ (T71.setTop (mkF m 169 #[.val (.int p1), .val (.int p2), .val (.int p3), .val (.int p4), .val (.int (bz (¬ ((p4 &&& (1 : Int32)) = (0 : Int32))))), .val (.int (((p4.toUInt32 >>> ((1 : Int32) &&& 31).toUInt32).toInt32) &&& (3 : Int32))), .val (.int (bz (¬ ((p4 &&& (8 : Int32)) = (0 : Int32))))), .val (.ref b47), .val (.ref b60), .unset, .unset] [(.ref b69)]))
            refine go (fun _ k => XS.astore X71.here hx rfl (hb hby at_169) rfl rfl (l' := #[.val (.int p1), .val (.int p2), .val (.int p3), .val (.int p4), .val (.int (bz (¬ ((p4 &&& (1 : Int32)) = (0 : Int32))))), .val (.int (((p4.toUInt32 >>> ((1 : Int32) &&& 31).toUInt32).toInt32) &&& (3 : Int32))), .val (.int (bz (¬ ((p4 &&& (8 : Int32)) = (0 : Int32))))), .val (.ref b47), .val (.ref b60), .val (.ref b69), .unset]) rfl k) ?_
            show Go p e below _ (T71.setTop (mkF m 171 #[.val (.int p1), .val (.int p2), .val (.int p3), .val (.int p4), .val (.int (bz (¬ ((p4 &&& (1 : Int32)) = (0 : Int32))))), .val (.int (((p4.toUInt32 >>> ((1 : Int32) &&& 31).toUInt32).toInt32) &&& (3 : Int32))), .val (.int (bz (¬ ((p4 &&& (8 : Int32)) = (0 : Int32))))), .val (.ref b47), .val (.ref b60), .val (.ref b69), .unset] []))
            refine go (fun _ k => XS.iload X71.here hx rfl (hb hby at_171) rfl  k) ?_
            show Go p e below _ (T71.setTop (mkF m 173 #[.val (.int p1), .val (.int p2), .val (.int p3), .val (.int p4), .val (.int (bz (¬ ((p4 &&& (1 : Int32)) = (0 : Int32))))), .val (.int (((p4.toUInt32 >>> ((1 : Int32) &&& 31).toUInt32).toInt32) &&& (3 : Int32))), .val (.int (bz (¬ ((p4 &&& (8 : Int32)) = (0 : Int32))))), .val (.ref b47), .val (.ref b60), .val (.ref b69), .unset] [(.int (((p4.toUInt32 >>> ((1 : Int32) &&& 31).toUInt32).toInt32) &&& (3 : Int32)))]))
            refine go (fun _ k => XS.ifNo X71.here hx rfl (hb hby at_173) rfl ((if0 _ _).trans (feq hc72_9).1) k) ?_
            show Go p e below _ (T71.setTop (mkF m 176 #[.val (.int p1), .val (.int p2), .val (.int p3), .val (.int p4), .val (.int (bz (¬ ((p4 &&& (1 : Int32)) = (0 : Int32))))), .val (.int (((p4.toUInt32 >>> ((1 : Int32) &&& 31).toUInt32).toInt32) &&& (3 : Int32))), .val (.int (bz (¬ ((p4 &&& (8 : Int32)) = (0 : Int32))))), .val (.ref b47), .val (.ref b60), .val (.ref b69), .unset] []))
            refine go (fun _ k => XS.iconst X71.here hx rfl (hb hby at_176) k) ?_
            show Go p e below _ (T71.setTop (mkF m 177 #[.val (.int p1), .val (.int p2), .val (.int p3), .val (.int p4), .val (.int (bz (¬ ((p4 &&& (1 : Int32)) = (0 : Int32))))), .val (.int (((p4.toUInt32 >>> ((1 : Int32) &&& 31).toUInt32).toInt32) &&& (3 : Int32))), .val (.int (bz (¬ ((p4 &&& (8 : Int32)) = (0 : Int32))))), .val (.ref b47), .val (.ref b60), .val (.ref b69), .unset] [(.int (1 : Int32))]))
            refine go (fun _ k => XS.goto X71.here hx rfl (pc0 := 177) (pc' := 181) rfl (hb hby at_177) (by decide) (by decide) k) ?_
            show Go p e below _ (T71.setTop (mkF m 181 #[.val (.int p1), .val (.int p2), .val (.int p3), .val (.int p4), .val (.int (bz (¬ ((p4 &&& (1 : Int32)) = (0 : Int32))))), .val (.int (((p4.toUInt32 >>> ((1 : Int32) &&& 31).toUInt32).toInt32) &&& (3 : Int32))), .val (.int (bz (¬ ((p4 &&& (8 : Int32)) = (0 : Int32))))), .val (.ref b47), .val (.ref b60), .val (.ref b69), .unset] [(.int (1 : Int32))]))
            refine go (fun _ k => XS.istore X71.here hx rfl (hb hby at_181) rfl (l' := #[.val (.int p1), .val (.int p2), .val (.int p3), .val (.int p4), .val (.int (bz (¬ ((p4 &&& (1 : Int32)) = (0 : Int32))))), .val (.int (((p4.toUInt32 >>> ((1 : Int32) &&& 31).toUInt32).toInt32) &&& (3 : Int32))), .val (.int (bz (¬ ((p4 &&& (8 : Int32)) = (0 : Int32))))), .val (.ref b47), .val (.ref b60), .val (.ref b69), .val (.int (1 : Int32))]) rfl k) ?_
            show Go p e below _ (T71.setTop (mkF m 183 #[.val (.int p1), .val (.int p2), .val (.int p3), .val (.int p4), .val (.int (bz (¬ ((p4 &&& (1 : Int32)) = (0 : Int32))))), .val (.int (((p4.toUInt32 >>> ((1 : Int32) &&& 31).toUInt32).toInt32) &&& (3 : Int32))), .val (.int (bz (¬ ((p4 &&& (8 : Int32)) = (0 : Int32))))), .val (.ref b47), .val (.ref b60), .val (.ref b69), .val (.int (1 : Int32))] []))
            refine go (fun _ k => XS.aload X71.here hx rfl (hb hby at_183) rfl rfl  k) ?_
            show Go p e below _ (T71.setTop (mkF m 185 #[.val (.int p1), .val (.int p2), .val (.int p3), .val (.int p4), .val (.int (bz (¬ ((p4 &&& (1 : Int32)) = (0 : Int32))))), .val (.int (((p4.toUInt32 >>> ((1 : Int32) &&& 31).toUInt32).toInt32) &&& (3 : Int32))), .val (.int (bz (¬ ((p4 &&& (8 : Int32)) = (0 : Int32))))), .val (.ref b47), .val (.ref b60), .val (.ref b69), .val (.int (1 : Int32))] [(.ref b69)]))
            have K74 : Keep h0 T71.heap [] := (K72.trans r71_0 (allS (Or.inr sz_b69) all0))
            obtain ⟨cq73, kq73, q73a, q73b, q73c⟩ := isOf hZ66 rfl r71_1
            obtain ⟨_, _, ⟨T73, Lb73, cn73, sn73⟩, -, X73, ⟨Lc73, hQ73, lq73, yq73, zq73⟩, st73⟩ := X71.virtualBack hx (y := (⟨"com/example/tidemark/tidemark/Option", "takesValue", "()Z"⟩ : MethodName)) (z := (⟨"com/example/tidemark/tidemark/Option", "takesValue", "()Z"⟩ : MethodName)) hown66 (mvT hZ66 (hw _ (List.mem_of_getElem? (i := 48) rfl))) (mvT hZ66 (hw _ (List.mem_of_getElem? (i := 49) rfl))) (notFace_of_selects (args := #[]) (mvT hZ66 (hw _ (List.mem_of_getElem? (i := 51) rfl)))) (mvT hZ66 (hw _ (List.mem_of_getElem? (i := 51) rfl))) (mvT hZ66 (hw _ (List.mem_of_getElem? (i := 50) rfl))) (by decide) (backOf (W := 0) (rmtR l Z a0 hw [] b69 b60 T71.heap n0 (Nat.le_trans Z0 K74.1) r71_1 r71_2) hZ66 (hw _ (List.mem_of_getElem? (i := 52) rfl)) (hw _ (List.mem_of_getElem? (i := 32) rfl)) (by decide) (by decide)) q73a q73c (g := (mkF m 185 #[.val (.int p1), .val (.int p2), .val (.int p3), .val (.int p4), .val (.int (bz (¬ ((p4 &&& (1 : Int32)) = (0 : Int32))))), .val (.int (((p4.toUInt32 >>> ((1 : Int32) &&& 31).toUInt32).toInt32) &&& (3 : Int32))), .val (.int (bz (¬ ((p4 &&& (8 : Int32)) = (0 : Int32))))), .val (.ref b47), .val (.ref b60), .val (.ref b69), .val (.int (1 : Int32))] [(.ref b69)])) rfl (by rw [hml]; rfl) (Steps.refl _) (argsL := []) (rest := []) (lenOf pd_9 rfl) rfl (by show 2 * 0 + _ ≤ _; exact Nat.le_of_eq rfl) (hb hby at_185) (fun _ _ => ⟨rfl, rfl, (by decide : 10 + 0 ≤ _), (by decide : 21 + 0 ≤ _)⟩)
            dsimp only [Pt.U, Pt.locs, Pt.cells, Pt.slots] at X73 lq73 yq73 zq73 st73 hQ73
            subst lq73 yq73 zq73
            obtain ⟨rfl, N73q, e73⟩ := hQ73
            have N73 := Fr.app N71 N73q
            skip
            refine go (fun _ k => st73.trans k) ?_
            show Go p e below _ (T73.setTop (mkF m 188 #[.val (.int p1), .val (.int p2), .val (.int p3), .val (.int p4), .val (.int (bz (¬ ((p4 &&& (1 : Int32)) = (0 : Int32))))), .val (.int (((p4.toUInt32 >>> ((1 : Int32) &&& 31).toUInt32).toInt32) &&& (3 : Int32))), .val (.int (bz (¬ ((p4 &&& (8 : Int32)) = (0 : Int32))))), .val (.ref b47), .val (.ref b60), .val (.ref b69), .val (.int (1 : Int32))] [(.int (1 : Int32))]))
            refine go (fun _ k => XS.iload X73.here hx rfl (hb hby at_188) rfl  k) ?_
            show Go p e below _ (T73.setTop (mkF m 190 #[.val (.int p1), .val (.int p2), .val (.int p3), .val (.int p4), .val (.int (bz (¬ ((p4 &&& (1 : Int32)) = (0 : Int32))))), .val (.int (((p4.toUInt32 >>> ((1 : Int32) &&& 31).toUInt32).toInt32) &&& (3 : Int32))), .val (.int (bz (¬ ((p4 &&& (8 : Int32)) = (0 : Int32))))), .val (.ref b47), .val (.ref b60), .val (.ref b69), .val (.int (1 : Int32))] [(.int (1 : Int32)), (.int (1 : Int32))]))
            refine go (fun _ k => XS.icmpNo X73.here hx rfl (hb hby at_190) rfl (teq (by decide : (1 : Int32) = (1 : Int32))).2 k) ?_
            show Go p e below _ (T73.setTop (mkF m 193 #[.val (.int p1), .val (.int p2), .val (.int p3), .val (.int p4), .val (.int (bz (¬ ((p4 &&& (1 : Int32)) = (0 : Int32))))), .val (.int (((p4.toUInt32 >>> ((1 : Int32) &&& 31).toUInt32).toInt32) &&& (3 : Int32))), .val (.int (bz (¬ ((p4 &&& (8 : Int32)) = (0 : Int32))))), .val (.ref b47), .val (.ref b60), .val (.ref b69), .val (.int (1 : Int32))] []))
            refine go (fun _ k => XS.iconst X73.here hx rfl (hb hby at_193) k) ?_
            show Go p e below _ (T73.setTop (mkF m 194 #[.val (.int p1), .val (.int p2), .val (.int p3), .val (.int p4), .val (.int (bz (¬ ((p4 &&& (1 : Int32)) = (0 : Int32))))), .val (.int (((p4.toUInt32 >>> ((1 : Int32) &&& 31).toUInt32).toInt32) &&& (3 : Int32))), .val (.int (bz (¬ ((p4 &&& (8 : Int32)) = (0 : Int32))))), .val (.ref b47), .val (.ref b60), .val (.ref b69), .val (.int (1 : Int32))] [(.int (1 : Int32))]))
            refine go (fun _ k => XS.goto X73.here hx rfl (pc0 := 194) (pc' := 198) rfl (hb hby at_194) (by decide) (by decide) k) ?_
            show Go p e below _ (T73.setTop (mkF m 198 #[.val (.int p1), .val (.int p2), .val (.int p3), .val (.int p4), .val (.int (bz (¬ ((p4 &&& (1 : Int32)) = (0 : Int32))))), .val (.int (((p4.toUInt32 >>> ((1 : Int32) &&& 31).toUInt32).toInt32) &&& (3 : Int32))), .val (.int (bz (¬ ((p4 &&& (8 : Int32)) = (0 : Int32))))), .val (.ref b47), .val (.ref b60), .val (.ref b69), .val (.int (1 : Int32))] [(.int (1 : Int32))]))
            obtain ⟨fs, hr, hrun, hended, hEW⟩ := X73.leaveW (vm₁ := T66.vm) hS66 (by rw [e73]; exact (Nat.le_trans (Nat.le_trans (Nat.le_refl _) E69.1) r71_0.1)) (v := some (.int (1 : Int32))) (fun h => by rw [Bd.returns] at h; cases h)
            refine leafW (T := T73) ⟨fs, retN X73 hx (t := .boolean) Bd.returns (by simp) (hb hby at_198) hr, hrun, hended, hEW⟩ ?_ (by decide) (by decide)
            show Q0 Z p1 p2 p3 p4 cs h0 n0 _ T73.heap _
            rw [e73]
            exact ⟨rfl, N73⟩
          · skip
            refine go (fun _ k => XS.icmpYes X50.here hx rfl (pc0 := 84) (pc' := 102) rfl (hb hby at_84) rfl (feq hc84_10).2 (by decide) (by decide) k) ?_
            show Go p e below _ (T50.setTop (mkF m 102 #[.val (.int p1), .val (.int p2), .val (.int p3), .val (.int p4), .val (.int (bz (¬ ((p4 &&& (1 : Int32)) = (0 : Int32))))), .val (.int (((p4.toUInt32 >>> ((1 : Int32) &&& 31).toUInt32).toInt32) &&& (3 : Int32))), .val (.int (bz (¬ ((p4 &&& (8 : Int32)) = (0 : Int32))))), .val (.ref b47), .val (.ref b42), .unset, .unset] []))
            refine go (fun _ k => XS.iload X50.here hx rfl (hb hby at_102) rfl  k) ?_
            show Go p e below _ (T50.setTop (mkF m 104 #[.val (.int p1), .val (.int p2), .val (.int p3), .val (.int p4), .val (.int (bz (¬ ((p4 &&& (1 : Int32)) = (0 : Int32))))), .val (.int (((p4.toUInt32 >>> ((1 : Int32) &&& 31).toUInt32).toInt32) &&& (3 : Int32))), .val (.int (bz (¬ ((p4 &&& (8 : Int32)) = (0 : Int32))))), .val (.ref b47), .val (.ref b42), .unset, .unset] [(.int (((p4.toUInt32 >>> ((1 : Int32) &&& 31).toUInt32).toInt32) &&& (3 : Int32)))]))
            refine go (fun _ k => XS.iconst X50.here hx rfl (hb hby at_104) k) ?_
            show Go p e below _ (T50.setTop (mkF m 105 #[.val (.int p1), .val (.int p2), .val (.int p3), .val (.int p4), .val (.int (bz (¬ ((p4 &&& (1 : Int32)) = (0 : Int32))))), .val (.int (((p4.toUInt32 >>> ((1 : Int32) &&& 31).toUInt32).toInt32) &&& (3 : Int32))), .val (.int (bz (¬ ((p4 &&& (8 : Int32)) = (0 : Int32))))), .val (.ref b47), .val (.ref b42), .unset, .unset] [(.int (2 : Int32)), (.int (((p4.toUInt32 >>> ((1 : Int32) &&& 31).toUInt32).toInt32) &&& (3 : Int32)))]))
            by_cases hc105_11 : (((p4.toUInt32 >>> ((1 : Int32) &&& 31).toUInt32).toInt32) &&& (3 : Int32)) = (2 : Int32)
            · skip
              refine go (fun _ k => XS.icmpNo X50.here hx rfl (hb hby at_105) rfl (teq hc105_11).2 k) ?_
              show Go p e below _ (T50.setTop (mkF m 108 #[.val (.int p1), .val (.int p2), .val (.int p3), .val (.int p4), .val (.int (bz (¬ ((p4 &&& (1 : Int32)) = (0 : Int32))))), .val (.int (((p4.toUInt32 >>> ((1 : Int32) &&& 31).toUInt32).toInt32) &&& (3 : Int32))), .val (.int (bz (¬ ((p4 &&& (8 : Int32)) = (0 : Int32))))), .val (.ref b47), .val (.ref b42), .unset, .unset] []))
              refine go (fun _ k => XS.iloadN X50.here hx rfl (hb hby at_108) rfl  k) ?_
              show Go p e below _ (T50.setTop (mkF m 109 #[.val (.int p1), .val (.int p2), .val (.int p3), .val (.int p4), .val (.int (bz (¬ ((p4 &&& (1 : Int32)) = (0 : Int32))))), .val (.int (((p4.toUInt32 >>> ((1 : Int32) &&& 31).toUInt32).toInt32) &&& (3 : Int32))), .val (.int (bz (¬ ((p4 &&& (8 : Int32)) = (0 : Int32))))), .val (.ref b47), .val (.ref b42), .unset, .unset] [(.int p2)]))
              refine go (fun _ k => XS.sipush X50.here hx rfl (hb hby at_109) k) ?_
              show Go p e below _ (T50.setTop (mkF m 112 #[.val (.int p1), .val (.int p2), .val (.int p3), .val (.int p4), .val (.int (bz (¬ ((p4 &&& (1 : Int32)) = (0 : Int32))))), .val (.int (((p4.toUInt32 >>> ((1 : Int32) &&& 31).toUInt32).toInt32) &&& (3 : Int32))), .val (.int (bz (¬ ((p4 &&& (8 : Int32)) = (0 : Int32))))), .val (.ref b47), .val (.ref b42), .unset, .unset] [(.int (255 : Int32)), (.int p2)]))
              refine go (fun _ k => XS.iand X50.here hx rfl (hb hby at_112) rfl k) ?_
              show Go p e below _ (T50.setTop (mkF m 113 #[.val (.int p1), .val (.int p2), .val (.int p3), .val (.int p4), .val (.int (bz (¬ ((p4 &&& (1 : Int32)) = (0 : Int32))))), .val (.int (((p4.toUInt32 >>> ((1 : Int32) &&& 31).toUInt32).toInt32) &&& (3 : Int32))), .val (.int (bz (¬ ((p4 &&& (8 : Int32)) = (0 : Int32))))), .val (.ref b47), .val (.ref b42), .unset, .unset] [(.int (p2 &&& (255 : Int32)))]))
              refine go (fun _ k => XS.i2c X50.here hx rfl (hb hby at_113) rfl k) ?_
              show Go p e below _ (T50.setTop (mkF m 114 #[.val (.int p1), .val (.int p2), .val (.int p3), .val (.int p4), .val (.int (bz (¬ ((p4 &&& (1 : Int32)) = (0 : Int32))))), .val (.int (((p4.toUInt32 >>> ((1 : Int32) &&& 31).toUInt32).toInt32) &&& (3 : Int32))), .val (.int (bz (¬ ((p4 &&& (8 : Int32)) = (0 : Int32))))), .val (.ref b47), .val (.ref b42), .unset, .unset] [(.int ((p2 &&& (255 : Int32)).toUInt32.toUInt16.toUInt32.toInt32))]))
              have f75 := ((((O0.ext E42).wr W44 g_b42).ext E47).keep r50_0 (allS g_b47 all0))
              have K77 : Keep h0 T50.heap [] := (K51.trans r50_0 (allS (Or.inr sz_b47) all0))
              obtain ⟨_, _, ⟨T76, Lb76, cn76, sn76⟩, -, X76, ⟨Lc76, hQ76, lq76, yq76, zq76⟩, st76⟩ := Jvm.LawKit.callS X50 hx (y := (⟨"java/lang/String", "valueOf", "(C)Ljava/lang/String;"⟩ : MethodName)) hown (mvT hZ (hw _ (List.mem_of_getElem? (i := 56) rfl))) (mvT hZ (hw _ (List.mem_of_getElem? (i := 57) rfl))) (mvT hZ (hw _ (List.mem_of_getElem? (i := 3) rfl))) (mvT hZ (hw _ (List.mem_of_getElem? (i := 58) rfl))) (by decide) (backOf (W := 0) (rm10 l Z a0 hw [] ((p2 &&& (255 : Int32)).toUInt32.toUInt16.toUInt32.toInt32) cs T50.heap n0 (Nat.le_trans Z0 K77.1) f75 S_COMPACT_STRINGS (by assumption : ¬ (cs = (0 : Int32))) (own_255 p2 : ¬ ((255 : Int32) < ((p2 &&& (255 : Int32)).toUInt32.toUInt16.toUInt32.toInt32)))) hZ (hw _ (List.mem_of_getElem? (i := 58) rfl)) (hw _ (List.mem_of_getElem? (i := 3) rfl)) (by decide) (by decide)) (g := (mkF m 114 #[.val (.int p1), .val (.int p2), .val (.int p3), .val (.int p4), .val (.int (bz (¬ ((p4 &&& (1 : Int32)) = (0 : Int32))))), .val (.int (((p4.toUInt32 >>> ((1 : Int32) &&& 31).toUInt32).toInt32) &&& (3 : Int32))), .val (.int (bz (¬ ((p4 &&& (8 : Int32)) = (0 : Int32))))), .val (.ref b47), .val (.ref b42), .unset, .unset] [(.int ((p2 &&& (255 : Int32)).toUInt32.toUInt16.toUInt32.toInt32))])) rfl (by rw [hml]; rfl) (argsL := [(.int ((p2 &&& (255 : Int32)).toUInt32.toUInt16.toUInt32.toInt32))]) (rest := []) (lenOf pd_11 rfl) rfl (by show 2 * 0 + _ ≤ _; exact Nat.le_of_eq rfl) (hb hby at_114) (fun _ _ => ⟨rfl, rfl, (by decide : 3 + 2 ≤ _), (by decide : 6 + 5 ≤ _)⟩)
              dsimp only [Pt.U, Pt.locs, Pt.cells, Pt.slots] at X76 lq76 yq76 zq76 st76 hQ76
              subst lq76 yq76 zq76
              obtain ⟨b_76, t_76, kt_76, rfl, N76q, r76_0, r76_1, r76_2, r76_3, r76_4, r76_5, r76_6⟩ := hQ76
              have N76 := Fr.app N50 N76q
              have sz_b_76 : h0.size ≤ b_76 := Nat.le_trans K77.1 r76_1
              have g_b_76 : n0 ≤ b_76 := Nat.le_trans Z0 sz_b_76
              have sz_t_76 : h0.size ≤ t_76 := Nat.le_trans K77.1 r76_2
              have g_t_76 : n0 ≤ t_76 := Nat.le_trans Z0 sz_t_76
              skip
              refine go st76 ?_
              show Go p e below _ (T76.setTop (mkF m 117 #[.val (.int p1), .val (.int p2), .val (.int p3), .val (.int p4), .val (.int (bz (¬ ((p4 &&& (1 : Int32)) = (0 : Int32))))), .val (.int (((p4.toUInt32 >>> ((1 : Int32) &&& 31).toUInt32).toInt32) &&& (3 : Int32))), .val (.int (bz (¬ ((p4 &&& (8 : Int32)) = (0 : Int32))))), .val (.ref b47), .val (.ref b42), .unset, .unset] [(.ref b_76)]))
              refine go (fun _ k => XS.astore X76.here hx rfl (hb hby at_117) rfl rfl (l' := #[.val (.int p1), .val (.int p2), .val (.int p3), .val (.int p4), .val (.int (bz (¬ ((p4 &&& (1 : Int32)) = (0 : Int32))))), .val (.int (((p4.toUInt32 >>> ((1 : Int32) &&& 31).toUInt32).toInt32) &&& (3 : Int32))), .val (.int (bz (¬ ((p4 &&& (8 : Int32)) = (0 : Int32))))), .val (.ref b47), .val (.ref b_76), .unset, .unset]) rfl k) ?_
              show Go p e below _ (T76.setTop (mkF m 119 #[.val (.int p1), .val (.int p2), .val (.int p3), .val (.int p4), .val (.int (bz (¬ ((p4 &&& (1 : Int32)) = (0 : Int32))))), .val (.int (((p4.toUInt32 >>> ((1 : Int32) &&& 31).toUInt32).toInt32) &&& (3 : Int32))), .val (.int (bz (¬ ((p4 &&& (8 : Int32)) = (0 : Int32))))), .val (.ref b47), .val (.ref b_76), .unset, .unset] []))
              refine go (fun _ k => XS.goto X76.here hx rfl (pc0 := 119) (pc' := 156) rfl (hb hby at_119) (by decide) (by decide) k) ?_
              show Go p e below _ (T76.setTop (mkF m 156 #[.val (.int p1), .val (.int p2), .val (.int p3), .val (.int p4), .val (.int (bz (¬ ((p4 &&& (1 : Int32)) = (0 : Int32))))), .val (.int (((p4.toUInt32 >>> ((1 : Int32) &&& 31).toUInt32).toInt32) &&& (3 : Int32))), .val (.int (bz (¬ ((p4 &&& (8 : Int32)) = (0 : Int32))))), .val (.ref b47), .val (.ref b_76), .unset, .unset] []))
              obtain ⟨T78, h78, X78, e78, E78, A78, D78, -, st78⟩ := newO X76 hx hZ hown (hw _ (List.mem_of_getElem? (i := 30) rfl)) (hw _ (List.mem_of_getElem? (i := 31) rfl)) (hw _ (List.mem_of_getElem? (i := 32) rfl)) rfl (g := (mkF m 156 #[.val (.int p1), .val (.int p2), .val (.int p3), .val (.int p4), .val (.int (bz (¬ ((p4 &&& (1 : Int32)) = (0 : Int32))))), .val (.int (((p4.toUInt32 >>> ((1 : Int32) &&& 31).toUInt32).toInt32) &&& (3 : Int32))), .val (.int (bz (¬ ((p4 &&& (8 : Int32)) = (0 : Int32))))), .val (.ref b47), .val (.ref b_76), .unset, .unset] [])) rfl (hb hby at_156) (by decide) (by decide)
              obtain ⟨b78, gz78⟩ : ∃ z, z = T76.heap.size := ⟨_, rfl⟩
              rw [← gz78] at A78 D78 st78
              have K79 : Keep h0 T76.heap [] := (K77.trans r76_0 all0)
              have sz_b78 : h0.size ≤ b78 := Nat.le_trans K79.1 (Nat.le_of_eq gz78.symm)
              have g_b78 : n0 ≤ b78 := Nat.le_trans Z0 sz_b78
              have F_name_b78 : Fld Z h78 b78 "com/example/tidemark/tidemark/Option" "name" "Ljava/lang/String;" .null := D78 (Or.inr (hw _ (List.mem_of_getElem? (i := 43) rfl))) (ty := (.object "java/lang/String")) (by decide)
              have F_value_b78 : Fld Z h78 b78 "com/example/tidemark/tidemark/Option" "value" "Ljava/lang/String;" .null := D78 (Or.inr (hw _ (List.mem_of_getElem? (i := 45) rfl))) (ty := (.object "java/lang/String")) (by decide)
              have F_required_b78 : Fld Z h78 b78 "com/example/tidemark/tidemark/Option" "required" "Z" (.int (0 : Int32)) := D78 (Or.inr (hw _ (List.mem_of_getElem? (i := 47) rfl))) (ty := .boolean) (by decide)
              refine go st78 ?_
              show Go p e below _ (T78.setTop (mkF m 159 #[.val (.int p1), .val (.int p2), .val (.int p3), .val (.int p4), .val (.int (bz (¬ ((p4 &&& (1 : Int32)) = (0 : Int32))))), .val (.int (((p4.toUInt32 >>> ((1 : Int32) &&& 31).toUInt32).toInt32) &&& (3 : Int32))), .val (.int (bz (¬ ((p4 &&& (8 : Int32)) = (0 : Int32))))), .val (.ref b47), .val (.ref b_76), .unset, .unset] [(.ref b78)]))
              refine go (fun _ k => XS.dup X78.here hx rfl (hb hby at_159) rfl rfl k) ?_
              show Go p e below _ (T78.setTop (mkF m 160 #[.val (.int p1), .val (.int p2), .val (.int p3), .val (.int p4), .val (.int (bz (¬ ((p4 &&& (1 : Int32)) = (0 : Int32))))), .val (.int (((p4.toUInt32 >>> ((1 : Int32) &&& 31).toUInt32).toInt32) &&& (3 : Int32))), .val (.int (bz (¬ ((p4 &&& (8 : Int32)) = (0 : Int32))))), .val (.ref b47), .val (.ref b_76), .unset, .unset] [(.ref b78), (.ref b78)]))
              refine go (fun _ k => XS.aload X78.here hx rfl (hb hby at_160) rfl rfl  k) ?_
              show Go p e below _ (T78.setTop (mkF m 162 #[.val (.int p1), .val (.int p2), .val (.int p3), .val (.int p4), .val (.int (bz (¬ ((p4 &&& (1 : Int32)) = (0 : Int32))))), .val (.int (((p4.toUInt32 >>> ((1 : Int32) &&& 31).toUInt32).toInt32) &&& (3 : Int32))), .val (.int (bz (¬ ((p4 &&& (8 : Int32)) = (0 : Int32))))), .val (.ref b47), .val (.ref b_76), .unset, .unset] [(.ref b47), (.ref b78), (.ref b78)]))
              refine go (fun _ k => XS.aload X78.here hx rfl (hb hby at_162) rfl rfl  k) ?_
              show Go p e below _ (T78.setTop (mkF m 164 #[.val (.int p1), .val (.int p2), .val (.int p3), .val (.int p4), .val (.int (bz (¬ ((p4 &&& (1 : Int32)) = (0 : Int32))))), .val (.int (((p4.toUInt32 >>> ((1 : Int32) &&& 31).toUInt32).toInt32) &&& (3 : Int32))), .val (.int (bz (¬ ((p4 &&& (8 : Int32)) = (0 : Int32))))), .val (.ref b47), .val (.ref b_76), .unset, .unset] [(.ref b_76), (.ref b47), (.ref b78), (.ref b78)]))
              refine go (fun _ k => XS.iload X78.here hx rfl (hb hby at_164) rfl  k) ?_
              show Go p e below _ (T78.setTop (mkF m 166 #[.val (.int p1), .val (.int p2), .val (.int p3), .val (.int p4), .val (.int (bz (¬ ((p4 &&& (1 : Int32)) = (0 : Int32))))), .val (.int (((p4.toUInt32 >>> ((1 : Int32) &&& 31).toUInt32).toInt32) &&& (3 : Int32))), .val (.int (bz (¬ ((p4 &&& (8 : Int32)) = (0 : Int32))))), .val (.ref b47), .val (.ref b_76), .unset, .unset] [(.int (bz (¬ ((p4 &&& (1 : Int32)) = (0 : Int32))))), (.ref b_76), (.ref b47), (.ref b78), (.ref b78)]))
              have K81 : Keep h0 h78 [] := (K79.ext E78)
              obtain ⟨_, _, ⟨T80, Lb80, cn80, sn80⟩, -, X80, ⟨Lc80, hQ80, lq80, yq80, zq80⟩, st80⟩ := X78.specialBack hx (y := (⟨"com/example/tidemark/tidemark/Option", "<init>", "(Ljava/lang/String;Ljava/lang/String;Z)V"⟩ : MethodName)) rfl hown (mvT hZ (hw _ (List.mem_of_getElem? (i := 33) rfl))) (mvT hZ (hw _ (List.mem_of_getElem? (i := 34) rfl))) (mvT hZ (hw _ (List.mem_of_getElem? (i := 35) rfl))) (by decide) (backOf (W := 1) (rm7 l Z a0 hw [] b78 (Value.ref b47) (Value.ref b_76) (bz (¬ ((p4 &&& (1 : Int32)) = (0 : Int32)))) .null .null (.int (0 : Int32)) h78 n0 (Nat.le_trans Z0 K81.1) (rfl : (Value.ref b47).isRef = true) (rfl : (Value.ref b_76).isRef = true) A78 g_b78 F_name_b78 F_value_b78 F_required_b78) hZ (hw _ (List.mem_of_getElem? (i := 35) rfl)) (hw _ (List.mem_of_getElem? (i := 32) rfl)) (by decide) (by decide)) (g := (mkF m 166 #[.val (.int p1), .val (.int p2), .val (.int p3), .val (.int p4), .val (.int (bz (¬ ((p4 &&& (1 : Int32)) = (0 : Int32))))), .val (.int (((p4.toUInt32 >>> ((1 : Int32) &&& 31).toUInt32).toInt32) &&& (3 : Int32))), .val (.int (bz (¬ ((p4 &&& (8 : Int32)) = (0 : Int32))))), .val (.ref b47), .val (.ref b_76), .unset, .unset] [(.int (bz (¬ ((p4 &&& (1 : Int32)) = (0 : Int32))))), (.ref b_76), (.ref b47), (.ref b78), (.ref b78)])) rfl (by rw [hml]; rfl) (Steps.refl _) (a := b78) (argsL := [(.ref b47), (.ref b_76), (.int (bz (¬ ((p4 &&& (1 : Int32)) = (0 : Int32)))))]) (rest := [(.ref b78)]) (lenOf pd_8 rfl) rfl (by show 2 * 0 + _ ≤ _; exact Nat.le_of_eq rfl) (hb hby at_166) (fun _ _ => ⟨rfl, e78, (by decide : 6 + 0 ≤ _), (by decide : 14 + 0 ≤ _)⟩)
              dsimp only [Pt.U, Pt.locs, Pt.cells, Pt.slots] at X80 lq80 yq80 zq80 st80 hQ80
              subst lq80 yq80 zq80
              obtain ⟨rfl, N80q, r80_0, r80_1, r80_2⟩ := hQ80
              have N80 := Fr.app N76 N80q
              refine go (fun _ k => st80.trans k) ?_
              show Go p e below _ (T80.setTop (mkF m 169 #[.val (.int p1), .val (.int p2), .val (.int p3), .val (.int p4), .val (.int (bz (¬ ((p4 &&& (1 : Int32)) = (0 : Int32))))), .val (.int (((p4.toUInt32 >>> ((1 : Int32) &&& 31).toUInt32).toInt32) &&& (3 : Int32))), .val (.int (bz (¬ ((p4 &&& (8 : Int32)) = (0 : Int32))))), .val (.ref b47), .val (.ref b_76), .unset, .unset] [(.ref b78)]))
              refine go (fun _ k => XS.astore X80.here hx rfl (hb hby at_169) rfl rfl (l' := #[.val (.int p1), .val (.int p2), .val (.int p3), .val (.int p4), .val (.int (bz (¬ ((p4 &&& (1 : Int32)) = (0 : Int32))))), .val (.int (((p4.toUInt32 >>> ((1 : Int32) &&& 31).toUInt32).toInt32) &&& (3 : Int32))), .val (.int (bz (¬ ((p4 &&& (8 : Int32)) = (0 : Int32))))), .val (.ref b47), .val (.ref b_76), .val (.ref b78), .unset]) rfl k) ?_
              show Go p e below _ (T80.setTop (mkF m 171 #[.val (.int p1), .val (.int p2), .val (.int p3), .val (.int p4), .val (.int (bz (¬ ((p4 &&& (1 : Int32)) = (0 : Int32))))), .val (.int (((p4.toUInt32 >>> ((1 : Int32) &&& 31).toUInt32).toInt32) &&& (3 : Int32))), .val (.int (bz (¬ ((p4 &&& (8 : Int32)) = (0 : Int32))))), .val (.ref b47), .val (.ref b_76), .val (.ref b78), .unset] []))
              refine go (fun _ k => XS.iload X80.here hx rfl (hb hby at_171) rfl  k) ?_
              show Go p e below _ (T80.setTop (mkF m 173 #[.val (.int p1), .val (.int p2), .val (.int p3), .val (.int p4), .val (.int (bz (¬ ((p4 &&& (1 : Int32)) = (0 : Int32))))), .val (.int (((p4.toUInt32 >>> ((1 : Int32) &&& 31).toUInt32).toInt32) &&& (3 : Int32))), .val (.int (bz (¬ ((p4 &&& (8 : Int32)) = (0 : Int32))))), .val (.ref b47), .val (.ref b_76), .val (.ref b78), .unset] [(.int (((p4.toUInt32 >>> ((1 : Int32) &&& 31).toUInt32).toInt32) &&& (3 : Int32)))]))
              refine go (fun _ k => XS.ifNo X80.here hx rfl (hb hby at_173) rfl ((if0 _ _).trans (feq hc72_9).1) k) ?_
              show Go p e below _ (T80.setTop (mkF m 176 #[.val (.int p1), .val (.int p2), .val (.int p3), .val (.int p4), .val (.int (bz (¬ ((p4 &&& (1 : Int32)) = (0 : Int32))))), .val (.int (((p4.toUInt32 >>> ((1 : Int32) &&& 31).toUInt32).toInt32) &&& (3 : Int32))), .val (.int (bz (¬ ((p4 &&& (8 : Int32)) = (0 : Int32))))), .val (.ref b47), .val (.ref b_76), .val (.ref b78), .unset] []))
              refine go (fun _ k => XS.iconst X80.here hx rfl (hb hby at_176) k) ?_
              show Go p e below _ (T80.setTop (mkF m 177 #[.val (.int p1), .val (.int p2), .val (.int p3), .val (.int p4), .val (.int (bz (¬ ((p4 &&& (1 : Int32)) = (0 : Int32))))), .val (.int (((p4.toUInt32 >>> ((1 : Int32) &&& 31).toUInt32).toInt32) &&& (3 : Int32))), .val (.int (bz (¬ ((p4 &&& (8 : Int32)) = (0 : Int32))))), .val (.ref b47), .val (.ref b_76), .val (.ref b78), .unset] [(.int (1 : Int32))]))
              refine go (fun _ k => XS.goto X80.here hx rfl (pc0 := 177) (pc' := 181) rfl (hb hby at_177) (by decide) (by decide) k) ?_
              show Go p e below _ (T80.setTop (mkF m 181 #[.val (.int p1), .val (.int p2), .val (.int p3), .val (.int p4), .val (.int (bz (¬ ((p4 &&& (1 : Int32)) = (0 : Int32))))), .val (.int (((p4.toUInt32 >>> ((1 : Int32) &&& 31).toUInt32).toInt32) &&& (3 : Int32))), .val (.int (bz (¬ ((p4 &&& (8 : Int32)) = (0 : Int32))))), .val (.ref b47), .val (.ref b_76), .val (.ref b78), .unset] [(.int (1 : Int32))]))
              refine go (fun _ k => XS.istore X80.here hx rfl (hb hby at_181) rfl (l' := #[.val (.int p1), .val (.int p2), .val (.int p3), .val (.int p4), .val (.int (bz (¬ ((p4 &&& (1 : Int32)) = (0 : Int32))))), .val (.int (((p4.toUInt32 >>> ((1 : Int32) &&& 31).toUInt32).toInt32) &&& (3 : Int32))), .val (.int (bz (¬ ((p4 &&& (8 : Int32)) = (0 : Int32))))), .val (.ref b47), .val (.ref b_76), .val (.ref b78), .val (.int (1 : Int32))]) rfl k) ?_
              show Go p e below _ (T80.setTop (mkF m 183 #[.val (.int p1), .val (.int p2), .val (.int p3), .val (.int p4), .val (.int (bz (¬ ((p4 &&& (1 : Int32)) = (0 : Int32))))), .val (.int (((p4.toUInt32 >>> ((1 : Int32) &&& 31).toUInt32).toInt32) &&& (3 : Int32))), .val (.int (bz (¬ ((p4 &&& (8 : Int32)) = (0 : Int32))))), .val (.ref b47), .val (.ref b_76), .val (.ref b78), .val (.int (1 : Int32))] []))
              refine go (fun _ k => XS.aload X80.here hx rfl (hb hby at_183) rfl rfl  k) ?_
              show Go p e below _ (T80.setTop (mkF m 185 #[.val (.int p1), .val (.int p2), .val (.int p3), .val (.int p4), .val (.int (bz (¬ ((p4 &&& (1 : Int32)) = (0 : Int32))))), .val (.int (((p4.toUInt32 >>> ((1 : Int32) &&& 31).toUInt32).toInt32) &&& (3 : Int32))), .val (.int (bz (¬ ((p4 &&& (8 : Int32)) = (0 : Int32))))), .val (.ref b47), .val (.ref b_76), .val (.ref b78), .val (.int (1 : Int32))] [(.ref b78)]))
              have K83 : Keep h0 T80.heap [] := (K81.trans r80_0 (allS (Or.inr sz_b78) all0))
              obtain ⟨cq82, kq82, q82a, q82b, q82c⟩ := isOf hZ rfl r80_1
              obtain ⟨_, _, ⟨T82, Lb82, cn82, sn82⟩, -, X82, ⟨Lc82, hQ82, lq82, yq82, zq82⟩, st82⟩ := X80.virtualBack hx (y := (⟨"com/example/tidemark/tidemark/Option", "takesValue", "()Z"⟩ : MethodName)) (z := (⟨"com/example/tidemark/tidemark/Option", "takesValue", "()Z"⟩ : MethodName)) hown (mvT hZ (hw _ (List.mem_of_getElem? (i := 48) rfl))) (mvT hZ (hw _ (List.mem_of_getElem? (i := 49) rfl))) (notFace_of_selects (args := #[]) (mvT hZ (hw _ (List.mem_of_getElem? (i := 51) rfl)))) (mvT hZ (hw _ (List.mem_of_getElem? (i := 51) rfl))) (mvT hZ (hw _ (List.mem_of_getElem? (i := 50) rfl))) (by decide) (backOf (W := 0) (rmtR l Z a0 hw [] b78 b_76 T80.heap n0 (Nat.le_trans Z0 K83.1) r80_1 r80_2) hZ (hw _ (List.mem_of_getElem? (i := 52) rfl)) (hw _ (List.mem_of_getElem? (i := 32) rfl)) (by decide) (by decide)) q82a q82c (g := (mkF m 185 #[.val (.int p1), .val (.int p2), .val (.int p3), .val (.int p4), .val (.int (bz (¬ ((p4 &&& (1 : Int32)) = (0 : Int32))))), .val (.int (((p4.toUInt32 >>> ((1 : Int32) &&& 31).toUInt32).toInt32) &&& (3 : Int32))), .val (.int (bz (¬ ((p4 &&& (8 : Int32)) = (0 : Int32))))), .val (.ref b47), .val (.ref b_76), .val (.ref b78), .val (.int (1 : Int32))] [(.ref b78)])) rfl (by rw [hml]; rfl) (Steps.refl _) (argsL := []) (rest := []) (lenOf pd_9 rfl) rfl (by show 2 * 0 + _ ≤ _; exact Nat.le_of_eq rfl) (hb hby at_185) (fun _ _ => ⟨rfl, rfl, (by decide : 6 + 0 ≤ _), (by decide : 14 + 0 ≤ _)⟩)
              dsimp only [Pt.U, Pt.locs, Pt.cells, Pt.slots] at X82 lq82 yq82 zq82 st82 hQ82
              subst lq82 yq82 zq82
              obtain ⟨rfl, N82q, e82⟩ := hQ82
              have N82 := Fr.app N80 N82q
              skip
              refine go (fun _ k => st82.trans k) ?_
              show Go p e below _ (T82.setTop (mkF m 188 #[.val (.int p1), .val (.int p2), .val (.int p3), .val (.int p4), .val (.int (bz (¬ ((p4 &&& (1 : Int32)) = (0 : Int32))))), .val (.int (((p4.toUInt32 >>> ((1 : Int32) &&& 31).toUInt32).toInt32) &&& (3 : Int32))), .val (.int (bz (¬ ((p4 &&& (8 : Int32)) = (0 : Int32))))), .val (.ref b47), .val (.ref b_76), .val (.ref b78), .val (.int (1 : Int32))] [(.int (1 : Int32))]))
              refine go (fun _ k => XS.iload X82.here hx rfl (hb hby at_188) rfl  k) ?_
              show Go p e below _ (T82.setTop (mkF m 190 #[.val (.int p1), .val (.int p2), .val (.int p3), .val (.int p4), .val (.int (bz (¬ ((p4 &&& (1 : Int32)) = (0 : Int32))))), .val (.int (((p4.toUInt32 >>> ((1 : Int32) &&& 31).toUInt32).toInt32) &&& (3 : Int32))), .val (.int (bz (¬ ((p4 &&& (8 : Int32)) = (0 : Int32))))), .val (.ref b47), .val (.ref b_76), .val (.ref b78), .val (.int (1 : Int32))] [(.int (1 : Int32)), (.int (1 : Int32))]))
              refine go (fun _ k => XS.icmpNo X82.here hx rfl (hb hby at_190) rfl (teq (by decide : (1 : Int32) = (1 : Int32))).2 k) ?_
              show Go p e below _ (T82.setTop (mkF m 193 #[.val (.int p1), .val (.int p2), .val (.int p3), .val (.int p4), .val (.int (bz (¬ ((p4 &&& (1 : Int32)) = (0 : Int32))))), .val (.int (((p4.toUInt32 >>> ((1 : Int32) &&& 31).toUInt32).toInt32) &&& (3 : Int32))), .val (.int (bz (¬ ((p4 &&& (8 : Int32)) = (0 : Int32))))), .val (.ref b47), .val (.ref b_76), .val (.ref b78), .val (.int (1 : Int32))] []))
              refine go (fun _ k => XS.iconst X82.here hx rfl (hb hby at_193) k) ?_
              show Go p e below _ (T82.setTop (mkF m 194 #[.val (.int p1), .val (.int p2), .val (.int p3), .val (.int p4), .val (.int (bz (¬ ((p4 &&& (1 : Int32)) = (0 : Int32))))), .val (.int (((p4.toUInt32 >>> ((1 : Int32) &&& 31).toUInt32).toInt32) &&& (3 : Int32))), .val (.int (bz (¬ ((p4 &&& (8 : Int32)) = (0 : Int32))))), .val (.ref b47), .val (.ref b_76), .val (.ref b78), .val (.int (1 : Int32))] [(.int (1 : Int32))]))
              refine go (fun _ k => XS.goto X82.here hx rfl (pc0 := 194) (pc' := 198) rfl (hb hby at_194) (by decide) (by decide) k) ?_
              show Go p e below _ (T82.setTop (mkF m 198 #[.val (.int p1), .val (.int p2), .val (.int p3), .val (.int p4), .val (.int (bz (¬ ((p4 &&& (1 : Int32)) = (0 : Int32))))), .val (.int (((p4.toUInt32 >>> ((1 : Int32) &&& 31).toUInt32).toInt32) &&& (3 : Int32))), .val (.int (bz (¬ ((p4 &&& (8 : Int32)) = (0 : Int32))))), .val (.ref b47), .val (.ref b_76), .val (.ref b78), .val (.int (1 : Int32))] [(.int (1 : Int32))]))
              obtain ⟨fs, hr, hrun, hended, hEW⟩ := X82.leaveW (vm₁ := s.vm) hS0 (by rw [e82]; exact (Nat.le_trans (Nat.le_trans (Nat.le_trans (Nat.le_trans (Nat.le_trans (Nat.le_trans (Nat.le_trans hk0 E42.1) (Keep.of_wr W44).1) E47.1) r50_0.1) r76_0.1) E78.1) r80_0.1)) (v := some (.int (1 : Int32))) (fun h => by rw [Bd.returns] at h; cases h)
              refine leafW (T := T82) ⟨fs, retN X82 hx (t := .boolean) Bd.returns (by simp) (hb hby at_198) hr, hrun, hended, hEW⟩ ?_ (by decide) (by decide)
              show Q0 Z p1 p2 p3 p4 cs h0 n0 _ T82.heap _
              rw [e82]
              exact ⟨rfl, N82⟩
            · skip
              refine go (fun _ k => XS.icmpYes X50.here hx rfl (pc0 := 105) (pc' := 122) rfl (hb hby at_105) rfl (feq hc105_11).2 (by decide) (by decide) k) ?_
              show Go p e below _ (T50.setTop (mkF m 122 #[.val (.int p1), .val (.int p2), .val (.int p3), .val (.int p4), .val (.int (bz (¬ ((p4 &&& (1 : Int32)) = (0 : Int32))))), .val (.int (((p4.toUInt32 >>> ((1 : Int32) &&& 31).toUInt32).toInt32) &&& (3 : Int32))), .val (.int (bz (¬ ((p4 &&& (8 : Int32)) = (0 : Int32))))), .val (.ref b47), .val (.ref b42), .unset, .unset] []))
              refine go (fun _ k => XS.iconst X50.here hx rfl (hb hby at_122) k) ?_
              show Go p e below _ (T50.setTop (mkF m 123 #[.val (.int p1), .val (.int p2), .val (.int p3), .val (.int p4), .val (.int (bz (¬ ((p4 &&& (1 : Int32)) = (0 : Int32))))), .val (.int (((p4.toUInt32 >>> ((1 : Int32) &&& 31).toUInt32).toInt32) &&& (3 : Int32))), .val (.int (bz (¬ ((p4 &&& (8 : Int32)) = (0 : Int32))))), .val (.ref b47), .val (.ref b42), .unset, .unset] [(.int (2 : Int32))]))
              obtain ⟨T84, h84, ka84, X84, e84, E84, A84, st84⟩ := newP X50 hx hZ (hw _ (List.mem_of_getElem? (i := 0) rfl)) rfl (g := (mkF m 123 #[.val (.int p1), .val (.int p2), .val (.int p3), .val (.int p4), .val (.int (bz (¬ ((p4 &&& (1 : Int32)) = (0 : Int32))))), .val (.int (((p4.toUInt32 >>> ((1 : Int32) &&& 31).toUInt32).toInt32) &&& (3 : Int32))), .val (.int (bz (¬ ((p4 &&& (8 : Int32)) = (0 : Int32))))), .val (.ref b47), .val (.ref b42), .unset, .unset] [(.int (2 : Int32))])) rfl (hb hby at_123) rfl (by decide) (cap := 2) (by decide) (by decide) (by decide) (by decide)
              obtain ⟨b84, gz84⟩ : ∃ z, z = T50.heap.size := ⟨_, rfl⟩
              rw [← gz84] at A84 st84
              have K85 : Keep h0 T50.heap [] := (K51.trans r50_0 (allS (Or.inr sz_b47) all0))
              have sz_b84 : h0.size ≤ b84 := Nat.le_trans K85.1 (Nat.le_of_eq gz84.symm)
              have g_b84 : n0 ≤ b84 := Nat.le_trans Z0 sz_b84
              have V_b84 : Arv Z h84 b84 ka84 .char (2 : Int32) [(.int (0 : Int32)), (.int (0 : Int32))] (.int (0 : Int32)) := (Arv.new A84 (by decide)).pad (pad_rep [] (.int (0 : Int32)) 2)
              refine go st84 ?_
              show Go p e below _ (T84.setTop (mkF m 125 #[.val (.int p1), .val (.int p2), .val (.int p3), .val (.int p4), .val (.int (bz (¬ ((p4 &&& (1 : Int32)) = (0 : Int32))))), .val (.int (((p4.toUInt32 >>> ((1 : Int32) &&& 31).toUInt32).toInt32) &&& (3 : Int32))), .val (.int (bz (¬ ((p4 &&& (8 : Int32)) = (0 : Int32))))), .val (.ref b47), .val (.ref b42), .unset, .unset] [(.ref b84)]))
              refine go (fun _ k => XS.dup X84.here hx rfl (hb hby at_125) rfl rfl k) ?_
              show Go p e below _ (T84.setTop (mkF m 126 #[.val (.int p1), .val (.int p2), .val (.int p3), .val (.int p4), .val (.int (bz (¬ ((p4 &&& (1 : Int32)) = (0 : Int32))))), .val (.int (((p4.toUInt32 >>> ((1 : Int32) &&& 31).toUInt32).toInt32) &&& (3 : Int32))), .val (.int (bz (¬ ((p4 &&& (8 : Int32)) = (0 : Int32))))), .val (.ref b47), .val (.ref b42), .unset, .unset] [(.ref b84), (.ref b84)]))
              refine go (fun _ k => XS.iconst X84.here hx rfl (hb hby at_126) k) ?_
              show Go p e below _ (T84.setTop (mkF m 127 #[.val (.int p1), .val (.int p2), .val (.int p3), .val (.int p4), .val (.int (bz (¬ ((p4 &&& (1 : Int32)) = (0 : Int32))))), .val (.int (((p4.toUInt32 >>> ((1 : Int32) &&& 31).toUInt32).toInt32) &&& (3 : Int32))), .val (.int (bz (¬ ((p4 &&& (8 : Int32)) = (0 : Int32))))), .val (.ref b47), .val (.ref b42), .unset, .unset] [(.int (0 : Int32)), (.ref b84), (.ref b84)]))
              refine go (fun _ k => XS.iloadN X84.here hx rfl (hb hby at_127) rfl  k) ?_
              show Go p e below _ (T84.setTop (mkF m 128 #[.val (.int p1), .val (.int p2), .val (.int p3), .val (.int p4), .val (.int (bz (¬ ((p4 &&& (1 : Int32)) = (0 : Int32))))), .val (.int (((p4.toUInt32 >>> ((1 : Int32) &&& 31).toUInt32).toInt32) &&& (3 : Int32))), .val (.int (bz (¬ ((p4 &&& (8 : Int32)) = (0 : Int32))))), .val (.ref b47), .val (.ref b42), .unset, .unset] [(.int p2), (.int (0 : Int32)), (.ref b84), (.ref b84)]))
              refine go (fun _ k => XS.sipush X84.here hx rfl (hb hby at_128) k) ?_
              show Go p e below _ (T84.setTop (mkF m 131 #[.val (.int p1), .val (.int p2), .val (.int p3), .val (.int p4), .val (.int (bz (¬ ((p4 &&& (1 : Int32)) = (0 : Int32))))), .val (.int (((p4.toUInt32 >>> ((1 : Int32) &&& 31).toUInt32).toInt32) &&& (3 : Int32))), .val (.int (bz (¬ ((p4 &&& (8 : Int32)) = (0 : Int32))))), .val (.ref b47), .val (.ref b42), .unset, .unset] [(.int (255 : Int32)), (.int p2), (.int (0 : Int32)), (.ref b84), (.ref b84)]))
              refine go (fun _ k => XS.iand X84.here hx rfl (hb hby at_131) rfl k) ?_
              show Go p e below _ (T84.setTop (mkF m 132 #[.val (.int p1), .val (.int p2), .val (.int p3), .val (.int p4), .val (.int (bz (¬ ((p4 &&& (1 : Int32)) = (0 : Int32))))), .val (.int (((p4.toUInt32 >>> ((1 : Int32) &&& 31).toUInt32).toInt32) &&& (3 : Int32))), .val (.int (bz (¬ ((p4 &&& (8 : Int32)) = (0 : Int32))))), .val (.ref b47), .val (.ref b42), .unset, .unset] [(.int (p2 &&& (255 : Int32))), (.int (0 : Int32)), (.ref b84), (.ref b84)]))
              refine go (fun _ k => XS.i2c X84.here hx rfl (hb hby at_132) rfl k) ?_
              show Go p e below _ (T84.setTop (mkF m 133 #[.val (.int p1), .val (.int p2), .val (.int p3), .val (.int p4), .val (.int (bz (¬ ((p4 &&& (1 : Int32)) = (0 : Int32))))), .val (.int (((p4.toUInt32 >>> ((1 : Int32) &&& 31).toUInt32).toInt32) &&& (3 : Int32))), .val (.int (bz (¬ ((p4 &&& (8 : Int32)) = (0 : Int32))))), .val (.ref b47), .val (.ref b42), .unset, .unset] [(.int ((p2 &&& (255 : Int32)).toUInt32.toUInt16.toUInt32.toInt32)), (.int (0 : Int32)), (.ref b84), (.ref b84)]))
              obtain ⟨cl86, Ar86, qa86, Sa86, Ma86, Ha86, Ga86⟩ := id V_b84
              have hin86 : ¬ ((0 : Int32) < 0 ∨ cl86.slots.size ≤ ((0 : Int32)).toNatClampNeg) := inb_of Sa86 ⟨by decide, by decide⟩
              obtain ⟨T86, h86, X86, e86, W86, st86⟩ := stC X84 hx hZ e84 Ar86 (j := (0 : Int32)) hin86 (g := (mkF m 133 #[.val (.int p1), .val (.int p2), .val (.int p3), .val (.int p4), .val (.int (bz (¬ ((p4 &&& (1 : Int32)) = (0 : Int32))))), .val (.int (((p4.toUInt32 >>> ((1 : Int32) &&& 31).toUInt32).toInt32) &&& (3 : Int32))), .val (.int (bz (¬ ((p4 &&& (8 : Int32)) = (0 : Int32))))), .val (.ref b47), .val (.ref b42), .unset, .unset] [(.int ((p2 &&& (255 : Int32)).toUInt32.toUInt16.toUInt32.toInt32)), (.int (0 : Int32)), (.ref b84), (.ref b84)])) rfl rfl (hb hby at_133)
              have V86 := Arv.set Ar86 qa86 Sa86 Ma86 Ha86 Ga86 (fits_nar_char _) W86 0 rfl (Nat.le_of_ble_eq_true rfl)
              have V_b84_86 : Arv Z h86 b84 ka84 .char (2 : Int32) ([(.int (nar .char ((p2 &&& (255 : Int32)).toUInt32.toUInt16.toUInt32.toInt32))), (.int (0 : Int32))]) (.int (0 : Int32)) := V86
              have N86 := Fr.snoc X86 N50 g_b84
              refine go st86 ?_
              show Go p e below _ (T86.setTop (mkF m 134 #[.val (.int p1), .val (.int p2), .val (.int p3), .val (.int p4), .val (.int (bz (¬ ((p4 &&& (1 : Int32)) = (0 : Int32))))), .val (.int (((p4.toUInt32 >>> ((1 : Int32) &&& 31).toUInt32).toInt32) &&& (3 : Int32))), .val (.int (bz (¬ ((p4 &&& (8 : Int32)) = (0 : Int32))))), .val (.ref b47), .val (.ref b42), .unset, .unset] [(.ref b84)]))
              refine go (fun _ k => XS.dup X86.here hx rfl (hb hby at_134) rfl rfl k) ?_
              show Go p e below _ (T86.setTop (mkF m 135 #[.val (.int p1), .val (.int p2), .val (.int p3), .val (.int p4), .val (.int (bz (¬ ((p4 &&& (1 : Int32)) = (0 : Int32))))), .val (.int (((p4.toUInt32 >>> ((1 : Int32) &&& 31).toUInt32).toInt32) &&& (3 : Int32))), .val (.int (bz (¬ ((p4 &&& (8 : Int32)) = (0 : Int32))))), .val (.ref b47), .val (.ref b42), .unset, .unset] [(.ref b84), (.ref b84)]))
              refine go (fun _ k => XS.iconst X86.here hx rfl (hb hby at_135) k) ?_
              show Go p e below _ (T86.setTop (mkF m 136 #[.val (.int p1), .val (.int p2), .val (.int p3), .val (.int p4), .val (.int (bz (¬ ((p4 &&& (1 : Int32)) = (0 : Int32))))), .val (.int (((p4.toUInt32 >>> ((1 : Int32) &&& 31).toUInt32).toInt32) &&& (3 : Int32))), .val (.int (bz (¬ ((p4 &&& (8 : Int32)) = (0 : Int32))))), .val (.ref b47), .val (.ref b42), .unset, .unset] [(.int (1 : Int32)), (.ref b84), (.ref b84)]))
              refine go (fun _ k => XS.iloadN X86.here hx rfl (hb hby at_136) rfl  k) ?_
              show Go p e below _ (T86.setTop (mkF m 137 #[.val (.int p1), .val (.int p2), .val (.int p3), .val (.int p4), .val (.int (bz (¬ ((p4 &&& (1 : Int32)) = (0 : Int32))))), .val (.int (((p4.toUInt32 >>> ((1 : Int32) &&& 31).toUInt32).toInt32) &&& (3 : Int32))), .val (.int (bz (¬ ((p4 &&& (8 : Int32)) = (0 : Int32))))), .val (.ref b47), .val (.ref b42), .unset, .unset] [(.int p3), (.int (1 : Int32)), (.ref b84), (.ref b84)]))
              refine go (fun _ k => XS.sipush X86.here hx rfl (hb hby at_137) k) ?_
              show Go p e below _ (T86.setTop (mkF m 140 #[.val (.int p1), .val (.int p2), .val (.int p3), .val (.int p4), .val (.int (bz (¬ ((p4 &&& (1 : Int32)) = (0 : Int32))))), .val (.int (((p4.toUInt32 >>> ((1 : Int32) &&& 31).toUInt32).toInt32) &&& (3 : Int32))), .val (.int (bz (¬ ((p4 &&& (8 : Int32)) = (0 : Int32))))), .val (.ref b47), .val (.ref b42), .unset, .unset] [(.int (255 : Int32)), (.int p3), (.int (1 : Int32)), (.ref b84), (.ref b84)]))
              refine go (fun _ k => XS.iand X86.here hx rfl (hb hby at_140) rfl k) ?_
              show Go p e below _ (T86.setTop (mkF m 141 #[.val (.int p1), .val (.int p2), .val (.int p3), .val (.int p4), .val (.int (bz (¬ ((p4 &&& (1 : Int32)) = (0 : Int32))))), .val (.int (((p4.toUInt32 >>> ((1 : Int32) &&& 31).toUInt32).toInt32) &&& (3 : Int32))), .val (.int (bz (¬ ((p4 &&& (8 : Int32)) = (0 : Int32))))), .val (.ref b47), .val (.ref b42), .unset, .unset] [(.int (p3 &&& (255 : Int32))), (.int (1 : Int32)), (.ref b84), (.ref b84)]))
              refine go (fun _ k => XS.i2c X86.here hx rfl (hb hby at_141) rfl k) ?_
              show Go p e below _ (T86.setTop (mkF m 142 #[.val (.int p1), .val (.int p2), .val (.int p3), .val (.int p4), .val (.int (bz (¬ ((p4 &&& (1 : Int32)) = (0 : Int32))))), .val (.int (((p4.toUInt32 >>> ((1 : Int32) &&& 31).toUInt32).toInt32) &&& (3 : Int32))), .val (.int (bz (¬ ((p4 &&& (8 : Int32)) = (0 : Int32))))), .val (.ref b47), .val (.ref b42), .unset, .unset] [(.int ((p3 &&& (255 : Int32)).toUInt32.toUInt16.toUInt32.toInt32)), (.int (1 : Int32)), (.ref b84), (.ref b84)]))
              obtain ⟨cl87, Ar87, qa87, Sa87, Ma87, Ha87, Ga87⟩ := id V_b84_86
              have hin87 : ¬ ((1 : Int32) < 0 ∨ cl87.slots.size ≤ ((1 : Int32)).toNatClampNeg) := inb_of Sa87 ⟨by decide, by decide⟩
              obtain ⟨T87, h87, X87, e87, W87, st87⟩ := stC X86 hx hZ e86 Ar87 (j := (1 : Int32)) hin87 (g := (mkF m 142 #[.val (.int p1), .val (.int p2), .val (.int p3), .val (.int p4), .val (.int (bz (¬ ((p4 &&& (1 : Int32)) = (0 : Int32))))), .val (.int (((p4.toUInt32 >>> ((1 : Int32) &&& 31).toUInt32).toInt32) &&& (3 : Int32))), .val (.int (bz (¬ ((p4 &&& (8 : Int32)) = (0 : Int32))))), .val (.ref b47), .val (.ref b42), .unset, .unset] [(.int ((p3 &&& (255 : Int32)).toUInt32.toUInt16.toUInt32.toInt32)), (.int (1 : Int32)), (.ref b84), (.ref b84)])) rfl rfl (hb hby at_142)
              have V87 := Arv.set Ar87 qa87 Sa87 Ma87 Ha87 Ga87 (fits_nar_char _) W87 1 rfl (Nat.le_of_ble_eq_true rfl)
              have V_b84_87 : Arv Z h87 b84 ka84 .char (2 : Int32) ([(.int (nar .char ((p2 &&& (255 : Int32)).toUInt32.toUInt16.toUInt32.toInt32))), (.int (nar .char ((p3 &&& (255 : Int32)).toUInt32.toUInt16.toUInt32.toInt32)))]) (.int (0 : Int32)) := V87
              have N87 := Fr.snoc X87 N86 g_b84
              refine go st87 ?_
              show Go p e below _ (T87.setTop (mkF m 143 #[.val (.int p1), .val (.int p2), .val (.int p3), .val (.int p4), .val (.int (bz (¬ ((p4 &&& (1 : Int32)) = (0 : Int32))))), .val (.int (((p4.toUInt32 >>> ((1 : Int32) &&& 31).toUInt32).toInt32) &&& (3 : Int32))), .val (.int (bz (¬ ((p4 &&& (8 : Int32)) = (0 : Int32))))), .val (.ref b47), .val (.ref b42), .unset, .unset] [(.ref b84)]))
              refine go (fun _ k => XS.astore X87.here hx rfl (hb hby at_143) rfl rfl (l' := #[.val (.int p1), .val (.int p2), .val (.int p3), .val (.int p4), .val (.int (bz (¬ ((p4 &&& (1 : Int32)) = (0 : Int32))))), .val (.int (((p4.toUInt32 >>> ((1 : Int32) &&& 31).toUInt32).toInt32) &&& (3 : Int32))), .val (.int (bz (¬ ((p4 &&& (8 : Int32)) = (0 : Int32))))), .val (.ref b47), .val (.ref b42), .val (.ref b84), .unset]) rfl k) ?_
              show Go p e below _ (T87.setTop (mkF m 145 #[.val (.int p1), .val (.int p2), .val (.int p3), .val (.int p4), .val (.int (bz (¬ ((p4 &&& (1 : Int32)) = (0 : Int32))))), .val (.int (((p4.toUInt32 >>> ((1 : Int32) &&& 31).toUInt32).toInt32) &&& (3 : Int32))), .val (.int (bz (¬ ((p4 &&& (8 : Int32)) = (0 : Int32))))), .val (.ref b47), .val (.ref b42), .val (.ref b84), .unset] []))
              obtain ⟨T88, h88, X88, e88, E88, A88, D88, -, st88⟩ := newO X87 hx hZ hown (hw _ (List.mem_of_getElem? (i := 1) rfl)) (hw _ (List.mem_of_getElem? (i := 2) rfl)) (hw _ (List.mem_of_getElem? (i := 3) rfl)) e87 (g := (mkF m 145 #[.val (.int p1), .val (.int p2), .val (.int p3), .val (.int p4), .val (.int (bz (¬ ((p4 &&& (1 : Int32)) = (0 : Int32))))), .val (.int (((p4.toUInt32 >>> ((1 : Int32) &&& 31).toUInt32).toInt32) &&& (3 : Int32))), .val (.int (bz (¬ ((p4 &&& (8 : Int32)) = (0 : Int32))))), .val (.ref b47), .val (.ref b42), .val (.ref b84), .unset] [])) rfl (hb hby at_145) (by decide) (by decide)
              obtain ⟨b88, gz88⟩ : ∃ z, z = h87.size := ⟨_, rfl⟩
              rw [← gz88] at A88 D88 st88
              have K89 : Keep h0 h87 [] := (((K85.ext E84).wr W86 (Or.inr sz_b84)).wr W87 (Or.inr sz_b84))
              have sz_b88 : h0.size ≤ b88 := Nat.le_trans K89.1 (Nat.le_of_eq gz88.symm)
              have g_b88 : n0 ≤ b88 := Nat.le_trans Z0 sz_b88
              have F_coder_b88 : Fld Z h88 b88 "java/lang/String" "coder" "B" (.int (0 : Int32)) := D88 (Or.inr (hw _ (List.mem_of_getElem? (i := 27) rfl))) (ty := .byte) (by decide)
              have F_value_b88 : Fld Z h88 b88 "java/lang/String" "value" "[B" .null := D88 (Or.inr (hw _ (List.mem_of_getElem? (i := 29) rfl))) (ty := (.array .byte)) (by decide)
              refine go st88 ?_
              show Go p e below _ (T88.setTop (mkF m 148 #[.val (.int p1), .val (.int p2), .val (.int p3), .val (.int p4), .val (.int (bz (¬ ((p4 &&& (1 : Int32)) = (0 : Int32))))), .val (.int (((p4.toUInt32 >>> ((1 : Int32) &&& 31).toUInt32).toInt32) &&& (3 : Int32))), .val (.int (bz (¬ ((p4 &&& (8 : Int32)) = (0 : Int32))))), .val (.ref b47), .val (.ref b42), .val (.ref b84), .unset] [(.ref b88)]))
              refine go (fun _ k => XS.dup X88.here hx rfl (hb hby at_148) rfl rfl k) ?_
              show Go p e below _ (T88.setTop (mkF m 149 #[.val (.int p1), .val (.int p2), .val (.int p3), .val (.int p4), .val (.int (bz (¬ ((p4 &&& (1 : Int32)) = (0 : Int32))))), .val (.int (((p4.toUInt32 >>> ((1 : Int32) &&& 31).toUInt32).toInt32) &&& (3 : Int32))), .val (.int (bz (¬ ((p4 &&& (8 : Int32)) = (0 : Int32))))), .val (.ref b47), .val (.ref b42), .val (.ref b84), .unset] [(.ref b88), (.ref b88)]))
              refine go (fun _ k => XS.aload X88.here hx rfl (hb hby at_149) rfl rfl  k) ?_
              show Go p e below _ (T88.setTop (mkF m 151 #[.val (.int p1), .val (.int p2), .val (.int p3), .val (.int p4), .val (.int (bz (¬ ((p4 &&& (1 : Int32)) = (0 : Int32))))), .val (.int (((p4.toUInt32 >>> ((1 : Int32) &&& 31).toUInt32).toInt32) &&& (3 : Int32))), .val (.int (bz (¬ ((p4 &&& (8 : Int32)) = (0 : Int32))))), .val (.ref b47), .val (.ref b42), .val (.ref b84), .unset] [(.ref b84), (.ref b88), (.ref b88)]))
              have f90 := ((((((((O0.ext E42).wr W44 g_b42).ext E47).keep r50_0 (allS g_b47 all0)).ext E84).wr W86 g_b84).wr W87 g_b84).ext E88)
              have K92 : Keep h0 h88 [] := (K89.ext E88)
              obtain ⟨_, _, ⟨T91, Lb91, cn91, sn91⟩, -, X91, ⟨Lc91, hQ91, lq91, yq91, zq91⟩, st91⟩ := X88.specialBack hx (y := (⟨"java/lang/String", "<init>", "([C)V"⟩ : MethodName)) rfl hown (mvT hZ (hw _ (List.mem_of_getElem? (i := 4) rfl))) (mvT hZ (hw _ (List.mem_of_getElem? (i := 5) rfl))) (mvT hZ (hw _ (List.mem_of_getElem? (i := 6) rfl))) (by decide) (backOf (W := 1) (rmc5_2 l Z a0 hw [] b88 b84 .null (.int (0 : Int32)) ka84 cs (nar .char ((p2 &&& (255 : Int32)).toUInt32.toUInt16.toUInt32.toInt32)) (nar .char ((p3 &&& (255 : Int32)).toUInt32.toUInt16.toUInt32.toInt32)) h88 n0 (Nat.le_trans Z0 K92.1) f90 S_COMPACT_STRINGS (by assumption : ¬ (cs = (0 : Int32))) A88 g_b88 F_value_b88 F_coder_b88 (V_b84_87.ext E88) (own_255c p2 : ¬ ((255 : Int32) < (nar .char ((p2 &&& (255 : Int32)).toUInt32.toUInt16.toUInt32.toInt32)))) (own_255c p3 : ¬ ((255 : Int32) < (nar .char ((p3 &&& (255 : Int32)).toUInt32.toUInt16.toUInt32.toInt32))))) hZ (hw _ (List.mem_of_getElem? (i := 6) rfl)) (hw _ (List.mem_of_getElem? (i := 3) rfl)) (by decide) (by decide)) (g := (mkF m 151 #[.val (.int p1), .val (.int p2), .val (.int p3), .val (.int p4), .val (.int (bz (¬ ((p4 &&& (1 : Int32)) = (0 : Int32))))), .val (.int (((p4.toUInt32 >>> ((1 : Int32) &&& 31).toUInt32).toInt32) &&& (3 : Int32))), .val (.int (bz (¬ ((p4 &&& (8 : Int32)) = (0 : Int32))))), .val (.ref b47), .val (.ref b42), .val (.ref b84), .unset] [(.ref b84), (.ref b88), (.ref b88)])) rfl (by rw [hml]; rfl) (Steps.refl _) (a := b88) (argsL := [(.ref b84)]) (rest := [(.ref b88)]) (lenOf pd_10 rfl) rfl (by show 2 * 0 + _ ≤ _; exact Nat.le_of_eq rfl) (hb hby at_151) (fun _ _ => ⟨rfl, e88, (by decide : 5 + 1 ≤ _), (by decide : 12 + 2 ≤ _)⟩)
              dsimp only [Pt.U, Pt.locs, Pt.cells, Pt.slots] at X91 lq91 yq91 zq91 st91 hQ91
              subst lq91 yq91 zq91
              obtain ⟨b_91, kb_91, rfl, N91q, r91_0, r91_1, r91_2, r91_3, r91_4, r91_5⟩ := hQ91
              have N91 := Fr.app N87 N91q
              have sz_b_91 : h0.size ≤ b_91 := Nat.le_trans K92.1 r91_1
              have g_b_91 : n0 ≤ b_91 := Nat.le_trans Z0 sz_b_91
              refine go (fun _ k => st91.trans k) ?_
              show Go p e below _ (T91.setTop (mkF m 154 #[.val (.int p1), .val (.int p2), .val (.int p3), .val (.int p4), .val (.int (bz (¬ ((p4 &&& (1 : Int32)) = (0 : Int32))))), .val (.int (((p4.toUInt32 >>> ((1 : Int32) &&& 31).toUInt32).toInt32) &&& (3 : Int32))), .val (.int (bz (¬ ((p4 &&& (8 : Int32)) = (0 : Int32))))), .val (.ref b47), .val (.ref b42), .val (.ref b84), .unset] [(.ref b88)]))
              refine go (fun _ k => XS.astore X91.here hx rfl (hb hby at_154) rfl rfl (l' := #[.val (.int p1), .val (.int p2), .val (.int p3), .val (.int p4), .val (.int (bz (¬ ((p4 &&& (1 : Int32)) = (0 : Int32))))), .val (.int (((p4.toUInt32 >>> ((1 : Int32) &&& 31).toUInt32).toInt32) &&& (3 : Int32))), .val (.int (bz (¬ ((p4 &&& (8 : Int32)) = (0 : Int32))))), .val (.ref b47), .val (.ref b88), .val (.ref b84), .unset]) rfl k) ?_
              show Go p e below _ (T91.setTop (mkF m 156 #[.val (.int p1), .val (.int p2), .val (.int p3), .val (.int p4), .val (.int (bz (¬ ((p4 &&& (1 : Int32)) = (0 : Int32))))), .val (.int (((p4.toUInt32 >>> ((1 : Int32) &&& 31).toUInt32).toInt32) &&& (3 : Int32))), .val (.int (bz (¬ ((p4 &&& (8 : Int32)) = (0 : Int32))))), .val (.ref b47), .val (.ref b88), .val (.ref b84), .unset] []))
              obtain ⟨T93, h93, X93, e93, E93, A93, D93, -, st93⟩ := newO X91 hx hZ hown (hw _ (List.mem_of_getElem? (i := 30) rfl)) (hw _ (List.mem_of_getElem? (i := 31) rfl)) (hw _ (List.mem_of_getElem? (i := 32) rfl)) rfl (g := (mkF m 156 #[.val (.int p1), .val (.int p2), .val (.int p3), .val (.int p4), .val (.int (bz (¬ ((p4 &&& (1 : Int32)) = (0 : Int32))))), .val (.int (((p4.toUInt32 >>> ((1 : Int32) &&& 31).toUInt32).toInt32) &&& (3 : Int32))), .val (.int (bz (¬ ((p4 &&& (8 : Int32)) = (0 : Int32))))), .val (.ref b47), .val (.ref b88), .val (.ref b84), .unset] [])) rfl (hb hby at_156) (by decide) (by decide)
              obtain ⟨b93, gz93⟩ : ∃ z, z = T91.heap.size := ⟨_, rfl⟩
              rw [← gz93] at A93 D93 st93
              have K94 : Keep h0 T91.heap [] := (K92.trans r91_0 (allS (Or.inr sz_b88) all0))
              have sz_b93 : h0.size ≤ b93 := Nat.le_trans K94.1 (Nat.le_of_eq gz93.symm)
              have g_b93 : n0 ≤ b93 := Nat.le_trans Z0 sz_b93
              have F_name_b93 : Fld Z h93 b93 "com/example/tidemark/tidemark/Option" "name" "Ljava/lang/String;" .null := D93 (Or.inr (hw _ (List.mem_of_getElem? (i := 43) rfl))) (ty := (.object "java/lang/String")) (by decide)
              have F_value_b93 : Fld Z h93 b93 "com/example/tidemark/tidemark/Option" "value" "Ljava/lang/String;" .null := D93 (Or.inr (hw _ (List.mem_of_getElem? (i := 45) rfl))) (ty := (.object "java/lang/String")) (by decide)
              have F_required_b93 : Fld Z h93 b93 "com/example/tidemark/tidemark/Option" "required" "Z" (.int (0 : Int32)) := D93 (Or.inr (hw _ (List.mem_of_getElem? (i := 47) rfl))) (ty := .boolean) (by decide)
              refine go st93 ?_
              show Go p e below _ (T93.setTop (mkF m 159 #[.val (.int p1), .val (.int p2), .val (.int p3), .val (.int p4), .val (.int (bz (¬ ((p4 &&& (1 : Int32)) = (0 : Int32))))), .val (.int (((p4.toUInt32 >>> ((1 : Int32) &&& 31).toUInt32).toInt32) &&& (3 : Int32))), .val (.int (bz (¬ ((p4 &&& (8 : Int32)) = (0 : Int32))))), .val (.ref b47), .val (.ref b88), .val (.ref b84), .unset] [(.ref b93)]))
              refine go (fun _ k => XS.dup X93.here hx rfl (hb hby at_159) rfl rfl k) ?_
              show Go p e below _ (T93.setTop (mkF m 160 #[.val (.int p1), .val (.int p2), .val (.int p3), .val (.int p4), .val (.int (bz (¬ ((p4 &&& (1 : Int32)) = (0 : Int32))))), .val (.int (((p4.toUInt32 >>> ((1 : Int32) &&& 31).toUInt32).toInt32) &&& (3 : Int32))), .val (.int (bz (¬ ((p4 &&& (8 : Int32)) = (0 : Int32))))), .val (.ref b47), .val (.ref b88), .val (.ref b84), .unset] [(.ref b93), (.ref b93)]))
              refine go (fun _ k => XS.aload X93.here hx rfl (hb hby at_160) rfl rfl  k) ?_
              show Go p e below _ (T93.setTop (mkF m 162 #[.val (.int p1), .val (.int p2), .val (.int p3), .val (.int p4), .val (.int (bz (¬ ((p4 &&& (1 : Int32)) = (0 : Int32))))), .val (.int (((p4.toUInt32 >>> ((1 : Int32) &&& 31).toUInt32).toInt32) &&& (3 : Int32))), .val (.int (bz (¬ ((p4 &&& (8 : Int32)) = (0 : Int32))))), .val (.ref b47), .val (.ref b88), .val (.ref b84), .unset] [(.ref b47), (.ref b93), (.ref b93)]))
              refine go (fun _ k => XS.aload X93.here hx rfl (hb hby at_162) rfl rfl  k) ?_
              show Go p e below _ (T93.setTop (mkF m 164 #[.val (.int p1), .val (.int p2), .val (.int p3), .val (.int p4), .val (.int (bz (¬ ((p4 &&& (1 : Int32)) = (0 : Int32))))), .val (.int (((p4.toUInt32 >>> ((1 : Int32) &&& 31).toUInt32).toInt32) &&& (3 : Int32))), .val (.int (bz (¬ ((p4 &&& (8 : Int32)) = (0 : Int32))))), .val (.ref b47), .val (.ref b88), .val (.ref b84), .unset] [(.ref b88), (.ref b47), (.ref b93), (.ref b93)]))
              refine go (fun _ k => XS.iload X93.here hx rfl (hb hby at_164) rfl  k) ?_
              show Go p e below _ (T93.setTop (mkF m 166 #[.val (.int p1), .val (.int p2), .val (.int p3), .val (.int p4), .val (.int (bz (¬ ((p4 &&& (1 : Int32)) = (0 : Int32))))), .val (.int (((p4.toUInt32 >>> ((1 : Int32) &&& 31).toUInt32).toInt32) &&& (3 : Int32))), .val (.int (bz (¬ ((p4 &&& (8 : Int32)) = (0 : Int32))))), .val (.ref b47), .val (.ref b88), .val (.ref b84), .unset] [(.int (bz (¬ ((p4 &&& (1 : Int32)) = (0 : Int32))))), (.ref b88), (.ref b47), (.ref b93), (.ref b93)]))
              have K96 : Keep h0 h93 [] := (K94.ext E93)
              obtain ⟨_, _, ⟨T95, Lb95, cn95, sn95⟩, -, X95, ⟨Lc95, hQ95, lq95, yq95, zq95⟩, st95⟩ := X93.specialBack hx (y := (⟨"com/example/tidemark/tidemark/Option", "<init>", "(Ljava/lang/String;Ljava/lang/String;Z)V"⟩ : MethodName)) rfl hown (mvT hZ (hw _ (List.mem_of_getElem? (i := 33) rfl))) (mvT hZ (hw _ (List.mem_of_getElem? (i := 34) rfl))) (mvT hZ (hw _ (List.mem_of_getElem? (i := 35) rfl))) (by decide) (backOf (W := 1) (rm7 l Z a0 hw [] b93 (Value.ref b47) (Value.ref b88) (bz (¬ ((p4 &&& (1 : Int32)) = (0 : Int32)))) .null .null (.int (0 : Int32)) h93 n0 (Nat.le_trans Z0 K96.1) (rfl : (Value.ref b47).isRef = true) (rfl : (Value.ref b88).isRef = true) A93 g_b93 F_name_b93 F_value_b93 F_required_b93) hZ (hw _ (List.mem_of_getElem? (i := 35) rfl)) (hw _ (List.mem_of_getElem? (i := 32) rfl)) (by decide) (by decide)) (g := (mkF m 166 #[.val (.int p1), .val (.int p2), .val (.int p3), .val (.int p4), .val (.int (bz (¬ ((p4 &&& (1 : Int32)) = (0 : Int32))))), .val (.int (((p4.toUInt32 >>> ((1 : Int32) &&& 31).toUInt32).toInt32) &&& (3 : Int32))), .val (.int (bz (¬ ((p4 &&& (8 : Int32)) = (0 : Int32))))), .val (.ref b47), .val (.ref b88), .val (.ref b84), .unset] [(.int (bz (¬ ((p4 &&& (1 : Int32)) = (0 : Int32))))), (.ref b88), (.ref b47), (.ref b93), (.ref b93)])) rfl (by rw [hml]; rfl) (Steps.refl _) (a := b93) (argsL := [(.ref b47), (.ref b88), (.int (bz (¬ ((p4 &&& (1 : Int32)) = (0 : Int32)))))]) (rest := [(.ref b93)]) (lenOf pd_8 rfl) rfl (by show 2 * 0 + _ ≤ _; exact Nat.le_of_eq rfl) (hb hby at_166) (fun _ _ => ⟨rfl, e93, (by decide : 7 + 0 ≤ _), (by decide : 17 + 0 ≤ _)⟩)
              dsimp only [Pt.U, Pt.locs, Pt.cells, Pt.slots] at X95 lq95 yq95 zq95 st95 hQ95
              subst lq95 yq95 zq95
              obtain ⟨rfl, N95q, r95_0, r95_1, r95_2⟩ := hQ95
              have N95 := Fr.app N91 N95q
              refine go (fun _ k => st95.trans k) ?_
              show Go p e below _ (T95.setTop (mkF m 169 #[.val (.int p1), .val (.int p2), .val (.int p3), .val (.int p4), .val (.int (bz (¬ ((p4 &&& (1 : Int32)) = (0 : Int32))))), .val (.int (((p4.toUInt32 >>> ((1 : Int32) &&& 31).toUInt32).toInt32) &&& (3 : Int32))), .val (.int (bz (¬ ((p4 &&& (8 : Int32)) = (0 : Int32))))), .val (.ref b47), .val (.ref b88), .val (.ref b84), .unset] [(.ref b93)]))
              refine go (fun _ k => XS.astore X95.here hx rfl (hb hby at_169) rfl rfl (l' := #[.val (.int p1), .val (.int p2), .val (.int p3), .val (.int p4), .val (.int (bz (¬ ((p4 &&& (1 : Int32)) = (0 : Int32))))), .val (.int (((p4.toUInt32 >>> ((1 : Int32) &&& 31).toUInt32).toInt32) &&& (3 : Int32))), .val (.int (bz (¬ ((p4 &&& (8 : Int32)) = (0 : Int32))))), .val (.ref b47), .val (.ref b88), .val (.ref b93), .unset]) rfl k) ?_
              show Go p e below _ (T95.setTop (mkF m 171 #[.val (.int p1), .val (.int p2), .val (.int p3), .val (.int p4), .val (.int (bz (¬ ((p4 &&& (1 : Int32)) = (0 : Int32))))), .val (.int (((p4.toUInt32 >>> ((1 : Int32) &&& 31).toUInt32).toInt32) &&& (3 : Int32))), .val (.int (bz (¬ ((p4 &&& (8 : Int32)) = (0 : Int32))))), .val (.ref b47), .val (.ref b88), .val (.ref b93), .unset] []))
              refine go (fun _ k => XS.iload X95.here hx rfl (hb hby at_171) rfl  k) ?_
              show Go p e below _ (T95.setTop (mkF m 173 #[.val (.int p1), .val (.int p2), .val (.int p3), .val (.int p4), .val (.int (bz (¬ ((p4 &&& (1 : Int32)) = (0 : Int32))))), .val (.int (((p4.toUInt32 >>> ((1 : Int32) &&& 31).toUInt32).toInt32) &&& (3 : Int32))), .val (.int (bz (¬ ((p4 &&& (8 : Int32)) = (0 : Int32))))), .val (.ref b47), .val (.ref b88), .val (.ref b93), .unset] [(.int (((p4.toUInt32 >>> ((1 : Int32) &&& 31).toUInt32).toInt32) &&& (3 : Int32)))]))
              refine go (fun _ k => XS.ifNo X95.here hx rfl (hb hby at_173) rfl ((if0 _ _).trans (feq hc72_9).1) k) ?_
              show Go p e below _ (T95.setTop (mkF m 176 #[.val (.int p1), .val (.int p2), .val (.int p3), .val (.int p4), .val (.int (bz (¬ ((p4 &&& (1 : Int32)) = (0 : Int32))))), .val (.int (((p4.toUInt32 >>> ((1 : Int32) &&& 31).toUInt32).toInt32) &&& (3 : Int32))), .val (.int (bz (¬ ((p4 &&& (8 : Int32)) = (0 : Int32))))), .val (.ref b47), .val (.ref b88), .val (.ref b93), .unset] []))
              refine go (fun _ k => XS.iconst X95.here hx rfl (hb hby at_176) k) ?_
              show Go p e below _ (T95.setTop (mkF m 177 #[.val (.int p1), .val (.int p2), .val (.int p3), .val (.int p4), .val (.int (bz (¬ ((p4 &&& (1 : Int32)) = (0 : Int32))))), .val (.int (((p4.toUInt32 >>> ((1 : Int32) &&& 31).toUInt32).toInt32) &&& (3 : Int32))), .val (.int (bz (¬ ((p4 &&& (8 : Int32)) = (0 : Int32))))), .val (.ref b47), .val (.ref b88), .val (.ref b93), .unset] [(.int (1 : Int32))]))
              refine go (fun _ k => XS.goto X95.here hx rfl (pc0 := 177) (pc' := 181) rfl (hb hby at_177) (by decide) (by decide) k) ?_
              show Go p e below _ (T95.setTop (mkF m 181 #[.val (.int p1), .val (.int p2), .val (.int p3), .val (.int p4), .val (.int (bz (¬ ((p4 &&& (1 : Int32)) = (0 : Int32))))), .val (.int (((p4.toUInt32 >>> ((1 : Int32) &&& 31).toUInt32).toInt32) &&& (3 : Int32))), .val (.int (bz (¬ ((p4 &&& (8 : Int32)) = (0 : Int32))))), .val (.ref b47), .val (.ref b88), .val (.ref b93), .unset] [(.int (1 : Int32))]))
              refine go (fun _ k => XS.istore X95.here hx rfl (hb hby at_181) rfl (l' := #[.val (.int p1), .val (.int p2), .val (.int p3), .val (.int p4), .val (.int (bz (¬ ((p4 &&& (1 : Int32)) = (0 : Int32))))), .val (.int (((p4.toUInt32 >>> ((1 : Int32) &&& 31).toUInt32).toInt32) &&& (3 : Int32))), .val (.int (bz (¬ ((p4 &&& (8 : Int32)) = (0 : Int32))))), .val (.ref b47), .val (.ref b88), .val (.ref b93), .val (.int (1 : Int32))]) rfl k) ?_
              show Go p e below _ (T95.setTop (mkF m 183 #[.val (.int p1), .val (.int p2), .val (.int p3), .val (.int p4), .val (.int (bz (¬ ((p4 &&& (1 : Int32)) = (0 : Int32))))), .val (.int (((p4.toUInt32 >>> ((1 : Int32) &&& 31).toUInt32).toInt32) &&& (3 : Int32))), .val (.int (bz (¬ ((p4 &&& (8 : Int32)) = (0 : Int32))))), .val (.ref b47), .val (.ref b88), .val (.ref b93), .val (.int (1 : Int32))] []))
              refine go (fun _ k => XS.aload X95.here hx rfl (hb hby at_183) rfl rfl  k) ?_
              show Go p e below _ (T95.setTop (mkF m 185 #[.val (.int p1), .val (.int p2), .val (.int p3), .val (.int p4), .val (.int (bz (¬ ((p4 &&& (1 : Int32)) = (0 : Int32))))), .val (.int (((p4.toUInt32 >>> ((1 : Int32) &&& 31).toUInt32).toInt32) &&& (3 : Int32))), .val (.int (bz (¬ ((p4 &&& (8 : Int32)) = (0 : Int32))))), .val (.ref b47), .val (.ref b88), .val (.ref b93), .val (.int (1 : Int32))] [(.ref b93)]))
              have K98 : Keep h0 T95.heap [] := (K96.trans r95_0 (allS (Or.inr sz_b93) all0))
              obtain ⟨cq97, kq97, q97a, q97b, q97c⟩ := isOf hZ rfl r95_1
              obtain ⟨_, _, ⟨T97, Lb97, cn97, sn97⟩, -, X97, ⟨Lc97, hQ97, lq97, yq97, zq97⟩, st97⟩ := X95.virtualBack hx (y := (⟨"com/example/tidemark/tidemark/Option", "takesValue", "()Z"⟩ : MethodName)) (z := (⟨"com/example/tidemark/tidemark/Option", "takesValue", "()Z"⟩ : MethodName)) hown (mvT hZ (hw _ (List.mem_of_getElem? (i := 48) rfl))) (mvT hZ (hw _ (List.mem_of_getElem? (i := 49) rfl))) (notFace_of_selects (args := #[]) (mvT hZ (hw _ (List.mem_of_getElem? (i := 51) rfl)))) (mvT hZ (hw _ (List.mem_of_getElem? (i := 51) rfl))) (mvT hZ (hw _ (List.mem_of_getElem? (i := 50) rfl))) (by decide) (backOf (W := 0) (rmtR l Z a0 hw [] b93 b88 T95.heap n0 (Nat.le_trans Z0 K98.1) r95_1 r95_2) hZ (hw _ (List.mem_of_getElem? (i := 52) rfl)) (hw _ (List.mem_of_getElem? (i := 32) rfl)) (by decide) (by decide)) q97a q97c (g := (mkF m 185 #[.val (.int p1), .val (.int p2), .val (.int p3), .val (.int p4), .val (.int (bz (¬ ((p4 &&& (1 : Int32)) = (0 : Int32))))), .val (.int (((p4.toUInt32 >>> ((1 : Int32) &&& 31).toUInt32).toInt32) &&& (3 : Int32))), .val (.int (bz (¬ ((p4 &&& (8 : Int32)) = (0 : Int32))))), .val (.ref b47), .val (.ref b88), .val (.ref b93), .val (.int (1 : Int32))] [(.ref b93)])) rfl (by rw [hml]; rfl) (Steps.refl _) (argsL := []) (rest := []) (lenOf pd_9 rfl) rfl (by show 2 * 0 + _ ≤ _; exact Nat.le_of_eq rfl) (hb hby at_185) (fun _ _ => ⟨rfl, rfl, (by decide : 7 + 0 ≤ _), (by decide : 17 + 0 ≤ _)⟩)
              dsimp only [Pt.U, Pt.locs, Pt.cells, Pt.slots] at X97 lq97 yq97 zq97 st97 hQ97
              subst lq97 yq97 zq97
              obtain ⟨rfl, N97q, e97⟩ := hQ97
              have N97 := Fr.app N95 N97q
              skip
              refine go (fun _ k => st97.trans k) ?_
              show Go p e below _ (T97.setTop (mkF m 188 #[.val (.int p1), .val (.int p2), .val (.int p3), .val (.int p4), .val (.int (bz (¬ ((p4 &&& (1 : Int32)) = (0 : Int32))))), .val (.int (((p4.toUInt32 >>> ((1 : Int32) &&& 31).toUInt32).toInt32) &&& (3 : Int32))), .val (.int (bz (¬ ((p4 &&& (8 : Int32)) = (0 : Int32))))), .val (.ref b47), .val (.ref b88), .val (.ref b93), .val (.int (1 : Int32))] [(.int (1 : Int32))]))
              refine go (fun _ k => XS.iload X97.here hx rfl (hb hby at_188) rfl  k) ?_
              show Go p e below _ (T97.setTop (mkF m 190 #[.val (.int p1), .val (.int p2), .val (.int p3), .val (.int p4), .val (.int (bz (¬ ((p4 &&& (1 : Int32)) = (0 : Int32))))), .val (.int (((p4.toUInt32 >>> ((1 : Int32) &&& 31).toUInt32).toInt32) &&& (3 : Int32))), .val (.int (bz (¬ ((p4 &&& (8 : Int32)) = (0 : Int32))))), .val (.ref b47), .val (.ref b88), .val (.ref b93), .val (.int (1 : Int32))] [(.int (1 : Int32)), (.int (1 : Int32))]))
              refine go (fun _ k => XS.icmpNo X97.here hx rfl (hb hby at_190) rfl (teq (by decide : (1 : Int32) = (1 : Int32))).2 k) ?_
              show Go p e below _ (T97.setTop (mkF m 193 #[.val (.int p1), .val (.int p2), .val (.int p3), .val (.int p4), .val (.int (bz (¬ ((p4 &&& (1 : Int32)) = (0 : Int32))))), .val (.int (((p4.toUInt32 >>> ((1 : Int32) &&& 31).toUInt32).toInt32) &&& (3 : Int32))), .val (.int (bz (¬ ((p4 &&& (8 : Int32)) = (0 : Int32))))), .val (.ref b47), .val (.ref b88), .val (.ref b93), .val (.int (1 : Int32))] []))
              refine go (fun _ k => XS.iconst X97.here hx rfl (hb hby at_193) k) ?_
              show Go p e below _ (T97.setTop (mkF m 194 #[.val (.int p1), .val (.int p2), .val (.int p3), .val (.int p4), .val (.int (bz (¬ ((p4 &&& (1 : Int32)) = (0 : Int32))))), .val (.int (((p4.toUInt32 >>> ((1 : Int32) &&& 31).toUInt32).toInt32) &&& (3 : Int32))), .val (.int (bz (¬ ((p4 &&& (8 : Int32)) = (0 : Int32))))), .val (.ref b47), .val (.ref b88), .val (.ref b93), .val (.int (1 : Int32))] [(.int (1 : Int32))]))
              refine go (fun _ k => XS.goto X97.here hx rfl (pc0 := 194) (pc' := 198) rfl (hb hby at_194) (by decide) (by decide) k) ?_
              show Go p e below _ (T97.setTop (mkF m 198 #[.val (.int p1), .val (.int p2), .val (.int p3), .val (.int p4), .val (.int (bz (¬ ((p4 &&& (1 : Int32)) = (0 : Int32))))), .val (.int (((p4.toUInt32 >>> ((1 : Int32) &&& 31).toUInt32).toInt32) &&& (3 : Int32))), .val (.int (bz (¬ ((p4 &&& (8 : Int32)) = (0 : Int32))))), .val (.ref b47), .val (.ref b88), .val (.ref b93), .val (.int (1 : Int32))] [(.int (1 : Int32))]))
              obtain ⟨fs, hr, hrun, hended, hEW⟩ := X97.leaveW (vm₁ := s.vm) hS0 (by rw [e97]; exact (Nat.le_trans (Nat.le_trans (Nat.le_trans (Nat.le_trans (Nat.le_trans (Nat.le_trans (Nat.le_trans (Nat.le_trans (Nat.le_trans (Nat.le_trans (Nat.le_trans hk0 E42.1) (Keep.of_wr W44).1) E47.1) r50_0.1) E84.1) (Keep.of_wr W86).1) (Keep.of_wr W87).1) E88.1) r91_0.1) E93.1) r95_0.1)) (v := some (.int (1 : Int32))) (fun h => by rw [Bd.returns] at h; cases h)
              refine leafW (T := T97) ⟨fs, retN X97 hx (t := .boolean) Bd.returns (by simp) (hb hby at_198) hr, hrun, hended, hEW⟩ ?_ (by decide) (by decide)
              show Q0 Z p1 p2 p3 p4 cs h0 n0 _ T97.heap _
              rw [e97]
              exact ⟨rfl, N97⟩
    by_cases hc24_3 : (p4 &&& (8 : Int32)) = (0 : Int32)
    · skip
      refine go (fun _ k => XS.ifYes X0.here hx rfl (pc0 := 24) (pc' := 31) rfl (hb hby at_24) rfl ((if0 _ _).trans (teq hc24_3).1) (by decide) (by decide) k) ?_
      show Go p e below _ (s₁.setTop (mkF m 31 #[.val (.int p1), .val (.int p2), .val (.int p3), .val (.int p4), .val (.int (bz (¬ ((p4 &&& (1 : Int32)) = (0 : Int32))))), .val (.int (((p4.toUInt32 >>> ((1 : Int32) &&& 31).toUInt32).toInt32) &&& (3 : Int32))), .unset, .unset, .unset, .unset, .unset] []))
      refine go (fun _ k => XS.iconst X0.here hx rfl (hb hby at_31) k) ?_
      show Go p e below _ (s₁.setTop (mkF m 32 #[.val (.int p1), .val (.int p2), .val (.int p3), .val (.int p4), .val (.int (bz (¬ ((p4 &&& (1 : Int32)) = (0 : Int32))))), .val (.int (((p4.toUInt32 >>> ((1 : Int32) &&& 31).toUInt32).toInt32) &&& (3 : Int32))), .unset, .unset, .unset, .unset, .unset] [(.int (0 : Int32))]))
      exact J32_2 _ (by simp only [if_pos hc24_3, bz_t hc24_3, bz_f (fun q => q hc24_3 : ¬ ¬ ((p4 &&& (8 : Int32)) = (0 : Int32)))])
    · skip
      refine go (fun _ k => XS.ifNo X0.here hx rfl (hb hby at_24) rfl ((if0 _ _).trans (feq hc24_3).1) k) ?_
      show Go p e below _ (s₁.setTop (mkF m 27 #[.val (.int p1), .val (.int p2), .val (.int p3), .val (.int p4), .val (.int (bz (¬ ((p4 &&& (1 : Int32)) = (0 : Int32))))), .val (.int (((p4.toUInt32 >>> ((1 : Int32) &&& 31).toUInt32).toInt32) &&& (3 : Int32))), .unset, .unset, .unset, .unset, .unset] []))
      refine go (fun _ k => XS.iconst X0.here hx rfl (hb hby at_27) k) ?_
      show Go p e below _ (s₁.setTop (mkF m 28 #[.val (.int p1), .val (.int p2), .val (.int p3), .val (.int p4), .val (.int (bz (¬ ((p4 &&& (1 : Int32)) = (0 : Int32))))), .val (.int (((p4.toUInt32 >>> ((1 : Int32) &&& 31).toUInt32).toInt32) &&& (3 : Int32))), .unset, .unset, .unset, .unset, .unset] [(.int (1 : Int32))]))
      refine go (fun _ k => XS.goto X0.here hx rfl (pc0 := 28) (pc' := 32) rfl (hb hby at_28) (by decide) (by decide) k) ?_
      show Go p e below _ (s₁.setTop (mkF m 32 #[.val (.int p1), .val (.int p2), .val (.int p3), .val (.int p4), .val (.int (bz (¬ ((p4 &&& (1 : Int32)) = (0 : Int32))))), .val (.int (((p4.toUInt32 >>> ((1 : Int32) &&& 31).toUInt32).toInt32) &&& (3 : Int32))), .unset, .unset, .unset, .unset, .unset] [(.int (1 : Int32))]))
      exact J32_2 _ (by simp only [if_neg hc24_3, bz_f hc24_3, bz_t hc24_3])
  by_cases hc3_1 : (p4 &&& (1 : Int32)) = (0 : Int32)
  · skip
    refine go (fun _ k => XS.ifYes X0.here hx rfl (pc0 := 3) (pc' := 10) rfl (hb hby at_3) rfl ((if0 _ _).trans (teq hc3_1).1) (by decide) (by decide) k) ?_
    show Go p e below _ (s₁.setTop (mkF m 10 #[.val (.int p1), .val (.int p2), .val (.int p3), .val (.int p4), .unset, .unset, .unset, .unset, .unset, .unset, .unset] []))
    refine go (fun _ k => XS.iconst X0.here hx rfl (hb hby at_10) k) ?_
    show Go p e below _ (s₁.setTop (mkF m 11 #[.val (.int p1), .val (.int p2), .val (.int p3), .val (.int p4), .unset, .unset, .unset, .unset, .unset, .unset, .unset] [(.int (0 : Int32))]))
    exact J11_1 _ (by simp only [if_pos hc3_1, bz_t hc3_1, bz_f (fun q => q hc3_1 : ¬ ¬ ((p4 &&& (1 : Int32)) = (0 : Int32)))])
  · skip
    refine go (fun _ k => XS.ifNo X0.here hx rfl (hb hby at_3) rfl ((if0 _ _).trans (feq hc3_1).1) k) ?_
    show Go p e below _ (s₁.setTop (mkF m 6 #[.val (.int p1), .val (.int p2), .val (.int p3), .val (.int p4), .unset, .unset, .unset, .unset, .unset, .unset, .unset] []))
    refine go (fun _ k => XS.iconst X0.here hx rfl (hb hby at_6) k) ?_
    show Go p e below _ (s₁.setTop (mkF m 7 #[.val (.int p1), .val (.int p2), .val (.int p3), .val (.int p4), .unset, .unset, .unset, .unset, .unset, .unset, .unset] [(.int (1 : Int32))]))
    refine go (fun _ k => XS.goto X0.here hx rfl (pc0 := 7) (pc' := 11) rfl (hb hby at_7) (by decide) (by decide) k) ?_
    show Go p e below _ (s₁.setTop (mkF m 11 #[.val (.int p1), .val (.int p2), .val (.int p3), .val (.int p4), .unset, .unset, .unset, .unset, .unset, .unset, .unset] [(.int (1 : Int32))]))
    exact J11_1 _ (by simp only [if_neg hc3_1, bz_f hc3_1, bz_t hc3_1])
set_option maxRecDepth 65536 in
set_option maxHeartbeats 40000000 in
theorem comes_1 {Post : Tables → Env → Array Value → State → Outcome → State → Prop} (hpost : ∀ tb e args s v u, (limb_1_1.after args s (.returned v) u = true ∧ limb_1_2.after args s (.returned v) u = true ∧ True) → ReturnedEndW s (.returned v) u (Jvm.fieldLocs frame_1_writes args s ++ Jvm.arrayLocs frame_1_arrays args s ++ Jvm.staticLocs frame_1_statics s) 24 1152 → Post tb e args s (.returned v) u) :
    ArmFor flags0 classFile x code maxLocals ret World_1 tables_1 room_1 Calls_1 rest_1 Pre_1 Post := by
  intro l hfl _ _ p e ha hc hk s m args below hf hA hF happ hP
  obtain ⟨hcalls, hrest, hpre⟩ := hP
  obtain ⟨-, -, -, hnamed, -, -, -, hat⟩ := (Spec.applies_iff hf).mp happ
  obtain ⟨hg, hn⟩ := and_e (Cond.before_iff.mp (show (Jvm.Cond.and given_1 narrow_1).before args s = true from hpre))
  obtain ⟨hg1, hg2⟩ := and_e hg
  obtain ⟨hg3, hg4⟩ := and_e hg2
  obtain ⟨hg5, hg6⟩ := and_e hg4
  obtain ⟨hg7, hg8⟩ := and_e hg6
  obtain ⟨w0, w1, w2, w3, rfl⟩ : ∃ w0 w1 w2 w3 : Value, args = #[w0, w1, w2, w3] := by
    have hs : args.size = 4 := by simpa [Cond.value, given_1] using hg1
    obtain ⟨L⟩ := args
    match L, hs with
    | [w0, w1, w2, w3], _ => exact ⟨w0, w1, w2, w3, rfl⟩
  have hw := fun d (hd : d ∈ tables_1) => atoms_spec (ws := Jvm.Cond.code x code maxLocals ret :: tables_1) hat d (List.mem_cons_of_mem _ hd)
  have hfit : Fit s := fun {y c} hc i hi => by
    obtain ⟨ha, rfl⟩ := Array.getElem?_eq_some_iff.mp hc
    have q := List.all_eq_true.mp ((Array.all_eq_true_iff_forall_mem.mp hF) _ (Array.getElem_mem ha)) i (List.mem_range.mpr hi)
    simpa [Array.getElem?_eq_getElem hi] using q
  obtain ⟨hsets, hown0⟩ := atoms_of _ (rest_1_c_eq ▸ (show rest_1_c.before _ s = true from hrest))
  have hr0 := Cond.before_iff.mp hown0
  obtain ⟨i0, ei0⟩ := is_v hg3
  obtain rfl : w0 = (.int i0) := Option.some.inj ei0
  obtain ⟨i1, ei1⟩ := is_v hg5
  obtain rfl : w1 = (.int i1) := Option.some.inj ei1
  obtain ⟨i2, ei2⟩ := is_v hg7
  obtain rfl : w2 = (.int i2) := Option.some.inj ei2
  obtain ⟨i3, ei3⟩ := is_v hg8
  obtain rfl : w3 = (.int i3) := Option.some.inj ei3
  obtain ⟨cs_, ecs⟩ := is_v (Cond.before_iff.mp (hsets _ (List.mem_of_getElem? (i := 1) rfl)))
  have hcs_ : ¬ (cs_ = (0 : Int32)) := own_cs ecs (Cond.before_iff.mp (hsets _ (List.mem_of_getElem? (i := 2) rfl)))
  have Scs := Sta.start ecs (Or.inl (hsets _ (List.mem_of_getElem? (i := 0) rfl)))
  obtain ⟨n, o, h1, h2, h3, _, L, rfl, ⟨rfl, N⟩, hq⟩ := rm0 l s _ hw tables_1 i0 i1 i2 i3 cs_ s.heap s.heap.size (Nat.le_refl _) (Old.start s) Scs hcs_ p e ha hc hk s m _ below hf ((Spec.applies_iff_loose hf).mp happ).1 ⟨rfl, State.Warmed39.refl s, rfl, CHv.start (own_EW hw) (fun p hp => hcalls.1 p (own_in p hp)) (hsets _ (List.mem_of_getElem? (i := 2) rfl)) (hw _ (List.mem_of_getElem? (i := 19) rfl)) (hw _ (List.mem_of_getElem? (i := 2) rfl))⟩ trivial
  refine ⟨n, _, h1, h2, h3, hpost _ _ _ _ _ _ ⟨Cond.after_iff.mpr rfl, Cond.after_iff.mpr (eq_i res_at (Term.int_eval (1)) rfl), trivial⟩ ⟨hq.1, hq.2.1, hq.2.2.1, (hq.2.2.2.sift fun y hy => Or.inr (N y hy)).mono (by decide) (by decide)⟩⟩
theorem main_1_1 : Claimed_1_1 := comes_1 fun _ _ _ _ _ _ h hF => ⟨h.1, hF⟩
theorem main_1_2 : Claimed_1_2 := comes_1 fun _ _ _ _ _ _ h hF => ⟨h.2.1, hF⟩
end Jvm.Pilot.@@N@@
namespace Jvm.Pilot.@@N@@
open Jvm Jvm.ClassFile Sem Op Lib Jvm.Free Jvm.Stand Jvm.Pilot.@@N@@.Jvm.D
/-! MADE BY PROGRAM (witnessworld.py) out of the Statement's table words and the real class files: 21 classes; the members and pool entries that the words name. The judged class is class 1, her method 1. -/
namespace start1
open Jvm.ClassFile
def u (s : String) : CpInfo := .utf8 (stringToUtf16 s)
/-- a pool by its gaps: so many unusable entries, then the entry; so many at the end -/
def gap : Nat → List CpInfo → List CpInfo
  | 0, r => r
  | n + 1, r => .unusable :: gap n r
def poolList (es : List (Nat × CpInfo)) (last : Nat) : List CpInfo := es.foldr (fun e r => gap e.1 (e.2 :: r)) (gap last [])
def pool (es : List (Nat × CpInfo)) (last : Nat) : Array CpInfo := ⟨poolList es last⟩
def fileOf (pool : Array CpInfo) (this : Nat) (attrs : Array Attribute := #[]) (ms : Array MethodInfo := #[]) (fl : Nat := 33) (sup : Nat := 0) (ifs : Array Nat := #[]) (fds : Array FieldInfo := #[]) : ClassFile where
  minorVersion := 0
  majorVersion := 65
  constantPool := pool
  accessFlags := fl
  thisClass := this
  superClass := sup
  interfaces := ifs
  fields := fds
  methods := ms
  attributes := attrs
def plain (name : String) (sup : Option ClassId) : Class where
  name := name
  kind := .ordinary
  loader := none
  accessFlags := 33
  super := sup
  interfaces := #[]
  cf := none
  fields := #[]
  methods := #[]
  instanceTypes := #[]
  staticTypes := #[]
  resolved := #[]
  callSites := []
  init := .initialized
  statics := none
  mirror := none

def pool0 : Array CpInfo := pool [(5, u "<init>"), (0, u "()V"), (1, .class_ 10), (1, u "java/lang/Object")] 113

def k0c0 : Code := { maxStack := 0, maxLocals := 1, code := object_method_1_code, exceptionTable := #[], attributes := #[] }
def k0m0 : Method := { name := "<init>", desc := "()V", sig := { parameters := [], returnType := none }, accessFlags := 1, code := some k0c0 }
/-- java/lang/Object -/
def k0 : Class := { plain "java/lang/Object" none with
  accessFlags := 33
  interfaces := #[]
  cf := some (fileOf pool0 8 #[] #[{ accessFlags := 1, nameIndex := 5, descriptorIndex := 6, attributes := #[] }] 33 0 #[] #[])
  fields := #[]
  methods := #[k0m0]
  instanceTypes := #[]
  staticTypes := #[]
  resolved := Array.replicate 124 none
  statics := none }

def pool1 : Array CpInfo := pool [(2, .class_ 4), (1, u "java/lang/Object"), (0, u "<init>"), (0, u "()V"), (0, .class_ 8), (0, u "java/lang/String"), (0, .methodref 7 10), (0, .nameAndType 5 11), (0, u "([C)V"), (0, .methodref 7 13), (0, .nameAndType 14 15), (0, u "valueOf"), (0, u "(C)Ljava/lang/String;"), (0, .class_ 17), (0, u "com/example/tidemark/tidemark/Option"), (0, .methodref 16 19), (0, .nameAndType 5 20), (0, u "(Ljava/lang/String;Ljava/lang/String;Z)V"), (0, .methodref 16 22), (0, .nameAndType 23 24), (0, u "takesValue"), (0, u "()Z"), (0, .class_ 26), (0, u "com/example/tidemark/tidemark/OptionTakesValuePinLaw"), (2, u "law"), (0, u "(IIII)Z")] 3

def k1m0 : Method := { name := "<init>", desc := "()V", sig := { parameters := [], returnType := none }, accessFlags := 1, code := none }
def k1c1 : Code := { maxStack := 5, maxLocals := 11, code := code, exceptionTable := #[], attributes := #[] }
def k1m1 : Method := { name := "law", desc := "(IIII)Z", sig := { parameters := [.int, .int, .int, .int], returnType := some .boolean }, accessFlags := 9, code := some k1c1 }
/-- com/example/tidemark/tidemark/OptionTakesValuePinLaw -/
def k1 : Class := { plain "com/example/tidemark/tidemark/OptionTakesValuePinLaw" (some 0) with
  accessFlags := 49
  interfaces := #[]
  cf := some (fileOf pool1 25 #[] #[{ accessFlags := 1, nameIndex := 5, descriptorIndex := 6, attributes := #[] }, { accessFlags := 9, nameIndex := 29, descriptorIndex := 30, attributes := #[] }] 49 2 #[] #[])
  fields := #[]
  methods := #[k1m0, k1m1]
  instanceTypes := #[]
  staticTypes := #[]
  resolved := Array.replicate 34 none
  statics := none }

def pool2 : Array CpInfo := pool [(1, .class_ 2), (0, u "java/io/Serializable"), (0, .class_ 4), (0, u "java/lang/Object")] 2

/-- java/io/Serializable -/
def k2 : Class := { plain "java/io/Serializable" (some 0) with
  accessFlags := 1537
  interfaces := #[]
  cf := some (fileOf pool2 1 #[] #[] 1537 3 #[] #[])
  fields := #[]
  methods := #[]
  instanceTypes := #[]
  staticTypes := #[]
  resolved := Array.replicate 7 none
  statics := none }

def pool3 : Array CpInfo := pool [(1, .class_ 2), (0, u "java/lang/Comparable"), (0, .class_ 4), (0, u "java/lang/Object")] 7

/-- java/lang/Comparable -/
def k3 : Class := { plain "java/lang/Comparable" (some 0) with
  accessFlags := 1537
  interfaces := #[]
  cf := some (fileOf pool3 1 #[] #[] 1537 3 #[] #[])
  fields := #[]
  methods := #[]
  instanceTypes := #[]
  staticTypes := #[]
  resolved := Array.replicate 12 none
  statics := none }

def pool4 : Array CpInfo := pool [(2, .class_ 4), (1, u "java/lang/CharSequence"), (42, .class_ 48), (0, u "java/lang/CharSequence$1CodePointIterator"), (10, .class_ 60), (0, u "java/lang/CharSequence$1CharIterator"), (5, .class_ 67), (0, u "java/lang/Object")] 63

/-- java/lang/CharSequence -/
def k4 : Class := { plain "java/lang/CharSequence" (some 0) with
  accessFlags := 1537
  interfaces := #[]
  cf := some (fileOf pool4 2 #[.nestMembers #[47, 59]] #[] 1537 66 #[] #[])
  fields := #[]
  methods := #[]
  instanceTypes := #[]
  staticTypes := #[]
  resolved := Array.replicate 131 none
  statics := none }

def pool5 : Array CpInfo := pool [(1, .class_ 2), (0, u "java/lang/constant/Constable"), (0, .class_ 4), (0, u "java/lang/Object")] 6

/-- java/lang/constant/Constable -/
def k5 : Class := { plain "java/lang/constant/Constable" (some 0) with
  accessFlags := 1537
  interfaces := #[]
  cf := some (fileOf pool5 1 #[] #[] 1537 3 #[] #[])
  fields := #[]
  methods := #[]
  instanceTypes := #[]
  staticTypes := #[]
  resolved := Array.replicate 11 none
  statics := none }

def pool6 : Array CpInfo := pool [(1, .class_ 2), (0, u "java/lang/constant/ConstantDesc"), (0, .class_ 4), (0, u "java/lang/Object")] 32

/-- java/lang/constant/ConstantDesc -/
def k6 : Class := { plain "java/lang/constant/ConstantDesc" (some 0) with
  accessFlags := 1537
  interfaces := #[]
  cf := some (fileOf pool6 1 #[] #[] 1537 3 #[] #[])
  fields := #[]
  methods := #[]
  instanceTypes := #[]
  staticTypes := #[]
  resolved := Array.replicate 37 none
  statics := none }

def pool7 : Array CpInfo := pool [(1, .methodref 2 3), (0, .class_ 4), (0, .nameAndType 5 6), (0, u "java/lang/Object"), (0, u "<init>"), (0, u "()V"), (0, .string 8), (0, u ""), (0, .fieldref 10 11), (0, .class_ 12), (0, .nameAndType 13 14), (0, u "java/lang/String"), (0, u "value"), (0, u "[B"), (0, .fieldref 10 16), (0, .nameAndType 17 18), (0, u "coder"), (0, u "B"), (2, u "hash"), (0, u "I"), (2, u "hashIsZero"), (0, u "Z"), (0, .methodref 10 28), (0, .nameAndType 5 29), (0, u "([CIILjava/lang/Void;)V"), (8, .fieldref 10 39), (0, .nameAndType 40 26), (0, u "COMPACT_STRINGS"), (1, .class_ 44), (1, u "java/lang/StringUTF16"), (0, u "compress"), (1, .methodref 42 48), (0, .nameAndType 49 50), (0, u "coderFromArrayLen"), (0, u "([BI)B"), (2, u "toBytes"), (53, .class_ 109), (1, u "java/lang/StringLatin1"), (67, .methodref 42 178), (0, .nameAndType 45 179), (0, u "([CII)[B"), (29, .methodref 10 210), (0, .nameAndType 5 211), (0, u "([BB)V"), (157, u "(C)Z"), (205, .class_ 576), (0, u "java/lang/CharSequence"), (22, u "CASE_INSENSITIVE_ORDER"), (0, u "Ljava/util/Comparator;"), (181, u "valueOf"), (0, u "(C)Ljava/lang/String;"), (226, u "([C)V"), (4, .methodref 107 1016), (0, .nameAndType 1017 369), (0, u "canEncode"), (0, .methodref 107 1019), (0, .nameAndType 53 1020), (0, u "(C)[B"), (80, u "serialPersistentFields"), (0, u "[Ljava/io/ObjectStreamField;"), (0, .class_ 1104), (0, u "java/lang/String$CaseInsensitiveComparator"), (1, .class_ 1107), (0, u "java/io/Serializable"), (0, .class_ 1109), (0, u "java/lang/Comparable"), (0, .class_ 1111), (0, u "java/lang/constant/Constable"), (0, .class_ 1113), (0, u "java/lang/constant/ConstantDesc"), (2, u "serialVersionUID"), (0, u "J"), (3, u "REPL"), (0, u "C"), (2, u "LATIN1"), (1, u "UTF16")] 323

def k7m0 : Method := { name := "<init>", desc := "()V", sig := { parameters := [], returnType := none }, accessFlags := 1, code := none }
def k7c1 : Code := { maxStack := 5, maxLocals := 2, code := jdk_42_method_3_code, exceptionTable := #[], attributes := #[] }
def k7m1 : Method := { name := "<init>", desc := "([C)V", sig := { parameters := [(.array .char)], returnType := none }, accessFlags := 1, code := some k7c1 }
def k7c2 : Code := { maxStack := 4, maxLocals := 1, code := jdk_42_method_139_code, exceptionTable := #[], attributes := #[] }
def k7m2 : Method := { name := "valueOf", desc := "(C)Ljava/lang/String;", sig := { parameters := [.char], returnType := some (.object "java/lang/String") }, accessFlags := 9, code := some k7c2 }
def k7c3 : Code := { maxStack := 4, maxLocals := 6, code := jdk_42_method_149_code, exceptionTable := #[], attributes := #[] }
def k7m3 : Method := { name := "<init>", desc := "([CIILjava/lang/Void;)V", sig := { parameters := [(.array .char), .int, .int, (.object "java/lang/Void")], returnType := none }, accessFlags := 2, code := some k7c3 }
def k7c4 : Code := { maxStack := 2, maxLocals := 3, code := jdk_42_method_151_code, exceptionTable := #[], attributes := #[] }
def k7m4 : Method := { name := "<init>", desc := "([BB)V", sig := { parameters := [(.array .byte), .byte], returnType := none }, accessFlags := 0, code := some k7c4 }
/-- java/lang/String -/
def k7 : Class := { plain "java/lang/String" (some 0) with
  accessFlags := 49
  interfaces := #[2, 3, 4, 5, 6]
  cf := some (fileOf pool7 10 #[.nestMembers #[1103]] #[{ accessFlags := 1, nameIndex := 5, descriptorIndex := 6, attributes := #[] }, { accessFlags := 1, nameIndex := 5, descriptorIndex := 1010, attributes := #[] }, { accessFlags := 9, nameIndex := 782, descriptorIndex := 783, attributes := #[] }, { accessFlags := 2, nameIndex := 5, descriptorIndex := 29, attributes := #[] }, { accessFlags := 0, nameIndex := 5, descriptorIndex := 211, attributes := #[] }] 49 2 #[1106, 1108, 575, 1110, 1112] #[{ accessFlags := 18, nameIndex := 13, descriptorIndex := 14, attributes := #[] }, { accessFlags := 18, nameIndex := 17, descriptorIndex := 18, attributes := #[] }, { accessFlags := 2, nameIndex := 21, descriptorIndex := 22, attributes := #[] }, { accessFlags := 2, nameIndex := 25, descriptorIndex := 26, attributes := #[] }, { accessFlags := 26, nameIndex := 1116, descriptorIndex := 1117, attributes := #[] }, { accessFlags := 24, nameIndex := 40, descriptorIndex := 26, attributes := #[] }, { accessFlags := 26, nameIndex := 1101, descriptorIndex := 1102, attributes := #[] }, { accessFlags := 26, nameIndex := 1121, descriptorIndex := 1122, attributes := #[] }, { accessFlags := 25, nameIndex := 599, descriptorIndex := 600, attributes := #[] }, { accessFlags := 24, nameIndex := 1125, descriptorIndex := 18, attributes := #[] }, { accessFlags := 24, nameIndex := 1127, descriptorIndex := 18, attributes := #[] }])
  fields := #[{ name := "value", type := (.array .byte), accessFlags := 18, slot := 0, constantValue := 0 }, { name := "coder", type := .byte, accessFlags := 18, slot := 1, constantValue := 0 }, { name := "hash", type := .int, accessFlags := 2, slot := 2, constantValue := 0 }, { name := "hashIsZero", type := .boolean, accessFlags := 2, slot := 3, constantValue := 0 }, { name := "serialVersionUID", type := .long, accessFlags := 26, slot := 0, constantValue := 0 }, { name := "COMPACT_STRINGS", type := .boolean, accessFlags := 24, slot := 1, constantValue := 0 }, { name := "serialPersistentFields", type := (.array (.object "java/io/ObjectStreamField")), accessFlags := 26, slot := 2, constantValue := 0 }, { name := "REPL", type := .char, accessFlags := 26, slot := 3, constantValue := 0 }, { name := "CASE_INSENSITIVE_ORDER", type := (.object "java/util/Comparator"), accessFlags := 25, slot := 4, constantValue := 0 }, { name := "LATIN1", type := .byte, accessFlags := 24, slot := 5, constantValue := 0 }, { name := "UTF16", type := .byte, accessFlags := 24, slot := 6, constantValue := 0 }]
  methods := #[k7m0, k7m1, k7m2, k7m3, k7m4]
  instanceTypes := #[(.array .byte), .byte, .int, .boolean]
  staticTypes := #[.long, .boolean, (.array (.object "java/io/ObjectStreamField")), .char, (.object "java/util/Comparator"), .byte, .byte]
  resolved := Array.replicate 1451 none
  statics := some 0 }

def pool8 : Array CpInfo := pool [(6, .class_ 8), (1, u "java/lang/Object"), (0, u "<init>"), (0, u "()V"), (1, .class_ 14), (1, u "java/lang/StringUTF16"), (31, u "$assertionsDisabled"), (0, u "Z"), (13, u "HI_BYTE_SHIFT"), (0, u "I"), (2, u "LO_BYTE_SHIFT"), (49, .methodref 12 116), (0, .nameAndType 117 118), (0, u "compress"), (0, u "([CI[BII)I"), (3, u "([CII)[B"), (138, u "coderFromArrayLen"), (0, u "([BI)B"), (106, .class_ 371), (1, u "java/lang/StringUTF16$LinesSpliterator"), (58, u "MAX_LENGTH"), (196, .class_ 628), (0, u "java/lang/StringUTF16$CodePointsSpliterator"), (0, .class_ 630), (0, u "java/lang/StringUTF16$CharsSpliterator")] 4

def k8m0 : Method := { name := "<init>", desc := "()V", sig := { parameters := [], returnType := none }, accessFlags := 0, code := none }
def k8c1 : Code := { maxStack := 2, maxLocals := 2, code := jdk_52_method_15_code, exceptionTable := #[], attributes := #[] }
def k8m1 : Method := { name := "coderFromArrayLen", desc := "([BI)B", sig := { parameters := [(.array .byte), .int], returnType := some .byte }, accessFlags := 8, code := some k8c1 }
def k8c2 : Code := { maxStack := 5, maxLocals := 6, code := jdk_52_method_16_code, exceptionTable := #[], attributes := #[] }
def k8m2 : Method := { name := "compress", desc := "([CII)[B", sig := { parameters := [(.array .char), .int, .int], returnType := some (.array .byte) }, accessFlags := 9, code := some k8c2 }
def k8c3 : Code := { maxStack := 3, maxLocals := 7, code := jdk_52_method_21_code, exceptionTable := #[], attributes := #[] }
def k8m3 : Method := { name := "compress", desc := "([CI[BII)I", sig := { parameters := [(.array .char), .int, (.array .byte), .int, .int], returnType := some .int }, accessFlags := 9, code := some k8c3 }
/-- java/lang/StringUTF16 -/
def k8 : Class := { plain "java/lang/StringUTF16" (some 0) with
  accessFlags := 48
  interfaces := #[]
  cf := some (fileOf pool8 12 #[.nestMembers #[627, 629, 369]] #[{ accessFlags := 0, nameIndex := 9, descriptorIndex := 10, attributes := #[] }, { accessFlags := 8, nameIndex := 261, descriptorIndex := 262, attributes := #[] }, { accessFlags := 9, nameIndex := 117, descriptorIndex := 122, attributes := #[] }, { accessFlags := 9, nameIndex := 117, descriptorIndex := 118, attributes := #[] }] 48 6 #[] #[{ accessFlags := 26, nameIndex := 61, descriptorIndex := 62, attributes := #[] }, { accessFlags := 26, nameIndex := 65, descriptorIndex := 62, attributes := #[] }, { accessFlags := 24, nameIndex := 430, descriptorIndex := 62, attributes := #[] }, { accessFlags := 4120, nameIndex := 46, descriptorIndex := 47, attributes := #[] }])
  fields := #[{ name := "HI_BYTE_SHIFT", type := .int, accessFlags := 26, slot := 0, constantValue := 0 }, { name := "LO_BYTE_SHIFT", type := .int, accessFlags := 26, slot := 1, constantValue := 0 }, { name := "MAX_LENGTH", type := .int, accessFlags := 24, slot := 2, constantValue := 0 }, { name := "$assertionsDisabled", type := .boolean, accessFlags := 4120, slot := 3, constantValue := 0 }]
  methods := #[k8m0, k8m1, k8m2, k8m3]
  instanceTypes := #[]
  staticTypes := #[.int, .int, .int, .boolean]
  resolved := Array.replicate 635 none
  statics := none }

def pool9 : Array CpInfo := pool [(1, .methodref 2 3), (0, .class_ 4), (0, .nameAndType 5 6), (0, u "java/lang/Object"), (0, u "<init>"), (0, u "()V"), (0, .class_ 8), (0, u "java/lang/Record")] 13

def k9c0 : Code := { maxStack := 1, maxLocals := 1, code := jdk_30_method_1_code, exceptionTable := #[], attributes := #[] }
def k9m0 : Method := { name := "<init>", desc := "()V", sig := { parameters := [], returnType := none }, accessFlags := 4, code := some k9c0 }
/-- java/lang/Record -/
def k9 : Class := { plain "java/lang/Record" (some 0) with
  accessFlags := 1057
  interfaces := #[]
  cf := some (fileOf pool9 7 #[] #[{ accessFlags := 4, nameIndex := 5, descriptorIndex := 6, attributes := #[] }] 1057 2 #[] #[])
  fields := #[]
  methods := #[k9m0]
  instanceTypes := #[]
  staticTypes := #[]
  resolved := Array.replicate 22 none
  statics := none }

def pool10 : Array CpInfo := pool [(1, .methodref 2 3), (0, .class_ 4), (0, .nameAndType 5 6), (0, u "java/lang/Record"), (0, u "<init>"), (0, u "()V"), (0, .fieldref 8 9), (0, .class_ 10), (0, .nameAndType 11 12), (0, u "com/example/tidemark/tidemark/Option"), (0, u "name"), (0, u "Ljava/lang/String;"), (0, .fieldref 8 14), (0, .nameAndType 15 12), (0, u "value"), (0, .fieldref 8 17), (0, .nameAndType 18 19), (0, u "required"), (0, u "Z"), (2, u "(Ljava/lang/String;Ljava/lang/String;Z)V"), (32, u "takesValue"), (0, u "()Z")] 79

def k10c0 : Code := { maxStack := 2, maxLocals := 4, code := prog_25_method_1_code, exceptionTable := #[], attributes := #[] }
def k10m0 : Method := { name := "<init>", desc := "(Ljava/lang/String;Ljava/lang/String;Z)V", sig := { parameters := [(.object "java/lang/String"), (.object "java/lang/String"), .boolean], returnType := none }, accessFlags := 0, code := some k10c0 }
def k10c1 : Code := { maxStack := 1, maxLocals := 1, code := prog_25_method_6_code, exceptionTable := #[], attributes := #[] }
def k10m1 : Method := { name := "takesValue", desc := "()Z", sig := { parameters := [], returnType := some .boolean }, accessFlags := 0, code := some k10c1 }
/-- com/example/tidemark/tidemark/Option -/
def k10 : Class := { plain "com/example/tidemark/tidemark/Option" (some 9) with
  accessFlags := 48
  interfaces := #[]
  cf := some (fileOf pool10 8 #[] #[{ accessFlags := 0, nameIndex := 5, descriptorIndex := 22, attributes := #[] }, { accessFlags := 0, nameIndex := 55, descriptorIndex := 56, attributes := #[] }] 48 2 #[] #[{ accessFlags := 18, nameIndex := 11, descriptorIndex := 12, attributes := #[] }, { accessFlags := 18, nameIndex := 15, descriptorIndex := 12, attributes := #[] }, { accessFlags := 18, nameIndex := 18, descriptorIndex := 19, attributes := #[] }])
  fields := #[{ name := "name", type := (.object "java/lang/String"), accessFlags := 18, slot := 0, constantValue := 0 }, { name := "value", type := (.object "java/lang/String"), accessFlags := 18, slot := 1, constantValue := 0 }, { name := "required", type := .boolean, accessFlags := 18, slot := 2, constantValue := 0 }]
  methods := #[k10m0, k10m1]
  instanceTypes := #[(.object "java/lang/String"), (.object "java/lang/String"), .boolean]
  staticTypes := #[]
  resolved := Array.replicate 136 none
  statics := none }

def pool11 : Array CpInfo := pool [(4, .class_ 6), (1, u "java/lang/Object"), (0, u "<init>"), (0, u "()V"), (5, .class_ 16), (1, u "java/lang/StringLatin1"), (73, u "canEncode"), (14, u "(C)Z"), (15, u "$assertionsDisabled"), (0, u "Z"), (98, .class_ 223), (1, u "java/lang/StringLatin1$LinesSpliterator"), (156, u "toBytes"), (1, u "(C)[B"), (7, .class_ 391), (0, u "java/lang/StringLatin1$CharsSpliterator")] 3

def k11m0 : Method := { name := "<init>", desc := "()V", sig := { parameters := [], returnType := none }, accessFlags := 0, code := none }
def k11c1 : Code := { maxStack := 2, maxLocals := 1, code := jdk_43_method_3_code, exceptionTable := #[], attributes := #[] }
def k11m1 : Method := { name := "canEncode", desc := "(C)Z", sig := { parameters := [.char], returnType := some .boolean }, accessFlags := 9, code := some k11c1 }
def k11c2 : Code := { maxStack := 4, maxLocals := 1, code := jdk_43_method_46_code, exceptionTable := #[], attributes := #[] }
def k11m2 : Method := { name := "toBytes", desc := "(C)[B", sig := { parameters := [.char], returnType := some (.array .byte) }, accessFlags := 9, code := some k11c2 }
/-- java/lang/StringLatin1 -/
def k11 : Class := { plain "java/lang/StringLatin1" (some 0) with
  accessFlags := 48
  interfaces := #[]
  cf := some (fileOf pool11 14 #[.nestMembers #[390, 221]] #[{ accessFlags := 0, nameIndex := 7, descriptorIndex := 8, attributes := #[] }, { accessFlags := 9, nameIndex := 90, descriptorIndex := 105, attributes := #[] }, { accessFlags := 9, nameIndex := 380, descriptorIndex := 382, attributes := #[] }] 48 4 #[] #[{ accessFlags := 4120, nameIndex := 121, descriptorIndex := 122, attributes := #[] }])
  fields := #[{ name := "$assertionsDisabled", type := .boolean, accessFlags := 4120, slot := 0, constantValue := 0 }]
  methods := #[k11m0, k11m1, k11m2]
  instanceTypes := #[]
  staticTypes := #[.boolean]
  resolved := Array.replicate 395 none
  statics := none }

def pool12 : Array CpInfo := pool [(2, .class_ 4), (1, u "java/lang/Object"), (0, u "<init>"), (0, u "()V"), (17, .class_ 26), (1, u "jdk/internal/util/Preconditions"), (28, .class_ 56), (0, u "jdk/internal/util/Preconditions$4"), (57, .class_ 115), (0, u "jdk/internal/util/Preconditions$1"), (7, u "SIOOBE_FORMATTER"), (0, u "Ljava/util/function/BiFunction;"), (0, .class_ 126), (0, u "jdk/internal/util/Preconditions$2"), (3, u "AIOOBE_FORMATTER"), (0, .class_ 132), (0, u "jdk/internal/util/Preconditions$3"), (3, u "IOOBE_FORMATTER")] 57

def k12m0 : Method := { name := "<init>", desc := "()V", sig := { parameters := [], returnType := none }, accessFlags := 1, code := none }
/-- jdk/internal/util/Preconditions -/
def k12 : Class := { plain "jdk/internal/util/Preconditions" (some 0) with
  accessFlags := 33
  interfaces := #[]
  cf := some (fileOf pool12 24 #[.nestMembers #[55, 131, 125, 114]] #[{ accessFlags := 1, nameIndex := 5, descriptorIndex := 6, attributes := #[] }] 33 2 #[] #[{ accessFlags := 25, nameIndex := 123, descriptorIndex := 124, attributes := #[] }, { accessFlags := 25, nameIndex := 130, descriptorIndex := 124, attributes := #[] }, { accessFlags := 25, nameIndex := 136, descriptorIndex := 124, attributes := #[] }])
  fields := #[{ name := "SIOOBE_FORMATTER", type := (.object "java/util/function/BiFunction"), accessFlags := 25, slot := 0, constantValue := 0 }, { name := "AIOOBE_FORMATTER", type := (.object "java/util/function/BiFunction"), accessFlags := 25, slot := 1, constantValue := 0 }, { name := "IOOBE_FORMATTER", type := (.object "java/util/function/BiFunction"), accessFlags := 25, slot := 2, constantValue := 0 }]
  methods := #[k12m0]
  instanceTypes := #[]
  staticTypes := #[(.object "java/util/function/BiFunction"), (.object "java/util/function/BiFunction"), (.object "java/util/function/BiFunction")]
  resolved := Array.replicate 194 none
  statics := some 1 }

def pool13 : Array CpInfo := pool [(9, u "<init>"), (6, .class_ 18), (1, u "java/lang/Object"), (0, u "()V"), (1, .class_ 23), (1, u "jdk/internal/util/ArraysSupport"), (0, u "LOG2_ARRAY_LONG_INDEX_SCALE"), (0, u "I"), (2, u "U"), (0, u "Ljdk/internal/misc/Unsafe;"), (8, u "BIG_ENDIAN"), (0, u "Z"), (8, u "LOG2_BYTE_BIT_SIZE"), (4, u "LOG2_ARRAY_INT_INDEX_SCALE"), (54, u "JLA"), (0, u "Ljdk/internal/access/JavaLangAccess;"), (11, u "LOG2_ARRAY_BOOLEAN_INDEX_SCALE"), (9, u "LOG2_ARRAY_BYTE_INDEX_SCALE"), (5, u "LOG2_ARRAY_CHAR_INDEX_SCALE"), (5, u "LOG2_ARRAY_SHORT_INDEX_SCALE"), (18, u "LOG2_ARRAY_FLOAT_INDEX_SCALE"), (24, u "LOG2_ARRAY_DOUBLE_INDEX_SCALE"), (89, u "T_BOOLEAN"), (2, u "T_CHAR"), (1, u "T_FLOAT"), (1, u "T_DOUBLE"), (1, u "T_BYTE"), (1, u "T_SHORT"), (1, u "T_INT"), (1, u "T_LONG"), (1, u "SOFT_MAX_ARRAY_LENGTH")] 83

def k13m0 : Method := { name := "<init>", desc := "()V", sig := { parameters := [], returnType := none }, accessFlags := 2, code := none }
/-- jdk/internal/util/ArraysSupport -/
def k13 : Class := { plain "jdk/internal/util/ArraysSupport" (some 0) with
  accessFlags := 33
  interfaces := #[]
  cf := some (fileOf pool13 21 #[] #[{ accessFlags := 2, nameIndex := 9, descriptorIndex := 19, attributes := #[] }] 33 16 #[] #[{ accessFlags := 24, nameIndex := 28, descriptorIndex := 29, attributes := #[] }, { accessFlags := 26, nameIndex := 38, descriptorIndex := 39, attributes := #[] }, { accessFlags := 25, nameIndex := 121, descriptorIndex := 25, attributes := #[] }, { accessFlags := 25, nameIndex := 131, descriptorIndex := 25, attributes := #[] }, { accessFlags := 25, nameIndex := 137, descriptorIndex := 25, attributes := #[] }, { accessFlags := 25, nameIndex := 143, descriptorIndex := 25, attributes := #[] }, { accessFlags := 25, nameIndex := 53, descriptorIndex := 25, attributes := #[] }, { accessFlags := 25, nameIndex := 24, descriptorIndex := 25, attributes := #[] }, { accessFlags := 25, nameIndex := 162, descriptorIndex := 25, attributes := #[] }, { accessFlags := 25, nameIndex := 187, descriptorIndex := 25, attributes := #[] }, { accessFlags := 26, nameIndex := 48, descriptorIndex := 25, attributes := #[] }, { accessFlags := 25, nameIndex := 277, descriptorIndex := 25, attributes := #[] }, { accessFlags := 25, nameIndex := 280, descriptorIndex := 25, attributes := #[] }, { accessFlags := 25, nameIndex := 282, descriptorIndex := 25, attributes := #[] }, { accessFlags := 25, nameIndex := 284, descriptorIndex := 25, attributes := #[] }, { accessFlags := 25, nameIndex := 286, descriptorIndex := 25, attributes := #[] }, { accessFlags := 25, nameIndex := 288, descriptorIndex := 25, attributes := #[] }, { accessFlags := 25, nameIndex := 290, descriptorIndex := 25, attributes := #[] }, { accessFlags := 25, nameIndex := 292, descriptorIndex := 25, attributes := #[] }, { accessFlags := 26, nameIndex := 108, descriptorIndex := 109, attributes := #[] }, { accessFlags := 25, nameIndex := 294, descriptorIndex := 25, attributes := #[] }])
  fields := #[{ name := "U", type := (.object "jdk/internal/misc/Unsafe"), accessFlags := 24, slot := 0, constantValue := 0 }, { name := "BIG_ENDIAN", type := .boolean, accessFlags := 26, slot := 1, constantValue := 0 }, { name := "LOG2_ARRAY_BOOLEAN_INDEX_SCALE", type := .int, accessFlags := 25, slot := 2, constantValue := 0 }, { name := "LOG2_ARRAY_BYTE_INDEX_SCALE", type := .int, accessFlags := 25, slot := 3, constantValue := 0 }, { name := "LOG2_ARRAY_CHAR_INDEX_SCALE", type := .int, accessFlags := 25, slot := 4, constantValue := 0 }, { name := "LOG2_ARRAY_SHORT_INDEX_SCALE", type := .int, accessFlags := 25, slot := 5, constantValue := 0 }, { name := "LOG2_ARRAY_INT_INDEX_SCALE", type := .int, accessFlags := 25, slot := 6, constantValue := 0 }, { name := "LOG2_ARRAY_LONG_INDEX_SCALE", type := .int, accessFlags := 25, slot := 7, constantValue := 0 }, { name := "LOG2_ARRAY_FLOAT_INDEX_SCALE", type := .int, accessFlags := 25, slot := 8, constantValue := 0 }, { name := "LOG2_ARRAY_DOUBLE_INDEX_SCALE", type := .int, accessFlags := 25, slot := 9, constantValue := 0 }, { name := "LOG2_BYTE_BIT_SIZE", type := .int, accessFlags := 26, slot := 10, constantValue := 0 }, { name := "T_BOOLEAN", type := .int, accessFlags := 25, slot := 11, constantValue := 0 }, { name := "T_CHAR", type := .int, accessFlags := 25, slot := 12, constantValue := 0 }, { name := "T_FLOAT", type := .int, accessFlags := 25, slot := 13, constantValue := 0 }, { name := "T_DOUBLE", type := .int, accessFlags := 25, slot := 14, constantValue := 0 }, { name := "T_BYTE", type := .int, accessFlags := 25, slot := 15, constantValue := 0 }, { name := "T_SHORT", type := .int, accessFlags := 25, slot := 16, constantValue := 0 }, { name := "T_INT", type := .int, accessFlags := 25, slot := 17, constantValue := 0 }, { name := "T_LONG", type := .int, accessFlags := 25, slot := 18, constantValue := 0 }, { name := "JLA", type := (.object "jdk/internal/access/JavaLangAccess"), accessFlags := 26, slot := 19, constantValue := 0 }, { name := "SOFT_MAX_ARRAY_LENGTH", type := .int, accessFlags := 25, slot := 20, constantValue := 0 }]
  methods := #[k13m0]
  instanceTypes := #[]
  staticTypes := #[(.object "jdk/internal/misc/Unsafe"), .boolean, .int, .int, .int, .int, .int, .int, .int, .int, .int, .int, .int, .int, .int, .int, .int, .int, .int, (.object "jdk/internal/access/JavaLangAccess"), .int]
  resolved := Array.replicate 378 none
  statics := none }

def pool14 : Array CpInfo := pool [(1, u "java/lang/Cloneable"), (0, .class_ 1), (0, u "java/lang/Object"), (0, .class_ 3)] 3

/-- java/lang/Cloneable -/
def k14 : Class := { plain "java/lang/Cloneable" (some 0) with
  accessFlags := 1537
  interfaces := #[]
  cf := some (fileOf pool14 2 #[] #[] 1537 4 #[] #[])
  fields := #[]
  methods := #[]
  instanceTypes := #[]
  staticTypes := #[]
  resolved := Array.replicate 8 none
  statics := none }

/-- the primitive byte -/
def k15 : Class := { plain "byte" none with kind := .primitive 'B', accessFlags := 0x411 }
/-- [B -/
def k16 : Class := { plain "[B" (some 0) with kind := .array 15 .byte, interfaces := #[14, 2], accessFlags := 1041 }

/-- the primitive char -/
def k17 : Class := { plain "char" none with kind := .primitive 'C', accessFlags := 0x411 }
/-- [C -/
def k18 : Class := { plain "[C" (some 0) with kind := .array 17 .char, interfaces := #[14, 2], accessFlags := 1041 }

/-- the primitive int -/
def k19 : Class := { plain "int" none with kind := .primitive 'I', accessFlags := 0x411 }
/-- [I -/
def k20 : Class := { plain "[I" (some 0) with kind := .array 19 .int, interfaces := #[14, 2], accessFlags := 1041 }

def heap : Heap := #[{ cls := 7, slots := #[.long 0, .int 1, .null, .int 0, .null, .int 0, .int 0], vm := .statics 7 },
  { cls := 12, slots := #[.null, .null, .null], vm := .statics 12 }]
def classes : Array Class := #[k0, k1, k2, k3, k4, k5, k6, k7, k8, k9, k10, k11, k12, k13, k14, k15, k16, k17, k18, k19, k20]
def interned : List (Array UInt16 × Addr) := []
def slotsUsed : Nat := 10
def theMethod : MethodId := ⟨1, 1⟩
def args0 : Array Value := #[.int 5, .int 9, .int 3, .int 1]
def aboutOver (below : List Frame) : State where
  vm := { classes := classes, interned := interned.toArray }
  heap := heap
  slotsUsed := slotsUsed
  threads := #[{ frames := .invoking theMethod args0 :: below }]
def below0 : List Frame := [.native { method := ⟨0, 0⟩, args := #[] }]
def about1 : State := aboutOver below0
def p0 : Program := .bare "" "" ""
def e0 : Env := launch0.env 0 0 0
theorem w_frames : about1.frames = Frame.invoking theMethod args0 :: below0 := rfl
set_option maxRecDepth 65536 in
theorem w_args : argsFit about1.vm theMethod args0 = true := by decide +kernel
set_option maxRecDepth 65536 in
theorem w_heap : heapFits about1 = true := by decide +kernel
set_option maxRecDepth 65536 in
theorem w_runnable : about1.curStatus? = some .runnable := by decide +kernel
set_option maxRecDepth 65536 in
theorem w_alone : about1.alone = true := by decide +kernel
set_option maxRecDepth 65536 in
theorem w_named : about1.methodNamed? x = some theMethod := by decide +kernel
set_option maxRecDepth 65536 in
theorem w_hears : about1.hears theMethod below0 = true := by decide +kernel
set_option maxRecDepth 65536 in
theorem w_ripe : about1.ripe theMethod args0 below0 = true := by decide +kernel
theorem w_running : about1.status = .running := rfl
set_option maxRecDepth 65536 in
theorem w_room : about1.hasRoom e0.platform room_1 = true :=
  launch0.hasRoom_least _ room_1 (by decide +kernel) (by decide +kernel) (by decide +kernel) (by decide +kernel) (by decide +kernel) (by decide +kernel)
theorem allAtoms_all (ts : List Jvm.Cond) (a : Array Jvm.Value) (st : Jvm.State) : (allAtoms ts).before a st = ts.all (fun c => c.before a st) := by
  induction ts with
  | nil => rfl
  | cons c t ih =>
    show (Jvm.Cond.and c (allAtoms t)).before a st = _
    rw [Jvm.Cond.before_and, ih, List.all_cons]
def words1 : List Jvm.Cond := Jvm.Cond.code x code maxLocals ret :: tables_1
/-- a 'code' word, met by the world's own term for the bytes: nothing is compared byte by byte -/
theorem code_word {y : MethodName} {bytes : ByteArray} {mx : Nat} {rt : Option FieldType} {a : Array Value} {s : State} {m : MethodId} {meth : Method} {c : Code} (h1 : s.methodNamed? y = some m) (h2 : s.vm.method? m = some meth) (h3 : meth.code = some c) (h4 : c.code = bytes)
    (h5 : (c.maxLocals == mx && c.exceptionTable.isEmpty && decide (c.maxStack ≤ mostOperands) && decide (meth.sig.returnType = rt) && !meth.locks && decide (parseMethodDescriptor y.desc = some meth.sig)) = true) : (Jvm.Cond.code y bytes mx rt).before a s = true := by
  simp only [Bool.and_eq_true, beq_iff_eq, Bool.not_eq_true', decide_eq_true_eq] at h5
  obtain ⟨⟨⟨⟨⟨g1, g2⟩, g3⟩, g4⟩, g5⟩, g6⟩ := h5
  simp [Cond.before, Cond.holds, Cond.value, h1, h2, h3, h4, g1, g2, g3, g4, g5, g6]
def isCode : Jvm.Cond → Bool
  | .code _ _ _ _ => true
  | _ => false
theorem all_split {L : List Jvm.Cond} {P : Jvm.Cond → Bool} (h1 : L.all (fun c => isCode c || P c) = true) (h2 : ∀ c ∈ L.filter isCode, P c = true) : L.all P = true := by
  refine List.all_eq_true.mpr fun c hc => ?_
  have h := List.all_eq_true.mp h1 c hc
  rcases Bool.eq_false_or_eq_true (isCode c) with hi | hi
  · exact h2 c (List.mem_filter.mpr ⟨hc, hi⟩)
  · simpa [hi] using h
set_option maxRecDepth 65536 in
theorem w_c0 : (Jvm.Cond.code x code maxLocals ret).before args0 about1 = true := code_word (m := ⟨1, 1⟩) (meth := k1m1) (c := k1c1) (by decide +kernel) rfl rfl rfl (by decide +kernel)
set_option maxRecDepth 65536 in
theorem w_c1 : (Jvm.Cond.code ({ cls := "java/lang/String", name := "<init>", desc := "([C)V" } : Jvm.MethodName) jdk_42_method_3_code (2 : Nat) (Option.none : Option Jvm.ClassFile.FieldType)).before args0 about1 = true := code_word (m := ⟨7, 1⟩) (meth := k7m1) (c := k7c1) (by decide +kernel) rfl rfl rfl (by decide +kernel)
set_option maxRecDepth 65536 in
theorem w_c2 : (Jvm.Cond.code ({ cls := "java/lang/String", name := "<init>", desc := "([CIILjava/lang/Void;)V" } : Jvm.MethodName) jdk_42_method_149_code (6 : Nat) (Option.none : Option Jvm.ClassFile.FieldType)).before args0 about1 = true := code_word (m := ⟨7, 3⟩) (meth := k7m3) (c := k7c3) (by decide +kernel) rfl rfl rfl (by decide +kernel)
set_option maxRecDepth 65536 in
theorem w_c3 : (Jvm.Cond.code ({ cls := "java/lang/Object", name := "<init>", desc := "()V" } : Jvm.MethodName) object_method_1_code (1 : Nat) (Option.none : Option Jvm.ClassFile.FieldType)).before args0 about1 = true := code_word (m := ⟨0, 0⟩) (meth := k0m0) (c := k0c0) (by decide +kernel) rfl rfl rfl (by decide +kernel)
set_option maxRecDepth 65536 in
theorem w_c4 : (Jvm.Cond.code ({ cls := "java/lang/StringUTF16", name := "compress", desc := "([CII)[B" } : Jvm.MethodName) jdk_52_method_16_code (6 : Nat) (Option.some (Jvm.ClassFile.FieldType.array Jvm.ClassFile.FieldType.byte))).before args0 about1 = true := code_word (m := ⟨8, 2⟩) (meth := k8m2) (c := k8c2) (by decide +kernel) rfl rfl rfl (by decide +kernel)
set_option maxRecDepth 65536 in
theorem w_c5 : (Jvm.Cond.code ({ cls := "java/lang/StringUTF16", name := "compress", desc := "([CI[BII)I" } : Jvm.MethodName) jdk_52_method_21_code (7 : Nat) (Option.some Jvm.ClassFile.FieldType.int)).before args0 about1 = true := code_word (m := ⟨8, 3⟩) (meth := k8m3) (c := k8c3) (by decide +kernel) rfl rfl rfl (by decide +kernel)
set_option maxRecDepth 65536 in
theorem w_c6 : (Jvm.Cond.code ({ cls := "java/lang/StringUTF16", name := "coderFromArrayLen", desc := "([BI)B" } : Jvm.MethodName) jdk_52_method_15_code (2 : Nat) (Option.some Jvm.ClassFile.FieldType.byte)).before args0 about1 = true := code_word (m := ⟨8, 1⟩) (meth := k8m1) (c := k8c1) (by decide +kernel) rfl rfl rfl (by decide +kernel)
set_option maxRecDepth 65536 in
theorem w_c7 : (Jvm.Cond.code ({ cls := "com/example/tidemark/tidemark/Option", name := "<init>", desc := "(Ljava/lang/String;Ljava/lang/String;Z)V" } : Jvm.MethodName) prog_25_method_1_code (4 : Nat) (Option.none : Option Jvm.ClassFile.FieldType)).before args0 about1 = true := code_word (m := ⟨10, 0⟩) (meth := k10m0) (c := k10c0) (by decide +kernel) rfl rfl rfl (by decide +kernel)
set_option maxRecDepth 65536 in
theorem w_c8 : (Jvm.Cond.code ({ cls := "java/lang/Record", name := "<init>", desc := "()V" } : Jvm.MethodName) jdk_30_method_1_code (1 : Nat) (Option.none : Option Jvm.ClassFile.FieldType)).before args0 about1 = true := code_word (m := ⟨9, 0⟩) (meth := k9m0) (c := k9c0) (by decide +kernel) rfl rfl rfl (by decide +kernel)
set_option maxRecDepth 65536 in
theorem w_c9 : (Jvm.Cond.code ({ cls := "com/example/tidemark/tidemark/Option", name := "takesValue", desc := "()Z" } : Jvm.MethodName) prog_25_method_6_code (1 : Nat) (Option.some Jvm.ClassFile.FieldType.boolean)).before args0 about1 = true := code_word (m := ⟨10, 1⟩) (meth := k10m1) (c := k10c1) (by decide +kernel) rfl rfl rfl (by decide +kernel)
set_option maxRecDepth 65536 in
theorem w_c10 : (Jvm.Cond.code ({ cls := "java/lang/String", name := "valueOf", desc := "(C)Ljava/lang/String;" } : Jvm.MethodName) jdk_42_method_139_code (1 : Nat) (Option.some (Jvm.ClassFile.FieldType.object "java/lang/String"))).before args0 about1 = true := code_word (m := ⟨7, 2⟩) (meth := k7m2) (c := k7c2) (by decide +kernel) rfl rfl rfl (by decide +kernel)
set_option maxRecDepth 65536 in
theorem w_c11 : (Jvm.Cond.code ({ cls := "java/lang/StringLatin1", name := "canEncode", desc := "(C)Z" } : Jvm.MethodName) jdk_43_method_3_code (1 : Nat) (Option.some Jvm.ClassFile.FieldType.boolean)).before args0 about1 = true := code_word (m := ⟨11, 1⟩) (meth := k11m1) (c := k11c1) (by decide +kernel) rfl rfl rfl (by decide +kernel)
set_option maxRecDepth 65536 in
theorem w_c12 : (Jvm.Cond.code ({ cls := "java/lang/StringLatin1", name := "toBytes", desc := "(C)[B" } : Jvm.MethodName) jdk_43_method_46_code (1 : Nat) (Option.some (Jvm.ClassFile.FieldType.array Jvm.ClassFile.FieldType.byte))).before args0 about1 = true := code_word (m := ⟨11, 2⟩) (meth := k11m2) (c := k11c2) (by decide +kernel) rfl rfl rfl (by decide +kernel)
set_option maxRecDepth 65536 in
theorem w_c13 : (Jvm.Cond.code ({ cls := "java/lang/String", name := "<init>", desc := "([BB)V" } : Jvm.MethodName) jdk_42_method_151_code (3 : Nat) (Option.none : Option Jvm.ClassFile.FieldType)).before args0 about1 = true := code_word (m := ⟨7, 4⟩) (meth := k7m4) (c := k7c4) (by decide +kernel) rfl rfl rfl (by decide +kernel)
def codes1 : List Jvm.Cond := [Jvm.Cond.code x code maxLocals ret, Jvm.Cond.code ({ cls := "java/lang/String", name := "<init>", desc := "([C)V" } : Jvm.MethodName) jdk_42_method_3_code (2 : Nat) (Option.none : Option Jvm.ClassFile.FieldType), Jvm.Cond.code ({ cls := "java/lang/String", name := "<init>", desc := "([CIILjava/lang/Void;)V" } : Jvm.MethodName) jdk_42_method_149_code (6 : Nat) (Option.none : Option Jvm.ClassFile.FieldType), Jvm.Cond.code ({ cls := "java/lang/Object", name := "<init>", desc := "()V" } : Jvm.MethodName) object_method_1_code (1 : Nat) (Option.none : Option Jvm.ClassFile.FieldType), Jvm.Cond.code ({ cls := "java/lang/StringUTF16", name := "compress", desc := "([CII)[B" } : Jvm.MethodName) jdk_52_method_16_code (6 : Nat) (Option.some (Jvm.ClassFile.FieldType.array Jvm.ClassFile.FieldType.byte)), Jvm.Cond.code ({ cls := "java/lang/StringUTF16", name := "compress", desc := "([CI[BII)I" } : Jvm.MethodName) jdk_52_method_21_code (7 : Nat) (Option.some Jvm.ClassFile.FieldType.int), Jvm.Cond.code ({ cls := "java/lang/StringUTF16", name := "coderFromArrayLen", desc := "([BI)B" } : Jvm.MethodName) jdk_52_method_15_code (2 : Nat) (Option.some Jvm.ClassFile.FieldType.byte), Jvm.Cond.code ({ cls := "com/example/tidemark/tidemark/Option", name := "<init>", desc := "(Ljava/lang/String;Ljava/lang/String;Z)V" } : Jvm.MethodName) prog_25_method_1_code (4 : Nat) (Option.none : Option Jvm.ClassFile.FieldType), Jvm.Cond.code ({ cls := "java/lang/Record", name := "<init>", desc := "()V" } : Jvm.MethodName) jdk_30_method_1_code (1 : Nat) (Option.none : Option Jvm.ClassFile.FieldType), Jvm.Cond.code ({ cls := "com/example/tidemark/tidemark/Option", name := "takesValue", desc := "()Z" } : Jvm.MethodName) prog_25_method_6_code (1 : Nat) (Option.some Jvm.ClassFile.FieldType.boolean), Jvm.Cond.code ({ cls := "java/lang/String", name := "valueOf", desc := "(C)Ljava/lang/String;" } : Jvm.MethodName) jdk_42_method_139_code (1 : Nat) (Option.some (Jvm.ClassFile.FieldType.object "java/lang/String")), Jvm.Cond.code ({ cls := "java/lang/StringLatin1", name := "canEncode", desc := "(C)Z" } : Jvm.MethodName) jdk_43_method_3_code (1 : Nat) (Option.some Jvm.ClassFile.FieldType.boolean), Jvm.Cond.code ({ cls := "java/lang/StringLatin1", name := "toBytes", desc := "(C)[B" } : Jvm.MethodName) jdk_43_method_46_code (1 : Nat) (Option.some (Jvm.ClassFile.FieldType.array Jvm.ClassFile.FieldType.byte)), Jvm.Cond.code ({ cls := "java/lang/String", name := "<init>", desc := "([BB)V" } : Jvm.MethodName) jdk_42_method_151_code (3 : Nat) (Option.none : Option Jvm.ClassFile.FieldType)]
set_option maxRecDepth 65536 in
theorem codes_eq : words1.filter isCode = codes1 := rfl
theorem w_codes : ∀ c ∈ words1.filter isCode, c.before args0 about1 = true := by
  rw [codes_eq]
  intro c hc
  simp only [codes1, List.mem_cons, List.not_mem_nil, or_false] at hc
  rcases hc with rfl | rfl | rfl | rfl | rfl | rfl | rfl | rfl | rfl | rfl | rfl | rfl | rfl | rfl
  · exact w_c0
  · exact w_c1
  · exact w_c2
  · exact w_c3
  · exact w_c4
  · exact w_c5
  · exact w_c6
  · exact w_c7
  · exact w_c8
  · exact w_c9
  · exact w_c10
  · exact w_c11
  · exact w_c12
  · exact w_c13
set_option maxRecDepth 65536 in
theorem w_t1 : (words1.take 24).all (fun c => isCode c || c.before args0 about1) = true := by decide +kernel
set_option maxRecDepth 65536 in
theorem w_t2 : ((words1.drop 24).take 24).all (fun c => isCode c || c.before args0 about1) = true := by decide +kernel
set_option maxRecDepth 65536 in
theorem w_t3 : ((words1.drop 24).drop 24).all (fun c => isCode c || c.before args0 about1) = true := by decide +kernel
theorem w_tables : (allAtoms (Jvm.Cond.code x code maxLocals ret :: tables_1)).before args0 about1 = true := by
  rw [allAtoms_all]
  show words1.all (fun c => c.before args0 about1) = true
  refine all_split ?_ w_codes
  rw [← List.take_append_drop 24 words1, List.all_append, w_t1, ← List.take_append_drop 24 (words1.drop 24), List.all_append, w_t2, w_t3]
  rfl
set_option maxRecDepth 65536 in
theorem w_rest : rest_1_c.before args0 about1 = true := by decide +kernel
set_option maxRecDepth 65536 in
theorem w_case : (Jvm.Cond.and given_1 narrow_1).before args0 about1 = true := by decide +kernel
set_option maxRecDepth 65536 in
theorem w_consts : constsHeld consts_1 about1 := Jvm.Lit.constsHeldB_iff.mp (by decide +kernel)
theorem w_applies : (headSpec (Jvm.Cond.code x code maxLocals ret :: tables_1) room_1).applies x e0.platform about1 = true :=
  (Spec.applies_iff w_frames).mpr ⟨w_running, w_runnable, w_alone, w_named, w_hears, w_ripe, w_room, w_tables⟩
theorem atStart : AtStart classFile x code maxLocals ret World_1 tables_1 room_1 Calls_1 rest_1 Pre_1 launch0 p0 e0 about1 theMethod args0 below0 :=
  ⟨lists_1, trivial, launch0.admits_env _ _ _, launch0.least_env, fairChoices_fair.cas, fairChoices_fair.clock, w_frames, w_args, w_heap, w_applies, ⟨w_consts, trivial⟩, w_rest, w_case⟩
end start1
theorem witness_1 : WitnessClaimed_1 := ⟨start1.p0, start1.e0, start1.about1, start1.theMethod, start1.args0, start1.below0, start1.atStart⟩
end Jvm.Pilot.@@N@@
